import PyProof.Rows.All
import Wide.All
import OpenK.AllK
import Wide.FinOn
import Lean
import PySem.Challenge.RW_bi0011_01
set_option Elab.async false
set_option maxRecDepth 100000

namespace Mine
open PySem PySem.W PyProof.Rows
set_option maxHeartbeats 8000000 in
open_top hd for PySem.Challenge.rw_bi0011_01
end Mine

namespace Mine
open PySem PySem.W PySem.Calls PyProof.Rows

/-- the written part of the heap -/
@[reducible] noncomputable def KF (w : World) : Frag := hd.heap_39 w.params

/-- the addresses of the frames of a list of surroundings -/
def frs (outer : List Env) : List Addr := outer.filterMap (·.frame)

structure Amb (A : Around) (outer : List Env) (d u : Nat) : Prop where
  handled : A.handled = none
  frames : A.frames = some outer
  depth : A.depth + d < recursionLimit
  units : A.units + u < cLine

section
variable {A : Around} {outer : List Env} {d u d' u' : Nat} {env : Env}
theorem Amb.deeper (h : Amb A outer (d + 1) (u + 3)) : Amb (A.deeper env) (env :: outer) d u :=
  ⟨h.handled, by show A.frames.map _ = _; rw [h.frames]; rfl, by have := h.depth; show A.depth + 1 + d < _; omega,
   by have := h.units; show A.units + 3 + u < _; omega⟩
theorem Amb.in1 (h : Amb A outer d (u + 1)) : Amb A.in1 outer d u :=
  ⟨h.handled, h.frames, h.depth, by have := h.units; show A.units + 1 + u < _; omega⟩
theorem Amb.mono (h : Amb A outer d u) (hd : d' ≤ d) (hu : u' ≤ u) : Amb A outer d' u' :=
  ⟨h.handled, h.frames, by have := h.depth; omega, by have := h.units; omega⟩
theorem Amb.room (h : Amb A outer d u) : A.depth < recursionLimit := by have := h.depth; omega
end

/-- where the eight nodes (0, 1: the heads; 2..7: the items) and the kind lie -/
structure Cfg (nn : Nat) where
  na : Nat → Addr
  da : Nat → Addr
  tk : Nat → Tok
  ka : Addr
  kd : Addr

def Cfg.D {nn : Nat} (c : Cfg nn) (b : Addr) : Prop := ∃ j, j < nn ∧ b = c.da j

def globalNames : List (Str × Value) := [("CircularListType", .ref 193), ("OutgoingRoute", .ref 238), ("_law_put", .ref 249), ("_law_same", .ref 254)]
def builtinNames : List (Str × Value) := [("AttributeError", .type "AttributeError"), ("AssertionError", .type "AssertionError"), ("range", .type "range"), ("len", .builtin "len")]

structure Cx (w : World) (base : Heap) {nn : Nat} (c : Cfg nn) : Prop where
  K : (KF w).In base
  names : ∃ mg mb, base.Ns mainGlobals mg ∧ base.Ns builtinsNs mb ∧ (∀ x v, (x, v) ∈ globalNames → mg x = some v) ∧ (∀ x v, (x, v) ∈ builtinNames → mg x = none ∧ mb x = some v)
  lim : base.NoLimit
  inj : ∀ i j, i < nn → j < nn → c.da i = c.da j → i = j
  kd : ∀ j, j < nn → c.da j ≠ c.kd
  fresh : ∀ j, j < nn → base.get? (c.da j) = none

structure Ok (base : Heap) {nn : Nat} (c : Cfg nn) (outer : List Env) (h : Heap) : Prop where
  stays : base.StaysIn h
  frames : h.FunFrames base outer
  dicts : ∀ b ∈ frs outer, ∃ o es n, h.get? b = some o ∧ o.data = .dict es n
  apart : ∀ b ∈ frs outer, b ≠ c.kd ∧ ∀ j, j < nn → b ≠ c.da j

structure Turn {nn : Nat} (c : Cfg nn) (fs : List Addr) (h h' : Heap) : Prop where
  same : ∀ b o, h.get? b = some o → b ∉ fs → ¬ c.D b → h'.get? b = some o
  frame : ∀ b o, h.get? b = some o → b ∈ fs → ∃ sl, h'.get? b = some { o with slots := sl }

/-- everything stays -/
def Keeps (h h' : Heap) : Prop := ∀ b o, h.get? b = some o → h'.get? b = some o

theorem Keeps.refl {h : Heap} : Keeps h h := fun _ _ e => e
theorem Keeps.trans {h h₁ h₂ : Heap} (x : Keeps h h₁) (y : Keeps h₁ h₂) : Keeps h h₂ := fun b o e => y b o (x b o e)

section
variable {w : World} {base h h' h₁ h₂ : Heap} {nn : Nat} {c : Cfg nn} {outer : List Env} {fs : List Addr} {env : Env}

theorem Turn.of_keeps (k : Keeps h h') : Turn c fs h h' := ⟨fun b o e _ _ => k b o e, fun b o e _ => ⟨o.slots, k b o e⟩⟩
theorem Turn.refl : Turn c fs h h := Turn.of_keeps Keeps.refl
theorem Turn.trans (x : Turn c fs h h₁) (y : Turn c fs h₁ h₂) : Turn c fs h h₂ :=
  ⟨fun b o e n m => y.same b o (x.same b o e n m) n m, fun b o e m => by
    obtain ⟨_, e1⟩ := x.frame b o e m
    obtain ⟨sl, e2⟩ := y.frame b _ e1 m
    exact ⟨sl, e2⟩⟩

/-- a turn of a frame that the first heap does not know, and of those outside -/
theorem Turn.drop {L : Addr} (x : Turn c (L :: fs) h h') (hL : h.get? L = none) : Turn c fs h h' :=
  ⟨fun b o e n m => x.same b o e (fun q => by
      rcases List.mem_cons.mp q with rfl | q
      · rw [hL] at e; cases e
      · exact n q) m, fun b o e m => x.frame b o e (.tail _ m)⟩

theorem Ok.keeps (k : Ok base c outer h) (x : Keeps h h') : Ok base c outer h' :=
  ⟨fun b o e => x b o (k.stays b o e), k.frames.of_keeps fun b o e _ => ⟨o, x b o e, rfl⟩,
   fun b m => by obtain ⟨o, es, n, e, d⟩ := k.dicts b m; exact ⟨o, es, n, x b o e, d⟩, k.apart⟩

theorem Ok.notIn (k : Ok base c outer h) {b : Addr} (m : b ∈ frs outer) : base.get? b = none := (k.frames.mem m).1

theorem Ok.notD (k : Ok base c outer h) {b : Addr} (m : b ∈ frs outer) : ¬ c.D b := fun ⟨j, hj, e⟩ => (k.apart b m).2 j hj e

theorem funFrames_turn (X : Cx w base c) (hap : ∀ b ∈ frs outer, b ≠ c.kd ∧ ∀ j, j < nn → b ≠ c.da j) (T : Turn c (frs outer) h h') :
    ∀ (l : List Env), (∀ e ∈ l, e ∈ outer) → h.FunFrames base l → h'.FunFrames base l
  | [], _, _ => trivial
  | env :: r, hin, ⟨hk, ⟨L, o, hf, hn, ho, hd⟩, hr⟩ => by
    have hm : L ∈ frs outer := List.mem_filterMap.mpr ⟨env, hin env (.head _), hf⟩
    obtain ⟨sl, e⟩ := T.frame L o ho hm
    exact ⟨hk, ⟨L, _, hf, hn, e, hd⟩, funFrames_turn X hap T r (fun e he => hin e (.tail _ he)) hr⟩

theorem Ok.turn (X : Cx w base c) (k : Ok base c outer h) (T : Turn c (frs outer) h h') : Ok base c outer h' :=
  ⟨fun b o e => T.same b o (k.stays b o e) (fun m => by rw [k.notIn m] at e; cases e) (fun ⟨j, hj, q⟩ => by rw [q, X.fresh j hj] at e; cases e),
   funFrames_turn X k.apart T outer (fun _ h => h) k.frames,
   fun b m => by
    obtain ⟨o, es, n, e, d⟩ := k.dicts b m
    obtain ⟨sl, e'⟩ := T.frame b o e m
    exact ⟨_, es, n, e', d⟩, k.apart⟩

/-- what is no dict stays as it is -/
theorem Turn.notDict (T : Turn c (frs outer) h h') (k : Ok base c outer h) (hD : ∀ j, j < nn → ∃ o es n, h.get? (c.da j) = some o ∧ o.data = .dict es n)
    {b : Addr} {o : Obj} (e : h.get? b = some o) (nd : ∀ es n, o.data ≠ .dict es n) : h'.get? b = some o :=
  T.same b o e (fun m => by obtain ⟨o', es, n, e', d⟩ := k.dicts b m; rw [e] at e'; cases e'; exact nd es n d)
    (fun ⟨j, hj, q⟩ => by obtain ⟨o', es, n, e', d⟩ := hD j hj; rw [← q, e] at e'; cases e'; exact nd es n d)

theorem Turn.ns (T : Turn c (frs outer) h h') {L : Addr} {m : Str → Option Value} (hm : L ∈ frs outer) (F : h.Ns L m) : h'.Ns L m := by
  obtain ⟨o, es, ep, e, d, r⟩ := F
  obtain ⟨sl, e'⟩ := T.frame L o e hm
  exact ⟨_, es, ep, e', d, r⟩

/-- a frame made on top of the heap -/
theorem Ok.push (k : Ok base c outer h) (hkd : ∃ o, h.get? c.kd = some o) (hda : ∀ j, j < nn → ∃ o, h.get? (c.da j) = some o)
    {m : Str → Option Value} (x : Keeps h h₁) (F : h₁.Ns h.objs.size m) (hf : env.frame = some h.objs.size) (hk : env.scope.kind ≠ .module) :
    Ok base c (env :: outer) h₁ := by
  have k₁ := k.keeps x
  have hfr : frs (env :: outer) = h.objs.size :: frs outer := by unfold frs; rw [List.filterMap_cons, hf]
  obtain ⟨o, es, ep, e, d, r⟩ := F
  refine ⟨k₁.stays, ⟨hk, ⟨_, o, hf, k.stays.fresh, e, fun vs q => by rw [d] at q; cases q⟩, k₁.frames⟩, fun b m => ?_, fun b m => ?_⟩
  · rw [hfr] at m
    rcases List.mem_cons.mp m with rfl | m
    · exact ⟨o, es, ep, e, d⟩
    · exact k₁.dicts b m
  · rw [hfr] at m
    rcases List.mem_cons.mp m with rfl | m
    · obtain ⟨ok, ek⟩ := hkd
      refine ⟨fun q => ?_, fun j hj q => ?_⟩
      · have := Heap.lt_size ek; rw [← q] at this; exact Nat.lt_irrefl _ this
      · obtain ⟨oj, ej⟩ := hda j hj
        have := Heap.lt_size ej; rw [← q] at this; exact Nat.lt_irrefl _ this
    · exact k.apart b m
theorem Ok.tail (k : Ok base c (env :: outer) h) (hf : env.frame ≠ none) : Ok base c outer h := by
  have sub : ∀ b, b ∈ frs outer → b ∈ frs (env :: outer) := fun b m => by
    unfold frs
    rw [List.filterMap_cons]
    cases q : env.frame with
    | none => exact absurd q hf
    | some L => exact .tail _ m
  exact ⟨k.stays, k.frames.2.2, fun b m => k.dicts b (sub b m), fun b m => k.apart b (sub b m)⟩
end

/-- a node's links -/
structure Link where
  nx : Option Nat
  pv : Option Nat
abbrev NS := Nat → Link

def ncls (j : Nat) : Addr := if j < 2 then 101 else 238

def nref {nn : Nat} (c : Cfg nn) (k : Option Nat) : Option Value := k.map fun j => .ref (c.na j)

def nmap {nn : Nat} (c : Cfg nn) (σ : NS) (j : Nat) : Str → Option Value := fun x =>
  if x = "next_on_list" then nref c (σ j).nx
  else if x = "prev_on_list" then nref c (σ j).pv
  else if j < 2 then (if x = "list_type" then some (.ref c.ka) else if x = "head" then some (.ref (c.na j)) else none)
  else (if x = "sink" then some .none else if x = "_path" then some (.int ((j : Int) - 1) (c.tk j)) else if x = "_for_route_refresh" then some (.bool false) else none)

structure Nodes {nn : Nat} (c : Cfg nn) (σ : NS) (h : Heap) : Prop where
  inst : ∀ j, j < nn → h.get? (c.na j) = some (instObj (ncls j) (c.da j))
  dict : ∀ j, j < nn → h.Ns1 (c.da j) (nmap c σ j)
  kind : h.get? c.ka = some (instObj 193 c.kd)
  kdict : h.Ns1 c.kd fun _ => none
  wf : ∀ j, j < nn → ∀ k, (σ j).nx = some k ∨ (σ j).pv = some k → k < nn

section
variable {w : World} {base h h' : Heap} {nn : Nat} {c : Cfg nn} {σ : NS} {outer : List Env}
theorem Nodes.keeps (N : Nodes c σ h) (x : Keeps h h') : Nodes c σ h' :=
  ⟨fun j hj => x _ _ (N.inst j hj), fun j hj => (N.dict j hj).at fun _ e => x _ _ e, x _ _ N.kind, N.kdict.at fun _ e => x _ _ e, N.wf⟩
theorem Nodes.dicts (N : Nodes c σ h) : ∀ j, j < nn → ∃ o es n, h.get? (c.da j) = some o ∧ o.data = .dict es n := fun j hj =>
  let ⟨o, es, n, e, d, _⟩ := N.dict j hj; ⟨o, es, n, e, d⟩
theorem Nodes.kdThere (N : Nodes c σ h) : ∃ o, h.get? c.kd = some o := let ⟨o, _, _, e, _⟩ := N.kdict; ⟨o, e⟩
theorem Nodes.daThere (N : Nodes c σ h) : ∀ j, j < nn → ∃ o, h.get? (c.da j) = some o := fun j hj => let ⟨o, _, _, e, _⟩ := N.dict j hj; ⟨o, e⟩
theorem Nodes.na_inj (X : Cx w base c) (N : Nodes c σ h) {i j : Nat} (hi : i < nn) (hj : j < nn) (e : c.na i = c.na j) : i = j := by
  have a := N.inst i hi
  have b := N.inst j hj
  rw [e, b] at a
  injection a with a
  have : (instObj (ncls j) (c.da j)).dict = (instObj (ncls i) (c.da i)).dict := by rw [a]
  injection this with q
  exact (X.inj j i hj hi q).symm
end

/-- one node's links turned -/
def NS.setN (σ : NS) (j k : Nat) : NS := fun i => if i = j then ⟨some k, (σ j).pv⟩ else σ i
def NS.setP (σ : NS) (j k : Nat) : NS := fun i => if i = j then ⟨(σ j).nx, some k⟩ else σ i

theorem lookIn_ns {o : Obj} {es : Array DictEntry} {n : Nat} (d : o.data = .dict es n) (k : StrKeys es) (name : Str) : lookIn name o = some (nsFind es name) := by
  unfold lookIn nsFind findBy
  rw [d]
  dsimp only
  rw [← Array.find?_toList]
  cases q : es.toList.find? (fun e => e.key.isStr name) with
  | some e => rfl
  | none =>
    have : es.toList.any (·.refKey) = false := by
      rw [List.any_eq_false]
      intro e he
      obtain ⟨n, t, z⟩ := k e (Array.mem_toList_iff.mp he)
      simp [DictEntry.refKey, z]
    rw [this]
    rfl

section
variable {prog : Program} {w : World} {A : Around} {E : Value → Shared → Prop} {s : Shared} {K : Frag} {x C dx : Addr} {m : Str → Option Value} {name : Str} {v : Value}

theorem instAt_of {h : Heap} (hx : h.get? x = some (instObj C dx)) (hn : h.Ns dx m) : ∃ od, InstAt h x (instObj C dx) C (some od) ∧ (∀ name, lookIn name od = some (m name)) ∧ h.get? dx = some od := by
  obtain ⟨o, es, n, e, d, k, f⟩ := hn
  exact ⟨o, ⟨hx, rfl, rfl, e⟩, fun name => by rw [lookIn_ns d k, f], e⟩

theorem inst_get {expr : Bool} {Q : Value → Shared → Prop} {attr : Option Value} (X : K.In s.heap) (hx : s.heap.get? x = some (instObj C dx)) (hn : s.heap.Ns dx m) (hg : plainGet K C name = true)
    (hh : hasDictIn K C = true) (ha : findIn K (.ref C) name = some attr) (hng : noGet K attr = true) (hm : m name = some v) (hv : handedIn v = true) (h : Q v { s with toks := s.toks + 1 }) :
    wpAny (model prog w) A (getAttr (.ref x) name expr) Q E s := by
  obtain ⟨od, I, hl, _⟩ := instAt_of hx hn
  exact get_value X I (plainGet_of hg).1 (findObj_own hh ha hng (by rw [hl, hm])) hv h

theorem inst_method {pl : Sem Bool} {Q : Value × List Value → Shared → Prop} {f : Addr} (X : K.In s.heap) (hx : s.heap.get? x = some (instObj C dx)) (hn : s.heap.Ns dx m) (hg : plainGet K C name = true)
    (hf : findIn K (.ref C) name = some (some (.ref f))) (ht : isFn K (.ref f) = true) (hm : m name = none) (h : Q (.ref f, [.ref x]) s) : wpAny (model prog w) A (getMethod (.ref x) name pl) Q E s := by
  obtain ⟨od, I, hl, _⟩ := instAt_of hx hn
  exact method_fn X I (plainGet_of hg).1 (plainGet_of hg).2 hf (beq_iff_eq.mp ht) (by show (lookIn name od).map _ = _; rw [hl, hm]; rfl) h

theorem inst_set {Q : Unit → Shared → Prop} {ns : List Str} (X : K.In s.heap) (hx : s.heap.get? x = some (instObj C dx)) (hn : s.heap.Ns1 dx m)
    (hs : findIn K (.ref C) "__setattr__" = some (some (.builtin "object.__setattr__"))) (hp : plainOver K C = true) (ht : takerIn K C name = some none) (hh : hasDictIn K C = true)
    (hw : Within m ns) (hz : ns.length ≤ 1000)
    (h : ∀ h', h'.Ns1 dx (fun y => if y = name then some v else m y) → Heap.SameBut dx s.heap h' → Q () { s with heap := h', toks := s.toks + 2 }) :
    wpAny (model prog w) A (setAttr (.ref x) name v) Q E s := by
  obtain ⟨od, I, hl, hd⟩ := instAt_of hx hn.ns
  refine set_plain X I hs ?_
  refine osa_open (s := { s with toks := s.toks + 1 }) X I hp ht fun b => ?_
  obtain ⟨cd, hc, hd'⟩ := any_some hh
  refine wpAny_bind (wpAny_pure (wpAny_bind (wpAny_bind (wpAny_loadPart (o := instObj C dx) hx (wpAny_bind (Looks.here (s := { s with toks := s.toks + 1 }) (looks_clsIn X hc) ?_))))))
  rw [hd']
  refine wpAny_pure (a := some dx) (wpAny_bind (wpAny_pure (wpAny_bind (wpAny_nsSet1 (s := { s with toks := s.toks + 1 }) hn fun h' hn' hs' => ?_))))
  obtain ⟨oD, esD, epD, hoD, hdD, hcD⟩ := hn'.count (Within.cons name v hw)
  refine wpAny_bind (wpAny_lookBehind hoD (by rw [hdD]; exact pastItsLine_dict (Nat.le_trans hcD (by rw [List.length_cons, sizeLine_eq]; omega))) ?_)
  exact wpAny_pure (h h' hn' hs')
end
end Mine

namespace Mine
open PySem PySem.W PySem.Calls PyProof.Rows

def isDict (o : Obj) : Bool := match o.data with | .dict _ _ => true | _ => false
theorem isDict_no {o : Obj} (h : isDict o = false) : ∀ es n, o.data ≠ .dict es n := fun es n q => by unfold isDict at h; rw [q] at h; cases h

theorem Turn.next {nn : Nat} {c : Cfg nn} {fs : List Addr} {h₀ h h' : Heap} {L : Addr} (x : Turn c fs h₀ h) (hL : h₀.get? L = none) (y : Turn c (L :: fs) h h') : Turn c fs h₀ h' :=
  ⟨fun b o e n m => y.same b o (x.same b o e n m) (fun q => by
      rcases List.mem_cons.mp q with rfl | q
      · rw [hL] at e; cases e
      · exact n q) m, fun b o e m => by
    obtain ⟨_, e1⟩ := x.frame b o e m
    obtain ⟨sl, e2⟩ := y.frame b _ e1 (.tail _ m)
    exact ⟨sl, e2⟩⟩

/-- what is known while a def's body runs: of the heap at its entry, its frame, the nodes, and objects `os` besides -/
structure St (base : Heap) {nn : Nat} (c : Cfg nn) (outer : List Env) (h₀ : Heap) (env : Env) (m : Str → Option Value) (σ : NS) (os : List (Addr × Obj)) (h : Heap) : Prop where
  turn : Turn c (frs outer) h₀ h
  ns : h.Ns env.locals m
  ok : Ok base c (env :: outer) h
  nodes : Nodes c σ h
  new : h₀.get? env.locals = none
  fr : env.frame = some env.locals
  os : ∀ p ∈ os, h.get? p.1 = some p.2 ∧ p.1 ∉ frs (env :: outer) ∧ ¬ c.D p.1

section
variable {w : World} {base h₀ h h' : Heap} {nn : Nat} {c : Cfg nn} {outer : List Env} {env : Env} {m : Str → Option Value} {σ σ' : NS} {os os' : List (Addr × Obj)}

theorem St.frsEq (S : St base c outer h₀ env m σ os h) : frs (env :: outer) = env.locals :: frs outer := by unfold frs; rw [List.filterMap_cons, S.fr]

theorem St.keeps (S : St base c outer h₀ env m σ os h) (x : Keeps h h') : St base c outer h₀ env m σ os h' :=
  ⟨S.turn.trans (.of_keeps x), S.ns.keeps x, S.ok.keeps x, S.nodes.keeps x, S.new, S.fr, fun p hp => ⟨x _ _ (S.os p hp).1, (S.os p hp).2⟩⟩

theorem St.callee (X : Cx w base c) (S : St base c outer h₀ env m σ os h) (T : Turn c (frs (env :: outer)) h h') (N : Nodes c σ' h') : St base c outer h₀ env m σ' os h' :=
  ⟨S.turn.next S.new (S.frsEq ▸ T), T.ns (by rw [S.frsEq]; exact .head _) S.ns, S.ok.turn X T, N, S.new, S.fr,
   fun p hp => ⟨T.same _ _ (S.os p hp).1 (S.os p hp).2.1 (S.os p hp).2.2, (S.os p hp).2⟩⟩

theorem Ns.dictAt {h : Heap} {a : Addr} {m : Str → Option Value} (F : h.Ns a m) : ∃ o es n, h.get? a = some o ∧ o.data = .dict es n := let ⟨o, es, n, e, d, _⟩ := F; ⟨o, es, n, e, d⟩

theorem Nodes.away {h h' : Heap} {L : Addr} (N : Nodes c σ h) (hd : ∃ o es n, h.get? L = some o ∧ o.data = .dict es n) (hk : L ≠ c.kd) (ha : ∀ j, j < nn → L ≠ c.da j) (x : ∀ b, b ≠ L → h'.get? b = h.get? b) : Nodes c σ h' := by
  obtain ⟨o, es, n, e, d⟩ := hd
  have pl : ∀ b C dx, h.get? b = some (instObj C dx) → b ≠ L := fun b C dx e' q => by rw [q, e] at e'; cases e'; cases d
  refine ⟨fun j hj => (x _ (pl _ _ _ (N.inst j hj))).trans (N.inst j hj), fun j hj => (N.dict j hj).at fun o e => (x _ (Ne.symm (ha j hj))).trans e, (x _ (pl _ _ _ N.kind)).trans N.kind, N.kdict.at fun o e => (x _ (Ne.symm hk)).trans e, N.wf⟩

theorem funFrames_of {h h' : Heap} : ∀ (l : List Env), (∀ b ∈ frs l, ∃ o es n, h'.get? b = some o ∧ o.data = .dict es n) → h.FunFrames base l → h'.FunFrames base l
  | [], _, _ => trivial
  | env :: r, hd, ⟨hk, ⟨L, o, hf, hn, _, _⟩, hr⟩ => by
    have e0 : frs (env :: r) = L :: frs r := by unfold frs; rw [List.filterMap_cons, hf]
    rw [e0] at hd
    obtain ⟨o', es, n, e, d⟩ := hd L (.head _)
    exact ⟨hk, ⟨L, o', hf, hn, e, fun vs q => by rw [d] at q; cases q⟩, funFrames_of r (fun b m => hd b (.tail _ m)) hr⟩

/-- a local is stored -/
theorem St.store (S : St base c outer h₀ env m σ os h) {m' : Str → Option Value} (hn : h'.Ns env.locals m') (hs : Heap.SameBut env.locals h h') : St base c outer h₀ env m' σ os h' := by
  have hm : env.locals ∈ frs (env :: outer) := by rw [S.frsEq]; exact .head _
  obtain ⟨ak, ad⟩ := S.ok.apart _ hm
  have nb : ∀ b o, base.get? b = some o → b ≠ env.locals := fun b o e q => by rw [q, S.ok.notIn hm] at e; cases e
  have hd : ∀ b ∈ frs (env :: outer), ∃ o es n, h'.get? b = some o ∧ o.data = .dict es n := fun b m => by
    by_cases q : b = env.locals
    · subst q; exact Ns.dictAt hn
    · obtain ⟨o, es, n, e, d⟩ := S.ok.dicts b m
      exact ⟨o, es, n, (hs.2 b q).trans e, d⟩
  refine ⟨?_, hn, ⟨fun b o e => (hs.2 b (nb b o e)).trans (S.ok.stays b o e), funFrames_of _ hd S.ok.frames, hd, S.ok.apart⟩, S.nodes.away (Ns.dictAt S.ns) ak ad hs.2, S.new, S.fr, fun p hp => ⟨(hs.2 _ fun q => ?_).trans (S.os p hp).1, (S.os p hp).2⟩⟩
  · refine ⟨fun b o e n d => (hs.2 b fun q => by rw [q, S.new] at e; cases e).trans (S.turn.same b o e n d), fun b o e n => ?_⟩
    obtain ⟨sl, e'⟩ := S.turn.frame b o e n
    exact ⟨sl, (hs.2 b fun q => by rw [q, S.new] at e; cases e).trans e'⟩
  · exact (S.os p hp).2.1 (q ▸ hm)

theorem St.sub (S : St base c outer h₀ env m σ os h) (hs : ∀ p ∈ os', p ∈ os) : St base c outer h₀ env m σ os' h :=
  ⟨S.turn, S.ns, S.ok, S.nodes, S.new, S.fr, fun p hp => S.os p (hs p hp)⟩

theorem St.notFrame (S : St base c outer h₀ env m σ os h) {a : Addr} {o : Obj} (e : h.get? a = some o) (nd : isDict o = false) : a ∉ frs (env :: outer) ∧ ¬ c.D a :=
  ⟨fun q => by obtain ⟨o', es, n, e', d⟩ := S.ok.dicts a q; rw [e] at e'; cases e'; exact isDict_no nd es n d,
   fun ⟨j, hj, q⟩ => by obtain ⟨o', es, n, e', d⟩ := S.nodes.dicts j hj; rw [← q, e] at e'; cases e'; exact isDict_no nd es n d⟩

theorem St.add (S : St base c outer h₀ env m σ os h) {a : Addr} {o : Obj} (e : h.get? a = some o) (nd : isDict o = false) : St base c outer h₀ env m σ ((a, o) :: os) h :=
  ⟨S.turn, S.ns, S.ok, S.nodes, S.new, S.fr, fun p hp => by
    rcases List.mem_cons.mp hp with rfl | hp
    · exact ⟨e, S.notFrame e nd⟩
    · exact S.os p hp⟩

theorem St.get (S : St base c outer h₀ env m σ os h) {a : Addr} {o : Obj} (hm : (a, o) ∈ os) : h.get? a = some o := (S.os _ hm).1
end

section
variable {prog : Program} {w : World} {base h₀ : Heap} {nn : Nat} {c : Cfg nn} {outer : List Env} {m : Str → Option Value} {σ σ' : NS} {os os' : List (Addr × Obj)} {A : Around} {E : Value → Shared → Prop} {s : Shared}
  {qual : Str} {scope : Scope} {L f : Addr} {cd : Value} {x : Str} {pos : Pos} {v : Value}

theorem r_name {Q : Value → Shared → Prop} (S : St base c outer h₀ (envOf qual scope L f cd) m σ os s.heap) (hv : m x = some v) (h : Q v s)
    (hk : scope.kind = .function := by rfl) (hl : (envOf qual scope L f cd).kindOf x = some .local := by rfl) (hd : (x == ("__debug__" : Str)) = false := by decide) {M : Model} :
    wpAny M A (eval (.Name x pos) (envOf qual scope L f cd)) Q E s := wpAny_Name (wpAny_loadName_local hk hl S.ns hv h) hd

theorem r_store {Q : Unit → Shared → Prop} (S : St base c outer h₀ (envOf qual scope L f cd) m σ os s.heap)
    (h : ∀ h', St base c outer h₀ (envOf qual scope L f cd) (fun y => if y = x then some v else m y) σ os h' → Q () { s with heap := h', toks := s.toks + 1 })
    (hk : scope.kind = .function := by rfl) (hl : (envOf qual scope L f cd).kindOf x = some .local := by rfl) {M : Model} :
    wpAny M A (storeName (envOf qual scope L f cd) x v) Q E s :=
  wpAny_storeName_local hl S.ns (fun h' hn hs => h h' (S.store hn hs))
    (by show (scope.kind == .class || (scope.kind == .module && L != mainGlobals)) = false; rw [hk]; rfl)

theorem r_builtin {Q : Value → Shared → Prop} (X : Cx w base c) (S : St base c outer h₀ (envOf qual scope L f cd) m σ os s.heap) (hx : (x, v) ∈ builtinNames) (h : Q v s)
    (hk : scope.kind = .function := by rfl) (hl : (envOf qual scope L f cd).kindOf x = some .globalImplicit := by rfl) (hd : (x == ("__debug__" : Str)) = false := by decide) {M : Model} :
    wpAny M A (eval (.Name x pos) (envOf qual scope L f cd)) Q E s := by
  obtain ⟨mg, mb, hg, hb, _, h2⟩ := X.names
  exact Calls.Name_function_global hk hl (Calls.loadGlobal_builtin (env := envOf qual scope L f cd) (hg.keeps S.ok.stays) (h2 x v hx).1 (hb.keeps S.ok.stays) (h2 x v hx).2 h) hd

theorem r_global {Q : Value → Shared → Prop} (X : Cx w base c) (S : St base c outer h₀ (envOf qual scope L f cd) m σ os s.heap) (hx : (x, v) ∈ globalNames) (h : Q v s)
    (hk : scope.kind = .function := by rfl) (hl : (envOf qual scope L f cd).kindOf x = some .globalImplicit := by rfl) (hd : (x == ("__debug__" : Str)) = false := by decide) {M : Model} :
    wpAny M A (eval (.Name x pos) (envOf qual scope L f cd)) Q E s := by
  obtain ⟨mg, mb, hg, _, h1, _⟩ := X.names
  exact Calls.Name_function_global hk hl (Calls.loadGlobal_global (env := envOf qual scope L f cd) (hg.keeps S.ok.stays) (h1 x v hx) h) hd

theorem St.K {env : Env} {h : Heap} (X : Cx w base c) (S : St base c outer h₀ env m σ os h) : (KF w).In h := X.K.keeps S.ok.stays

/-- a node's attribute is read -/
theorem r_node {env : Env} {Q : Value → Shared → Prop} {expr : Bool} {j : Nat} {name : Str} {attr : Option Value} (X : Cx w base c) (S : St base c outer h₀ env m σ os s.heap) (hj : j < nn) (hm : nmap c σ j name = some v)
    (hg : plainGet (KF w) (ncls j) name = true) (hh : hasDictIn (KF w) (ncls j) = true) (ha : findIn (KF w) (.ref (ncls j)) name = some attr) (hng : noGet (KF w) attr = true) (hv : handedIn v = true)
    (h : Q v { s with toks := s.toks + 1 }) : wpAny (model prog w) A (getAttr (.ref (c.na j)) name expr) Q E s :=
  inst_get (S.K X) (S.nodes.inst j hj) (S.nodes.dict j hj).ns hg hh ha hng hm hv h

theorem r_kind {env : Env} {Q : Value × List Value → Shared → Prop} {pl : Sem Bool} {name : Str} {f : Addr} (X : Cx w base c) (S : St base c outer h₀ env m σ os s.heap)
    (hg : plainGet (KF w) 193 name = true) (hf : findIn (KF w) (.ref 193) name = some (some (.ref f))) (ht : isFn (KF w) (.ref f) = true) (h : Q (.ref f, [.ref c.ka]) s) :
    wpAny (model prog w) A (getMethod (.ref c.ka) name pl) Q E s := inst_method (S.K X) S.nodes.kind S.nodes.kdict.ns hg hf ht rfl h

theorem r_meth {env : Env} {Q : Value × List Value → Shared → Prop} {pl : Sem Bool} {name : Str} {f : Addr} {j : Nat} (X : Cx w base c) (S : St base c outer h₀ env m σ os s.heap) (hj : j < nn) (hm : nmap c σ j name = none)
    (hg : plainGet (KF w) (ncls j) name = true) (hf : findIn (KF w) (.ref (ncls j)) name = some (some (.ref f))) (ht : isFn (KF w) (.ref f) = true) (h : Q (.ref f, [.ref (c.na j)]) s) :
    wpAny (model prog w) A (getMethod (.ref (c.na j)) name pl) Q E s := inst_method (S.K X) (S.nodes.inst j hj) (S.nodes.dict j hj).ns hg hf ht hm h
end

/-- a def called with these arguments turns the nodes from σ to σ' and hands back r; d frames and u C units deep -/
def Does (w : World) (base : Heap) {nn : Nat} (c : Cfg nn) (f : Addr) (args : List Value) (d u : Nat) (σ σ' : NS) (r : Value) : Prop :=
  ∀ (prog : Program) (A : Around) (outer : List Env) (s : Shared) (R : Result → Shared → Prop), Amb A outer d u → Ok base c outer s.heap → Nodes c σ s.heap →
    (∀ h' tk, Turn c (frs outer) s.heap h' → Nodes c σ' h' → R (.ok (.ret r)) { s with heap := h', toks := tk }) → codeAny (model prog w) A (.call (.ref f) ⟨args, []⟩) R s

section
variable {prog : Program} {w : World} {base h₀ : Heap} {nn : Nat} {c : Cfg nn} {outer : List Env} {m : Str → Option Value} {σ σ' : NS} {os os' : List (Addr × Obj)} {A : Around} {E : Value → Shared → Prop} {s : Shared}

theorem call_does {env : Env} {f : Addr} {args : List Value} {d u : Nat} {r : Value} {Q : Value → Shared → Prop} (X : Cx w base c) (D : Does w base c f args d u σ σ' r) (a : Amb A (env :: outer) d u)
    (S : St base c outer h₀ env m σ os s.heap) (h : ∀ h' tk, St base c outer h₀ env m σ' os h' → Q r { s with heap := h', toks := tk }) : wpAny (model prog w) A (call (.ref f) args) Q E s :=
  wpAny_call (D prog A (env :: outer) s _ a S.ok S.nodes fun h' tk T N => h h' tk (S.callee X T N))

theorem enter {R : Result → Shared → Prop} {name qual : Str} {params : Arguments} {body : List Stmt} {scope : Scope} {dV kV doc pm cdv ct oc : Value} {an od : Option Addr} {osl : Array (Option Value)} {f : Addr} {args : List Value} {binds : List (Str × Value)} {d u : Nat}
    (X : Cx w base c) (a : Amb A outer (d + 1) (u + 3)) (k : Ok base c outer s.heap) (N : Nodes c σ s.heap)
    (ho : (KF w).lookup f = some ⟨oc, od, .func (fnOf name qual params body scope dV kV doc pm an cdv ct), osl⟩) (hcd : codeIn (KF w) cdv qual = true)
    (hbind : BindsTo s (fnOf name qual params body scope dV kV doc pm an cdv ct) ⟨args, []⟩ binds) (hloc : ∀ y ∈ binds, scope.names.lookup y.1 = some .local)
    (hcell : ∀ x ∈ scope.names, x.2 ≠ .cell) (hco : scope.isCoroutine = false) (hgen : scope.isGenerator = false) (hk : scope.kind = .function)
    (h : ∀ L h₁, St base c outer s.heap (envOf qual scope L f cdv) (fun y => binds.reverse.lookup y) σ [] h₁ → Amb (A.deeper (envOf qual scope L f cdv)) (envOf qual scope L f cdv :: outer) d u →
      wpAny (model prog w) (A.deeper (envOf qual scope L f cdv)) (execs body (envOf qual scope L f cdv))
        (fun fl s' => R (.ok (.ret (match fl with | .ret v => v | _ => .none))) s')
        (fun e s' => wpAny (model prog w) (A.deeper (envOf qual scope L f cdv)) (leaving (envOf qual scope L f cdv) e) (fun _ s'' => R (.error e) s'') (fun e' s'' => R (.error e') s'') s')
        { s with heap := h₁, toks := s.toks + binds.length }) : codeAny (model prog w) A (.call (.ref f) ⟨args, []⟩) R s := by
  have K := X.K.keeps k.stays
  refine codeAny_call_def (fd := fnOf name qual params body scope dV kV doc pm an cdv ct) (body := body) (binds := binds) a.room (K _ _ ho) rfl (X.lim.keeps k.stays) (codeRec_of K hcd) rfl hbind hcell hloc (fun h₁ hns hk₁ => ?_) hco hgen hk
  have hkind : (envOf qual scope s.heap.objs.size f cdv).scope.kind ≠ .module := by show scope.kind ≠ .module; rw [hk]; decide
  exact h s.heap.objs.size h₁ ⟨.of_keeps hk₁, hns, k.push N.kdThere N.daThere hk₁ hns rfl hkind, N.keeps hk₁, Heap.get?_none_of_le (Nat.le_refl _), rfl, fun _ hp => nomatch hp⟩ a.deeper
end
end Mine

namespace Mine
open PySem PySem.W PySem.Calls PyProof.Rows
theorem fill (w : World) : hd.heap_39 w.params = hd.heap_39 w.params ∧ PySem.Challenge.rw_bi0011_01 = PySem.Challenge.rw_bi0011_01 := by
  k_fill
  exact ⟨rfl, rfl⟩
local macro_rules | `(tactic| k_is) => `(tactic| (delta KF; k_is))

theorem ncls_cases {P : Addr → Prop} (j : Nat) (h1 : P 101) (h2 : P 238) : P (ncls j) := by unfold ncls; split <;> assumption

structure GetOk (w : World) (C : Addr) (name : Str) : Prop where
  g : plainGet (KF w) C name = true
  h : hasDictIn (KF w) C = true
  f : findIn (KF w) (.ref C) name = some none
structure SetOk (w : World) (C : Addr) (name : Str) : Prop where
  s : findIn (KF w) (.ref C) "__setattr__" = some (some (.builtin "object.__setattr__"))
  p : plainOver (KF w) C = true
  t : takerIn (KF w) C name = some none
  h : hasDictIn (KF w) C = true

theorem getOk_next (w : World) (j : Nat) : GetOk w (ncls j) "next_on_list" := ncls_cases (P := fun C => GetOk w C "next_on_list") j (by constructor <;> k_is) (by constructor <;> k_is)
theorem getOk_prev (w : World) (j : Nat) : GetOk w (ncls j) "prev_on_list" := ncls_cases (P := fun C => GetOk w C "prev_on_list") j (by constructor <;> k_is) (by constructor <;> k_is)
theorem setOk_next (w : World) (j : Nat) : SetOk w (ncls j) "next_on_list" := ncls_cases (P := fun C => SetOk w C "next_on_list") j (by constructor <;> k_is) (by constructor <;> k_is)
theorem setOk_prev (w : World) (j : Nat) : SetOk w (ncls j) "prev_on_list" := ncls_cases (P := fun C => SetOk w C "prev_on_list") j (by constructor <;> k_is) (by constructor <;> k_is)

def nodeNames : List Str := ["next_on_list", "prev_on_list", "list_type", "head", "sink", "_path", "_for_route_refresh"]
theorem nmap_within {nn : Nat} (c : Cfg nn) (σ : NS) (j : Nat) : Within (nmap c σ j) nodeNames := by
  intro y h
  unfold nmap at h
  unfold nodeNames
  simp only [List.mem_cons, List.not_mem_nil, or_false]
  repeat' split at h
  all_goals first
    | (subst_vars; simp; done)
    | exact absurd rfl h
    | (simp_all; done)

section
variable {prog : Program} {w : World} {base h₀ : Heap} {nn : Nat} {c : Cfg nn} {outer : List Env} {m : Str → Option Value} {σ σ' : NS} {os os' : List (Addr × Obj)} {A : Around} {E : Value → Shared → Prop} {s : Shared} {env : Env}

theorem Nodes.put {h h' : Heap} (X : Cx w base c) (N : Nodes c σ h) {j : Nat} (hj : j < nn) (hn : h'.Ns1 (c.da j) (nmap c σ' j)) (hs : Heap.SameBut (c.da j) h h') (ho : ∀ i, i ≠ j → σ' i = σ i)
    (hw : ∀ k, (σ' j).nx = some k ∨ (σ' j).pv = some k → k < nn) : Nodes c σ' h' := by
  obtain ⟨o, es, n, e, d⟩ := N.dicts j hj
  have pl : ∀ b C dx, h.get? b = some (instObj C dx) → b ≠ c.da j := fun b C dx e' q => by rw [q, e] at e'; cases e'; cases d
  refine ⟨fun i hi => (hs.2 _ (pl _ _ _ (N.inst i hi))).trans (N.inst i hi), fun i hi => ?_, (hs.2 _ (pl _ _ _ N.kind)).trans N.kind, N.kdict.at fun _ e => (hs.2 _ (Ne.symm (X.kd j hj))).trans e, fun i hi k hk => ?_⟩
  · by_cases q : i = j
    · subst q; exact hn
    · have : nmap c σ' i = nmap c σ i := by unfold nmap; rw [ho i q]
      rw [this]
      exact (N.dict i hi).at fun o e => (hs.2 _ fun z => q (X.inj i j hi hj z)).trans e
  · by_cases q : i = j
    · subst q; exact hw k hk
    · rw [ho i q] at hk; exact N.wf i hi k hk

theorem Turn.put {h h' : Heap} (k : Ok base c outer h) {j : Nat} (hj : j < nn) (hs : Heap.SameBut (c.da j) h h') : Turn c (frs outer) h h' :=
  ⟨fun b o e _ d => (hs.2 b fun q => d ⟨j, hj, q⟩).trans e, fun b o e m => ⟨o.slots, (hs.2 b ((k.apart b m).2 j hj)).trans e⟩⟩

theorem r_setN {Q : Unit → Shared → Prop} (X : Cx w base c) (S : St base c outer h₀ env m σ os s.heap) {j k : Nat} (hj : j < nn) (hk : k < nn)
    (h : ∀ h' tk, St base c outer h₀ env m (σ.setN j k) os h' → Q () { s with heap := h', toks := tk }) : wpAny (model prog w) A (setAttr (.ref (c.na j)) "next_on_list" (.ref (c.na k))) Q E s := by
  have F := setOk_next w j
  refine inst_set (S.K X) (S.nodes.inst j hj) (S.nodes.dict j hj) F.s F.p F.t F.h (nmap_within c σ j) (by decide) fun h' hn hs => ?_
  have e : (fun (y : Str) => if y = "next_on_list" then some (Value.ref (c.na k)) else nmap c σ j y) = nmap c (σ.setN j k) j := by
    funext y
    unfold nmap NS.setN nref
    simp only [if_true, Option.map_some]
    split <;> rfl
  rw [e] at hn
  refine h h' _ (S.callee X (Turn.put S.ok hj hs) (S.nodes.put X hj hn hs (fun i q => by unfold NS.setN; rw [if_neg q]) fun i hi => ?_))
  unfold NS.setN at hi
  simp only [if_true] at hi
  rcases hi with hi | hi
  · cases hi; exact hk
  · exact S.nodes.wf j hj i (.inr hi)

theorem r_setP {Q : Unit → Shared → Prop} (X : Cx w base c) (S : St base c outer h₀ env m σ os s.heap) {j k : Nat} (hj : j < nn) (hk : k < nn)
    (h : ∀ h' tk, St base c outer h₀ env m (σ.setP j k) os h' → Q () { s with heap := h', toks := tk }) : wpAny (model prog w) A (setAttr (.ref (c.na j)) "prev_on_list" (.ref (c.na k))) Q E s := by
  have F := setOk_prev w j
  refine inst_set (S.K X) (S.nodes.inst j hj) (S.nodes.dict j hj) F.s F.p F.t F.h (nmap_within c σ j) (by decide) fun h' hn hs => ?_
  have e : (fun (y : Str) => if y = "prev_on_list" then some (Value.ref (c.na k)) else nmap c σ j y) = nmap c (σ.setP j k) j := by
    funext y
    unfold nmap NS.setP nref
    simp only [if_true, Option.map_some]
    split
    · rename_i q; subst q; rfl
    · rfl
  rw [e] at hn
  refine h h' _ (S.callee X (Turn.put S.ok hj hs) (S.nodes.put X hj hn hs (fun i q => by unfold NS.setP; rw [if_neg q]) fun i hi => ?_))
  unfold NS.setP at hi
  simp only [if_true] at hi
  rcases hi with hi | hi
  · exact S.nodes.wf j hj i (.inl hi)
  · cases hi; exact hk

/-- an end of a def: its value -/
def Fin1 (R : Result → Shared → Prop) (fl : Flow) (s' : Shared) : Prop := R (.ok (.ret (match fl with | .ret v => v | _ => .none))) s'

theorem enter0 {R : Result → Shared → Prop} {name qual : Str} {params : Arguments} {body : List Stmt} {scope : Scope} {dV kV doc pm cdv ct oc : Value} {an od : Option Addr} {osl : Array (Option Value)} {f : Addr} {args : List Value} {d u : Nat} (binds : List (Str × Value))
    (X : Cx w base c) (a : Amb A outer (d + 1) (u + 3)) (k : Ok base c outer s.heap) (N : Nodes c σ s.heap)
    (ho : (KF w).lookup f = some ⟨oc, od, .func (fnOf name qual params body scope dV kV doc pm an cdv ct), osl⟩) (hcd : codeIn (KF w) cdv qual = true)
    (hbind : BindsTo s (fnOf name qual params body scope dV kV doc pm an cdv ct) ⟨args, []⟩ binds) (hloc : ∀ y ∈ binds, scope.names.lookup y.1 = some .local)
    (hcell : ∀ x ∈ scope.names, x.2 ≠ .cell) (hco : scope.isCoroutine = false) (hgen : scope.isGenerator = false) (hk : scope.kind = .function)
    (h : ∀ L h₁ tk, St base c outer s.heap (envOf qual scope L f cdv) (fun y => binds.reverse.lookup y) σ [] h₁ → Amb (A.deeper (envOf qual scope L f cdv)) (envOf qual scope L f cdv :: outer) d u →
      wpAny (model prog w) (A.deeper (envOf qual scope L f cdv)) (execs body (envOf qual scope L f cdv)) (Fin1 R) (fun _ _ => False) { s with heap := h₁, toks := tk }) : codeAny (model prog w) A (.call (.ref f) ⟨args, []⟩) R s :=
  enter X a k N ho hcd hbind hloc hcell hco hgen hk fun L h₁ S a' => wpAny_mono (h L h₁ _ S a') (fun _ _ q => q) fun _ _ q => q.elim

theorem fin_ret {R : Result → Shared → Prop} {v : Value} (h : R (.ok (.ret v)) s) : Fin1 R (.ret v) s := h
theorem fin_next {R : Result → Shared → Prop} (h : R (.ok (.ret .none)) s) : Fin1 R .next s := h
theorem St.out {env : Env} {h : Heap} (S : St base c outer h₀ env m σ os h) : Turn c (frs outer) h₀ h := S.turn
end

local macro_rules | `(tactic| walk_at "m enter") => `(tactic| (
  (case ho => k_is)
  (case hcd => k_is)
  (case hbind => exact BindsTo.of_eq rfl)
  (case hloc => exact locs rfl)
  (case hcell => decide)
  (case hco => rfl)
  (case hgen => rfl)
  (case hk => rfl)))

section
variable {w : World} {base : Heap} {nn : Nat} {c : Cfg nn} {σ : NS} {j k : Nat}
theorem set_next_does (X : Cx w base c) (hj : j < nn) (hk : k < nn) : Does w base c 148 [.ref c.ka, .ref (c.na j), .ref (c.na k)] 1 10 σ (σ.setN j k) .none := by
  intro prog A outer s R a ok N h
  refine' enter0 (d := 0) (u := 7) [("self", .ref c.ka), ("node", .ref (c.na j)), ("next", .ref (c.na k))] X a ok N ?ho ?hcd ?hbind ?hloc ?hcell ?hco ?hgen ?hk ?_
  walk_at "m enter"
  intro L h₁ tk S a'
  refine wpAny_execs_cons ?_
  refine plainObj_wpAny_Assign_Attribute ?_
  refine r_name S (v := .ref (c.na k)) (by rfl) ?_
  refine r_name S (v := .ref (c.na j)) (by rfl) ?_
  refine r_setN X S hj hk fun h' tk' S' => ?_
  exact wpAny_execs_nil (fin_next (h _ _ S'.turn S'.nodes))
theorem set_prev_does (X : Cx w base c) (hj : j < nn) (hk : k < nn) : Does w base c 162 [.ref c.ka, .ref (c.na j), .ref (c.na k)] 1 10 σ (σ.setP j k) .none := by
  intro prog A outer s R a ok N h
  refine' enter0 (d := 0) (u := 7) [("self", .ref c.ka), ("node", .ref (c.na j)), ("prev", .ref (c.na k))] X a ok N ?ho ?hcd ?hbind ?hloc ?hcell ?hco ?hgen ?hk ?_
  walk_at "m enter"
  intro L h₁ tk S a'
  refine wpAny_execs_cons ?_
  refine plainObj_wpAny_Assign_Attribute ?_
  refine r_name S (v := .ref (c.na k)) (by rfl) ?_
  refine r_name S (v := .ref (c.na j)) (by rfl) ?_
  refine r_setP X S hj hk fun h' tk' S' => ?_
  exact wpAny_execs_nil (fin_next (h _ _ S'.turn S'.nodes))
end
end Mine

namespace Mine
open PySem PySem.W PySem.Calls PyProof.Rows Builtin Builtin.ObjectAttr
local macro_rules | `(tactic| k_is) => `(tactic| (delta KF; k_is))

theorem inst_miss {prog : Program} {w : World} {A : Around} {E : Value → Shared → Prop} {s : Shared} {K : Frag} {x C dx : Addr} {m : Str → Option Value} {name : Str} {cd : ClassData}
    {Q : Value → Shared → Prop} (hA : A.handled = none) (X : K.In s.heap) (hx : s.heap.get? x = some (instObj C dx)) (hn : s.heap.Ns dx m) (hg : plainGet K C name = true)
    (hf : ∀ od, lookIn name od = some none → findObj K C (some od) name = some .missing) (hm : m name = none) (hc : clsIn K C = some cd)
    (hsz : ((s!"'{cd.name.toString}' object has no attribute '" : Str) ++ name ++ "'").length ≤ sizeLine) (hfold : cd.name.cps.foldl (fun k c => k + (Str.utf8Of c).length) 0 ≤ 100)
    (h : ∀ h' tk e, Heap.NewAttrErr s.heap h' e (.ref x) name → E (.ref e) { s with heap := h', toks := tk }) :
    wpAny (model prog w) A (getAttr (.ref x) name true) Q E s := by
  obtain ⟨od, I, hl, _⟩ := instAt_of hx hn
  refine get_open X I (plainGet_of hg).1 ?_
  obtain ⟨hh', g, d, t, os⟩ := s
  have L0 := I.type (M := model prog w)
  have L1 := looks_find (M := model prog w) X I (hf od (by rw [hl, hm]))
  have L2 := looks_findIn (M := model prog w) X (plainGet_of hg).2
  have L3 := looks_clsIn (M := model prog w) X hc
  refine wpAny_bind (wpAny_pure (wpAny_bind (L0.at (wpAny_bind (L1.at (wpAny_bind (L2.at ?_)))))))
  show wpAny _ _ (noSuchAttribute (.ref x) name) _ _ _
  unfold noSuchAttribute typeNameOfCut shownTypeOf
  refine wpAny_bind (wpAny_bind (wpAny_bind (L0.at ?_)))
  show wpAny _ _ (pure (Value.ref C)) _ _ _
  refine wpAny_pure ?_
  unfold typeNameCut
  refine wpAny_bind (L3.at ?_)
  rw [if_pos hfold]
  refine wpAny_pure ?_
  refine wpAny_raiseAttrError (by exact hA) (fun h' tk' e hx' => ?_) hsz
  obtain ⟨t', u', he⟩ := hx'.there
  have hA' : A.handled = none := hA
  have f1 := sub_AttributeError
  unfold noteIf
  rw [if_pos rfl]
  unfold noteAttr lacksNameAndObj
  dsimp only
  refine wpAny_bind (wpAny_bind (wpAny_isInstance (T := "AttributeError") (b := true) ⟨_, he, rfl⟩ f1 ?_))
  rw [if_neg (by decide)]
  refine wpAny_bind (wpAny_load he ?_)
  dsimp only
  rw [if_pos (by rfl)]
  refine wpAny_pure ?_
  rw [if_neg (by decide)]
  exact wpAny_pure (h h' tk' e ⟨hx'.keeps, hx'.new, t', u', he⟩)

/-- an exception new made -/
structure Rsd (h h' : Heap) (e : Addr) (X : String) : Prop where
  keeps : Keeps h h'
  new : h.get? e = none
  there : ∃ oe vs a0, h'.get? e = some oe ∧ oe.cls = .type X ∧ oe.data = .fields vs ∧ vs[1]? = some .none ∧ vs[0]? = some a0
theorem Rsd.of_attr {h h' : Heap} {e : Addr} {o : Value} {name : Str} (x : Heap.NewAttrErr h h' e o name) : Rsd h h' e "AttributeError" :=
  ⟨x.keeps, x.new, by obtain ⟨t, u, he⟩ := x.there; exact ⟨_, _, _, he, rfl, rfl, rfl, rfl⟩⟩
theorem Rsd.of_exc {h h' : Heap} {e : Addr} {X : String} (x : Heap.NewExc h h' e X) : Rsd h h' e X :=
  ⟨x.keeps, x.new, by obtain ⟨ob, t, he, hc, hd⟩ := x.there; exact ⟨ob, _, _, he, hc, hd, rfl, rfl⟩⟩

section
variable {prog : Program} {w : World} {base h₀ h h' : Heap} {nn : Nat} {c : Cfg nn} {outer : List Env} {m : Str → Option Value} {σ σ' : NS} {os os' : List (Addr × Obj)} {A : Around} {E : Value → Shared → Prop} {s : Shared} {env : Env}

theorem Nodes.hide (N : Nodes c σ h) (k : Ok base c outer h) : Nodes c σ (hideAll h (frs outer)) := by
  have pl : ∀ b C dx, h.get? b = some (instObj C dx) → b ∉ frs outer := fun b C dx e m => by
    obtain ⟨o, es, n, e', d⟩ := k.dicts b m
    rw [e] at e'; cases e'; cases d
  refine ⟨fun j hj => hideAll_get _ (N.inst j hj) (pl _ _ _ (N.inst j hj)), fun j hj => (N.dict j hj).at fun o e => hideAll_get _ e fun m => (k.apart _ m).2 j hj rfl, hideAll_get _ N.kind (pl _ _ _ N.kind), N.kdict.at fun o e => hideAll_get _ e fun m => (k.apart _ m).1 rfl, N.wf⟩

theorem Ok.hidStays (k : Ok base c outer h) : base.StaysIn (hideAll h (frs outer)) := fun b o e => hideAll_get _ (k.stays b o e) fun m => by rw [k.notIn m] at e; cases e
theorem Ok.hidFrames (k : Ok base c outer h) : h.FunFrames (hideAll h (frs outer)) outer := funFrames_hide k.frames fun env he a hf => List.mem_filterMap.mpr ⟨env, he, hf⟩

/-- an exception on its way out of a def -/
def Flies {nn : Nat} (c : Cfg nn) (outer : List Env) (σ : NS) (h h' : Heap) (e : Addr) (cls : Value) : Prop :=
  ∃ B a0, Heap.FlyingW B outer e cls a0 h' ∧ Nodes c σ B ∧ (∀ b o, h.get? b = some o → b ∉ frs outer → ¬ c.D b → B.get? b = some o) ∧ ∀ b o, h.get? b = some o → b ∈ frs outer → ∃ sl, h'.get? b = some { o with slots := sl }

theorem notFields_of {o : Obj} {es : Array DictEntry} {n : Nat} (d : o.data = .dict es n) : ∀ vs, o.data ≠ .fields vs := fun vs q => by rw [d] at q; cases q

theorem St.mem {env : Env} (S : St base c outer h₀ env m σ os h) {b : Addr} {o : Obj} (e : h₀.get? b = some o) (hn : b ∉ frs outer) : b ∉ frs (env :: outer) := fun q => by
  rw [S.frsEq] at q
  rcases List.mem_cons.mp q with rfl | q
  · rw [S.new] at e; cases e
  · exact hn q
theorem St.mem' {env : Env} (S : St base c outer h₀ env m σ os h) {b : Addr} (hb : b ∈ frs outer) : b ∈ frs (env :: outer) := by rw [S.frsEq]; exact .tail _ hb

/-- an exception made in this frame leaves it -/
theorem leave_first {M : Model} {X : String} {e : Addr} {Q : Unit → Shared → Prop} (hA : A.frames = some (env :: outer)) (S : St base c outer h₀ env m σ os h) (R : Rsd h s.heap e X)
    (hQ : ∀ h', Flies c outer σ h₀ h' e (.type X) → Q () { s with heap := h' }) : wpAny M A (leaving env (.ref e)) Q E s := by
  obtain ⟨oe, vs, a0, he, hcl, hd, h1, h0⟩ := R.there
  have hen : (hideAll h (frs (env :: outer))).get? e = none := by
    cases q : (hideAll h (frs (env :: outer))).get? e with
    | none => rfl
    | some o => have := of_hideAll _ q; rw [R.new] at this; cases this
  refine wpAny_leaving_firstW (base := hideAll h (frs (env :: outer))) hA (S.ok.hidFrames.of_keeps fun b o q _ => ⟨o, R.keeps b o q, rfl⟩) S.fr he (fun b o q => R.keeps b o (of_hideAll _ q)) hen hd h1 h0 fun h' hL => ?_
  obtain ⟨k1, k2, k3, k4⟩ := hL
  refine hQ h' ⟨_, a0, ⟨k1, hen, k2.2.2, by rw [← hcl]; exact k3⟩, S.nodes.hide S.ok, fun b o q hn hD => hideAll_get _ (S.turn.same b o q hn hD) (S.mem q hn), fun b o q hb => ?_⟩
  obtain ⟨sl, e1⟩ := S.turn.frame b o q hb
  obtain ⟨o', es, n, e2, d2⟩ := S.ok.dicts b (S.mem' hb)
  rw [e1] at e2
  cases e2
  obtain ⟨sl', e3⟩ := k4 b _ (R.keeps b _ e1) (notFields_of d2)
  exact ⟨sl', e3⟩

/-- an exception out of a call leaves this frame too -/
theorem leave_on {M : Model} {cls : Value} {e : Addr} {Q : Unit → Shared → Prop} (hA : A.frames = some (env :: outer)) (S : St base c outer h₀ env m σ os h) (R : Flies c (env :: outer) σ' h s.heap e cls)
    (hQ : ∀ h', Flies c outer σ' h₀ h' e cls → Q () { s with heap := h' }) : wpAny M A (leaving env (.ref e)) Q E s := by
  obtain ⟨B, a0, hf, hN, hk, hfr⟩ := R
  refine wpAny_leaves_onW hA S.fr hf fun h' x1 x2 => hQ h' ⟨B, a0, x1, hN, fun b o q hn hD => hk b o (S.turn.same b o q hn hD) (S.mem q hn) hD, fun b o q hb => ?_⟩
  obtain ⟨sl, e1⟩ := S.turn.frame b o q hb
  obtain ⟨sl1, e2⟩ := hfr b _ e1 (S.mem' hb)
  obtain ⟨o', es, n, e3, d3⟩ := S.ok.dicts b (S.mem' hb)
  rw [e1] at e3
  cases e3
  obtain ⟨sl2, e4⟩ := x2 b _ e2 (notFields_of d3)
  exact ⟨sl2, e4⟩

def Raises (w : World) (base : Heap) {nn : Nat} (c : Cfg nn) (f : Addr) (args : List Value) (d u : Nat) (σ : NS) (X : String) : Prop :=
  ∀ (prog : Program) (A : Around) (outer : List Env) (s : Shared) (R : Result → Shared → Prop), Amb A outer d u → Ok base c outer s.heap → Nodes c σ s.heap →
    (∀ h' tk e, Flies c outer σ s.heap h' e (.type X) → R (.error (.ref e)) { s with heap := h', toks := tk }) → codeAny (model prog w) A (.call (.ref f) ⟨args, []⟩) R s

theorem call_raises {f : Addr} {args : List Value} {d u : Nat} {X : String} {Q : Value → Shared → Prop} (D : Raises w base c f args d u σ X) (a : Amb A (env :: outer) d u)
    (S : St base c outer h₀ env m σ os s.heap) (h : ∀ h' tk e, Flies c (env :: outer) σ s.heap h' e (.type X) → E (.ref e) { s with heap := h', toks := tk }) : wpAny (model prog w) A (call (.ref f) args) Q E s :=
  wpAny_call (D prog A (env :: outer) s _ a S.ok S.nodes fun h' tk e F => h h' tk e F)

/-- from the station on: the heap before the raise is h -/
theorem St.landed (X : Cx w base c) (S : St base c outer h₀ env m σ os h) {B : Heap} (hN : Nodes c σ' B) (hk : ∀ b o, h.get? b = some o → b ∉ frs (env :: outer) → ¬ c.D b → B.get? b = some o)
    (hfr : ∀ b o, h.get? b = some o → b ∈ frs (env :: outer) → ∃ sl, h'.get? b = some { o with slots := sl }) (hB : B.StaysIn h') : St base c outer h₀ env m σ' os h' :=
  S.callee X ⟨fun b o e n d => hB b o (hk b o e n d), hfr⟩ (hN.keeps hB)

theorem caught_tail {T : String} {e a : Addr} {a0 : Value} {B : Heap} {qual : Str} {scope : Scope} {L : Addr} {cd : Value} {np pos : Pos} {b₀ : Stmt} {suite : List Stmt} {rest : List ExceptHandler} {Q : Flow → Shared → Prop} {x : Str}
    (X : Cx w base c) (S : St base c outer h₀ (envOf qual scope L a cd) m σ os h) (hN : Nodes c σ' B) (hk : ∀ b o, h.get? b = some o → b ∉ frs (envOf qual scope L a cd :: outer) → ¬ c.D b → B.get? b = some o)
    (hfr : ∀ b o, h.get? b = some o → b ∈ frs (envOf qual scope L a cd :: outer) → ∃ sl, s.heap.get? b = some { o with slots := sl }) (H : Heap.HeldW B (envOf qual scope L a cd :: outer) e (.type T) a0 L s.heap)
    (hT : (x, Value.type T) ∈ builtinNames) (hexc : isSubtype (.type T) (.type "BaseException") = pure true) (hnt : isSubtype (.type ((Manifest.find? T).elim "type" fun y => y.metatype)) (.type "tuple") = pure false) (hsub : isSubtype (.type T) (.type T) = pure true)
    (k : ∀ h', St base c outer h₀ (envOf qual scope L a cd) m σ' os h' → wpAny (model prog w) (A.mark (some (.ref e))) (execs (b₀ :: suite) (envOf qual scope L a cd)) Q (fun _ _ => False) { s with heap := h' })
    (hkind : scope.kind = .function := by rfl) (hl : (envOf qual scope L a cd).kindOf x = some .globalImplicit := by rfl) (hd : (x == ("__debug__" : Str)) = false := by decide) :
    wpAny (model prog w) A (setFlight (.ref e) none) (fun _ s₃ => wpAny (model prog w) A (handleBy (.ref e) (envOf qual scope L a cd) (.ExceptHandler (some (.Name x np)) none (b₀ :: suite) pos :: rest)) Q E s₃) E s := by
  have up : ∀ {g g' : Heap}, (∀ b o, h.get? b = some o → b ∈ frs (envOf qual scope L a cd :: outer) → ∃ sl, g.get? b = some { o with slots := sl }) → g.UpToSlots g' →
      ∀ b o, h.get? b = some o → b ∈ frs (envOf qual scope L a cd :: outer) → ∃ sl, g'.get? b = some { o with slots := sl } := fun h1 h2 b o q hb => by
    obtain ⟨sl, e1⟩ := h1 b o q hb
    obtain ⟨o', es, n, e3, d3⟩ := S.ok.dicts b hb
    rw [q] at e3
    cases e3
    obtain ⟨sl', e2⟩ := h2 b _ e1 (notFields_of d3)
    exact ⟨sl', e2⟩
  refine wpAny_landsW H fun h₁ hf₁ u₁ => ?_
  have hfr₁ := up hfr u₁
  have S₁ := S.landed X hN hk hfr₁ hf₁.1
  refine wpAny_handleBy_builtin (X := T) (T := T) (b := true) hexc hnt hsub ?_
  refine wpAny_mono (E := fun _ _ => False) (r_builtin (s := { s with heap := h₁ }) X S₁ hT ⟨rfl, ?_, ?_⟩ hkind hl hd) (fun _ _ q => q) fun _ _ q => q.elim
  · obtain ⟨ob, e1, e2⟩ := hf₁.there
    exact ⟨ob, e1, e2⟩
  · rw [if_pos rfl]
    refine lands_againW hf₁ fun h₂ hf₂ u₂ => ?_
    have S₂ := S.landed X hN hk (up hfr₁ u₂) hf₂.1
    exact wpAny_mono (k h₂ S₂) (fun _ _ q => q) fun _ _ q => q.elim

/-- an exception made in this frame is caught here -/
theorem caught_first {T : String} {e a : Addr} {qual : Str} {scope : Scope} {L : Addr} {cd : Value} {np pos : Pos} {b₀ : Stmt} {suite : List Stmt} {rest : List ExceptHandler} {Q : Flow → Shared → Prop} {x : Str}
    (X : Cx w base c) (hA : A.frames = some (envOf qual scope L a cd :: outer)) (S : St base c outer h₀ (envOf qual scope L a cd) m σ os h) (R : Rsd h s.heap e T)
    (hT : (x, Value.type T) ∈ builtinNames) (hexc : isSubtype (.type T) (.type "BaseException") = pure true) (hnt : isSubtype (.type ((Manifest.find? T).elim "type" fun y => y.metatype)) (.type "tuple") = pure false) (hsub : isSubtype (.type T) (.type T) = pure true)
    (k : ∀ h', St base c outer h₀ (envOf qual scope L a cd) m σ os h' → wpAny (model prog w) (A.mark (some (.ref e))) (execs (b₀ :: suite) (envOf qual scope L a cd)) Q (fun _ _ => False) { s with heap := h' })
    (hkind : scope.kind = .function := by rfl) (hl : (envOf qual scope L a cd).kindOf x = some .globalImplicit := by rfl) (hd : (x == ("__debug__" : Str)) = false := by decide) :
    wpAny (model prog w) A (noteFrame (.ref e) (envOf qual scope L a cd)) (fun _ s₂ => wpAny (model prog w) A (setFlight (.ref e) none) (fun _ s₃ => wpAny (model prog w) A (handleBy (.ref e) (envOf qual scope L a cd) (.ExceptHandler (some (.Name x np)) none (b₀ :: suite) pos :: rest)) Q E s₃) E s₂) E s := by
  obtain ⟨oe, vs, a0, he, hcl, hd', h1, h0⟩ := R.there
  have hen : (hideAll h (frs (envOf qual scope L a cd :: outer))).get? e = none := by
    cases q : (hideAll h (frs (envOf qual scope L a cd :: outer))).get? e with
    | none => rfl
    | some o => have := of_hideAll _ q; rw [R.new] at this; cases this
  unfold noteFrame
  simp only [S.fr]
  refine wpAny_bind (wpAny_field he hd' h1 ?_)
  rw [if_neg (by decide)]
  refine wpAny_entryW (base := hideAll h (frs (envOf qual scope L a cd :: outer))) hA (S.ok.hidFrames.of_keeps fun b o q _ => ⟨o, R.keeps b o q, rfl⟩) S.fr he (fun b o q => R.keeps b o (of_hideAll _ q)) hen hd' (Array.getElem?_eq_some_iff.mp h1).1 h0 fun h' hL => ?_
  obtain ⟨k1, k2, k3, k4⟩ := hL
  rw [hcl] at k3
  refine caught_tail (s := { s with heap := h' }) X S (S.nodes.hide S.ok) (fun b o q hn _ => hideAll_get _ q hn) (fun b o q hb => ?_) ⟨k1, hen, k2, k3⟩ hT hexc hnt hsub k hkind hl hd
  obtain ⟨o', es, n, e3, d3⟩ := S.ok.dicts b hb
  rw [q] at e3
  cases e3
  exact k4 b o (R.keeps b o q) (notFields_of d3)

/-- an exception out of a call is caught here -/
theorem caught_on {T : String} {e a : Addr} {qual : Str} {scope : Scope} {L : Addr} {cd : Value} {np pos : Pos} {b₀ : Stmt} {suite : List Stmt} {rest : List ExceptHandler} {Q : Flow → Shared → Prop} {x : Str}
    (X : Cx w base c) (hA : A.frames = some (envOf qual scope L a cd :: outer)) (S : St base c outer h₀ (envOf qual scope L a cd) m σ os h) (R : Flies c (envOf qual scope L a cd :: outer) σ' h s.heap e (.type T))
    (hT : (x, Value.type T) ∈ builtinNames) (hexc : isSubtype (.type T) (.type "BaseException") = pure true) (hnt : isSubtype (.type ((Manifest.find? T).elim "type" fun y => y.metatype)) (.type "tuple") = pure false) (hsub : isSubtype (.type T) (.type T) = pure true)
    (k : ∀ h', St base c outer h₀ (envOf qual scope L a cd) m σ' os h' → wpAny (model prog w) (A.mark (some (.ref e))) (execs (b₀ :: suite) (envOf qual scope L a cd)) Q (fun _ _ => False) { s with heap := h' })
    (hkind : scope.kind = .function := by rfl) (hl : (envOf qual scope L a cd).kindOf x = some .globalImplicit := by rfl) (hd : (x == ("__debug__" : Str)) = false := by decide) :
    wpAny (model prog w) A (noteFrame (.ref e) (envOf qual scope L a cd)) (fun _ s₂ => wpAny (model prog w) A (setFlight (.ref e) none) (fun _ s₃ => wpAny (model prog w) A (handleBy (.ref e) (envOf qual scope L a cd) (.ExceptHandler (some (.Name x np)) none (b₀ :: suite) pos :: rest)) Q E s₃) E s₂) E s := by
  obtain ⟨B, a0, hf, hN, hk, hfr⟩ := R
  refine wpAny_looks_onW hA S.fr hf fun h' H u => ?_
  refine caught_tail (s := { s with heap := h' }) X S hN hk (fun b o q hb => ?_) H hT hexc hnt hsub k hkind hl hd
  obtain ⟨o', es, n, e3, d3⟩ := S.ok.dicts b hb
  rw [q] at e3
  cases e3
  obtain ⟨sl, e1⟩ := hfr b o q hb
  obtain ⟨sl', e2⟩ := u b _ e1 (notFields_of d3)
  exact ⟨sl', e2⟩
end
end Mine

namespace Mine
open PySem PySem.W PySem.Calls PyProof.Rows
example (w : World) : hd.heap_39 w.params = hd.heap_39 w.params ∧ PySem.Challenge.rw_bi0011_01 = PySem.Challenge.rw_bi0011_01 := by
  k_fill
  exact ⟨rfl, rfl⟩
local macro_rules | `(tactic| k_is) => `(tactic| (delta KF; k_is))
local macro_rules | `(tactic| walk_at "m enter") => `(tactic| (
  (case ho => k_is)
  (case hcd => k_is)
  (case hbind => exact BindsTo.of_eq rfl)
  (case hloc => exact locs rfl)
  (case hcell => decide)
  (case hco => rfl)
  (case hgen => rfl)
  (case hk => rfl)))

/-- a link as a value -/
def lv {nn : Nat} (c : Cfg nn) : Option Nat → Value
  | none => .none
  | some k => .ref (c.na k)

structure MissOk (w : World) (C : Addr) (name : Str) : Prop where
  g : plainGet (KF w) C name = true
  f : ∀ od, lookIn name od = some none → findObj (KF w) C (some od) name = some .missing
  m : ∃ cd, clsIn (KF w) C = some cd ∧ ((s!"'{cd.name.toString}' object has no attribute '" : Str) ++ name ++ "'").length ≤ sizeLine ∧ cd.name.cps.foldl (fun k c => k + (Str.utf8Of c).length) 0 ≤ 100

theorem findObj_missing {K : Frag} {C : Addr} {name : Str} {od : Obj} (hh : hasDictIn K C = true) (ha : findIn K (.ref C) name = some none) (hc : copiedNames.contains name = false) (hl : lookIn name od = some none) :
    findObj K C (some od) name = some .missing := by
  obtain ⟨cd, hc', hd⟩ := any_some hh
  unfold findObj
  have ho : W.ownOf cd (some od) name = some none := by unfold W.ownOf; rw [if_pos hd]; exact hl
  rw [hc', Option.bind_some, ha, Option.bind_some]
  simp only [Option.bind_some, ho, hc, Bool.false_and, Bool.false_eq_true, if_false]

theorem missOk {w : World} {C : Addr} {name : Str} {cd : ClassData} (G : GetOk w C name) (hc : copiedNames.contains name = false) (h1 : clsIn (KF w) C = some cd)
    (h2 : ((s!"'{cd.name.toString}' object has no attribute '" : Str) ++ name ++ "'").length ≤ sizeLine) (h3 : cd.name.cps.foldl (fun k c => k + (Str.utf8Of c).length) 0 ≤ 100) : MissOk w C name :=
  ⟨G.g, fun _ hl => findObj_missing G.h G.f hc hl, cd, h1, h2, h3⟩

theorem miss_next (w : World) (j : Nat) : MissOk w (ncls j) "next_on_list" :=
  ncls_cases (P := fun C => MissOk w C "next_on_list") j
    (by refine' missOk (by constructor <;> k_is) (by decide +kernel) ?h ?_ ?_; (case h => k_is); all_goals decide +kernel)
    (by refine' missOk (by constructor <;> k_is) (by decide +kernel) ?h ?_ ?_; (case h => k_is); all_goals decide +kernel)

theorem miss_prev (w : World) (j : Nat) : MissOk w (ncls j) "prev_on_list" :=
  ncls_cases (P := fun C => MissOk w C "prev_on_list") j
    (by refine' missOk (by constructor <;> k_is) (by decide +kernel) ?h ?_ ?_; (case h => k_is); all_goals decide +kernel)
    (by refine' missOk (by constructor <;> k_is) (by decide +kernel) ?h ?_ ?_; (case h => k_is); all_goals decide +kernel)

section
variable {prog : Program} {w : World} {base h₀ : Heap} {nn : Nat} {c : Cfg nn} {outer : List Env} {m : Str → Option Value} {σ σ' : NS} {os os' : List (Addr × Obj)} {A : Around} {E : Value → Shared → Prop} {s : Shared} {env : Env}

theorem r_miss {Q : Value → Shared → Prop} {j : Nat} {name : Str} (hA : A.handled = none) (X : Cx w base c) (S : St base c outer h₀ env m σ os s.heap) (hj : j < nn) (F : MissOk w (ncls j) name) (hm : nmap c σ j name = none)
    (h : ∀ h' tk e, Rsd s.heap h' e "AttributeError" → E (.ref e) { s with heap := h', toks := tk }) : wpAny (model prog w) A (getAttr (.ref (c.na j)) name true) Q E s := by
  obtain ⟨cd, h1, h2, h3⟩ := F.m
  exact inst_miss hA (S.K X) (S.nodes.inst j hj) (S.nodes.dict j hj).ns F.g F.f hm h1 h2 h3 fun h' tk e x => h h' tk e (.of_attr x)

theorem r_next {Q : Value → Shared → Prop} {expr : Bool} {j k : Nat} (X : Cx w base c) (S : St base c outer h₀ env m σ os s.heap) (hj : j < nn) (hk : (σ j).nx = some k)
    (h : Q (.ref (c.na k)) { s with toks := s.toks + 1 }) : wpAny (model prog w) A (getAttr (.ref (c.na j)) "next_on_list" expr) Q E s :=
  r_node X S hj (by unfold nmap nref; rw [if_pos rfl, hk]; rfl) (getOk_next w j).g (getOk_next w j).h (getOk_next w j).f rfl rfl h
theorem r_prev {Q : Value → Shared → Prop} {expr : Bool} {j k : Nat} (X : Cx w base c) (S : St base c outer h₀ env m σ os s.heap) (hj : j < nn) (hk : (σ j).pv = some k)
    (h : Q (.ref (c.na k)) { s with toks := s.toks + 1 }) : wpAny (model prog w) A (getAttr (.ref (c.na j)) "prev_on_list" expr) Q E s :=
  r_node X S hj (by unfold nmap nref; rw [if_neg (by decide), if_pos rfl, hk]; rfl) (getOk_prev w j).g (getOk_prev w j).h (getOk_prev w j).f rfl rfl h

theorem attr_exc : isSubtype (.type "AttributeError") (.type "BaseException") = pure true := by rw [isSubtype_type]; kernel_rfl
theorem attr_tup : isSubtype (.type ((Manifest.find? "AttributeError").elim "type" fun y => y.metatype)) (.type "tuple") = pure false := by rw [isSubtype_type]; kernel_rfl

theorem next_does (X : Cx w base c) {j : Nat} (hj : j < nn) : Does w base c 141 [.ref c.ka, .ref (c.na j)] 1 10 σ σ (lv c (σ j).nx) := by
  intro prog A outer s R a ok N h
  refine' enter0 (d := 0) (u := 7) [("self", .ref c.ka), ("node", .ref (c.na j))] X a ok N ?ho ?hcd ?hbind ?hloc ?hcell ?hco ?hgen ?hk ?_
  walk_at "m enter"
  intro L h₁ tk S a'
  refine wpAny_execs_cons (wpAny_Try_except (wpAny_execs_cons (wpAny_Return_some (Attribute_Name_ (r_name S (v := .ref (c.na j)) (by rfl) ?_)))))
  cases q : (σ j).nx with
  | some k =>
    refine r_next X S hj q ?_
    rw [q] at h
    exact h _ _ S.turn S.nodes
  | none =>
    refine r_miss a'.handled X S hj (miss_next w j) (by unfold nmap nref; rw [if_pos rfl, q]; rfl) fun h' tk' e R' => ?_
    refine caught_first X a'.frames S R' (by decide) attr_exc attr_tup sub_AttributeError fun h₂ S₂ => ?_
    rw [q] at h
    refine wpAny_execs_cons (wpAny_Return_some ?_)
    exact wpAny_pure (h _ _ S₂.turn S₂.nodes)

theorem prev_does (X : Cx w base c) {j : Nat} (hj : j < nn) : Does w base c 155 [.ref c.ka, .ref (c.na j)] 1 10 σ σ (lv c (σ j).pv) := by
  intro prog A outer s R a ok N h
  refine' enter0 (d := 0) (u := 7) [("self", .ref c.ka), ("node", .ref (c.na j))] X a ok N ?ho ?hcd ?hbind ?hloc ?hcell ?hco ?hgen ?hk ?_
  walk_at "m enter"
  intro L h₁ tk S a'
  refine wpAny_execs_cons (wpAny_Try_except (wpAny_execs_cons (wpAny_Return_some (Attribute_Name_ (r_name S (v := .ref (c.na j)) (by rfl) ?_)))))
  cases q : (σ j).pv with
  | some k =>
    refine r_prev X S hj q ?_
    rw [q] at h
    exact h _ _ S.turn S.nodes
  | none =>
    refine r_miss a'.handled X S hj (miss_prev w j) (by unfold nmap nref; rw [if_neg (by decide), if_pos rfl, q]; rfl) fun h' tk' e R' => ?_
    refine caught_first X a'.frames S R' (by decide) attr_exc attr_tup sub_AttributeError fun h₂ S₂ => ?_
    rw [q] at h
    refine wpAny_execs_cons (wpAny_Return_some ?_)
    exact wpAny_pure (h _ _ S₂.turn S₂.nodes)
end
end Mine

namespace Mine
open PySem PySem.W PySem.Calls PyProof.Rows
example (w : World) : hd.heap_39 w.params = hd.heap_39 w.params ∧ PySem.Challenge.rw_bi0011_01 = PySem.Challenge.rw_bi0011_01 := by
  k_fill
  exact ⟨rfl, rfl⟩
local macro_rules | `(tactic| k_is) => `(tactic| (delta KF; k_is))
local macro_rules | `(tactic| walk_at "m enter") => `(tactic| (
  (case ho => k_is)
  (case hcd => k_is)
  (case hbind => exact BindsTo.of_eq rfl)
  (case hloc => exact locs rfl)
  (case hcell => decide)
  (case hco => rfl)
  (case hgen => rfl)
  (case hk => rfl)))

structure MethOk (w : World) (C : Addr) (name : Str) (f : Addr) : Prop where
  gt : plainGet (KF w) C name = true
  fn : findIn (KF w) (.ref C) name = some (some (.ref f))
  ty : isFn (KF w) (.ref f) = true
  kp : keepIn (KF w) (.ref f) = true

section
variable {prog : Program} {w : World} {base h₀ : Heap} {nn : Nat} {c : Cfg nn} {outer : List Env} {m : Str → Option Value} {σ σ' : NS} {os os' : List (Addr × Obj)} {A : Around} {E : Value → Shared → Prop} {s : Shared}
  {qual : Str} {scope : Scope} {L fa : Addr} {cd : Value} {name : Str} {f : Addr} {e e₂ : Expr} {p1 apos pos ap2 : Pos} {Q : Value → Shared → Prop}

theorem r_args1 {M : Model} {env : Env} {Q : List Value → Shared → Prop} (h : wpAny M A (eval e env) (fun v s₁ => Q [v] s₁) E s) (he : starEach [e] env = (false, eval e env) :: starEach [] env := by rfl) :
    wpAny M A (spliced (backTo pos (starEach [e] env))) Q E s := spliced_more (wpAny_mono h (fun _ _ q => spliced_none q) fun _ _ q => q) he
theorem r_args2 {M : Model} {env : Env} {Q : List Value → Shared → Prop} (h : wpAny M A (eval e env) (fun v s₁ => wpAny M A (eval e₂ env) (fun v₂ s₂ => Q [v, v₂] s₂) E s₁) E s)
    (he : starEach [e, e₂] env = (false, eval e env) :: starEach [e₂] env := by rfl) (he₂ : starEach [e₂] env = (false, eval e₂ env) :: starEach [] env := by rfl) :
    wpAny M A (spliced (backTo pos (starEach [e, e₂] env))) Q E s := spliced_more (wpAny_mono h (fun _ _ q => r_args1 q he₂) fun _ _ q => q) he

/-- self.name(e) in a method of the kind -/
theorem r_self1 (X : Cx w base c) (S : St base c outer h₀ (envOf qual scope L fa cd) m σ os s.heap) (F : MethOk w 193 name f) (hs : m "self" = some (.ref c.ka))
    (h : wpAny (model prog w) A (eval e (envOf qual scope L fa cd)) (fun v s₁ => (KF w).In s₁.heap ∧ wpAny (model prog w) A (call (.ref f) [.ref c.ka, v]) Q E s₁) E s)
    (he : starEach [e] (envOf qual scope L fa cd) = (false, eval e (envOf qual scope L fa cd)) :: starEach [] (envOf qual scope L fa cd) := by rfl)
    (hk : scope.kind = .function := by rfl) (hl : (envOf qual scope L fa cd).kindOf "self" = some .local := by rfl) (hp : (backTo pos (starEach [] (envOf qual scope L fa cd))).any (·.1) = false := by rfl)
    {pl : Sem Bool} (hc : eval (.Call (.Attribute (.Name "self" p1) name apos) [e] [] pos) (envOf qual scope L fa cd) = (do
      let ov ← eval (.Name "self" p1) (envOf qual scope L fa cd)
      standAt apos.atName
      let (f, first) ← holding [ov] (getMethod ov name pl)
      callWith pos f first (backTo pos (starEach [e] (envOf qual scope L fa cd))) []) := by rfl) :
    wpAny (model prog w) A (eval (.Call (.Attribute (.Name "self" p1) name apos) [e] [] pos) (envOf qual scope L fa cd)) Q E s :=
  MethodCall_ (he := hc) (r_name S hs (r_kind X S F.gt F.fn F.ty (callWith_K (S.K X) F.kp (r_args1 h he) he hp)) hk hl)

theorem r_self2 (X : Cx w base c) (S : St base c outer h₀ (envOf qual scope L fa cd) m σ os s.heap) (F : MethOk w 193 name f) (hs : m "self" = some (.ref c.ka))
    (h : wpAny (model prog w) A (eval e (envOf qual scope L fa cd)) (fun v s₁ => wpAny (model prog w) A (eval e₂ (envOf qual scope L fa cd)) (fun v₂ s₂ => (KF w).In s₂.heap ∧ wpAny (model prog w) A (call (.ref f) [.ref c.ka, v, v₂]) Q E s₂) E s₁) E s)
    (he : starEach [e, e₂] (envOf qual scope L fa cd) = (false, eval e (envOf qual scope L fa cd)) :: starEach [e₂] (envOf qual scope L fa cd) := by rfl)
    (he₂ : starEach [e₂] (envOf qual scope L fa cd) = (false, eval e₂ (envOf qual scope L fa cd)) :: starEach [] (envOf qual scope L fa cd) := by rfl)
    (hk : scope.kind = .function := by rfl) (hl : (envOf qual scope L fa cd).kindOf "self" = some .local := by rfl) (hp : (backTo pos (starEach [e₂] (envOf qual scope L fa cd))).any (·.1) = false := by rfl)
    {pl : Sem Bool} (hc : eval (.Call (.Attribute (.Name "self" p1) name apos) [e, e₂] [] pos) (envOf qual scope L fa cd) = (do
      let ov ← eval (.Name "self" p1) (envOf qual scope L fa cd)
      standAt apos.atName
      let (f, first) ← holding [ov] (getMethod ov name pl)
      callWith pos f first (backTo pos (starEach [e, e₂] (envOf qual scope L fa cd))) []) := by rfl) :
    wpAny (model prog w) A (eval (.Call (.Attribute (.Name "self" p1) name apos) [e, e₂] [] pos) (envOf qual scope L fa cd)) Q E s :=
  MethodCall_ (he := hc) (r_name S hs (r_kind X S F.gt F.fn F.ty (callWith_K (S.K X) F.kp (r_args2 h he he₂) he hp)) hk hl)
end

theorem m_next (w : World) : MethOk w 193 "node_next" 141 := by constructor <;> k_is
theorem m_prev (w : World) : MethOk w 193 "node_prev" 155 := by constructor <;> k_is
theorem m_setn (w : World) : MethOk w 193 "node_set_next" 148 := by constructor <;> k_is
theorem m_setp (w : World) : MethOk w 193 "node_set_prev" 162 := by constructor <;> k_is
theorem m_on (w : World) : MethOk w 193 "node_is_on_list" 169 := by constructor <;> k_is
theorem m_init (w : World) : MethOk w 193 "node_init" 134 := by constructor <;> k_is
theorem m_after (w : World) : MethOk w 193 "node_insert_after" 176 := by constructor <;> k_is
theorem m_before (w : World) : MethOk w 193 "node_insert_before" 183 := by constructor <;> k_is
theorem m_unlink (w : World) : MethOk w 193 "node_unlink" 190 := by constructor <;> k_is

theorem ifT {b : Bool} {p q : Prop} (hb : b = true) (h : p) : if b = true then p else q := by rw [if_pos hb]; exact h
theorem ifF {b : Bool} {p q : Prop} (hb : b = false) (h : q) : if b = true then p else q := by rw [if_neg (by rw [hb]; decide)]; exact h

/-- is the node on a list -/
def onL (σ : NS) (j : Nat) : Bool := match (σ j).nx with
  | none => false
  | some k => k != j
/-- a node that is off has the same behind as ahead -/
def Wf (σ : NS) (j : Nat) : Prop := onL σ j = false → (σ j).pv = (σ j).nx

section
variable {prog : Program} {w : World} {base h₀ : Heap} {nn : Nat} {c : Cfg nn} {outer : List Env} {m : Str → Option Value} {σ σ' : NS} {os os' : List (Addr × Obj)} {A : Around} {E : Value → Shared → Prop} {s : Shared} {env : Env}

theorem lv_is {Q : Value → Shared → Prop} {M : Model} (X : Cx w base c) {h : Heap} (N : Nodes c σ h) (k : ∀ b o, h.get? b = some o → s.heap.get? b = some o) {i j : Nat} (hi : i < nn) (hj : j < nn) (h : Q (.bool (i == j)) s) :
    wpAny M A (compareOp .Is (.ref (c.na i)) (.ref (c.na j))) Q E s := by
  by_cases q : i = j
  · subst q
    rw [beq_self_eq_true] at h
    exact wpAny_is_ref_self h
  · rw [beq_eq_false_iff_ne.mpr q] at h
    exact wpAny_is_ref_other (fun z => q (N.na_inj X hi hj z)) (k _ _ (N.inst i hi)) (k _ _ (N.inst j hj)) (by intro z; cases z) h
theorem lv_isNot {Q : Value → Shared → Prop} {M : Model} (X : Cx w base c) {h : Heap} (N : Nodes c σ h) (k : ∀ b o, h.get? b = some o → s.heap.get? b = some o) {i j : Nat} (hi : i < nn) (hj : j < nn) (h : Q (.bool (i != j)) s) :
    wpAny M A (compareOp .IsNot (.ref (c.na i)) (.ref (c.na j))) Q E s := by
  by_cases q : i = j
  · subst q
    rw [bne_self_eq_false] at h
    exact wpAny_isNot_ref_self h
  · rw [bne_iff_ne.mpr q] at h
    exact wpAny_isNot_ref_other (fun z => q (N.na_inj X hi hj z)) (k _ _ (N.inst i hi)) (k _ _ (N.inst j hj)) (by intro z; cases z) h

theorem lv_self {Q : Value → Shared → Prop} {M : Model} {k : Option Nat} (h : Q (.bool true) s) : wpAny M A (compareOp .Is (lv c k) (lv c k)) Q E s := by
  cases k with
  | none => exact wpAny_is_self rfl h
  | some k => exact wpAny_is_ref_self h

theorem on_does (X : Cx w base c) {j : Nat} (hj : j < nn) (hw : Wf σ j) : Does w base c 169 [.ref c.ka, .ref (c.na j)] 2 20 σ σ (.bool (onL σ j)) := by
  intro prog A outer s R a ok N h
  refine' enter0 (d := 1) (u := 17) [("self", .ref c.ka), ("node", .ref (c.na j))] X a ok N ?ho ?hcd ?hbind ?hloc ?hcell ?hco ?hgen ?hk ?_
  walk_at "m enter"
  intro L h₁ tk S a'
  refine wpAny_execs_cons (wpAny_Assign_Name (r_self1 X S (m_next w) (by rfl) (r_name S (v := .ref (c.na j)) (by rfl) ⟨S.K X, ?_⟩)))
  refine call_does X (next_does X hj) (a'.mono (by decide) (by decide)) S fun h₂ tk₂ S₂ => ?_
  refine r_store S₂ fun h₃ S₃ => ?_
  refine wpAny_execs_cons (wpAny_If (wpAny_mono (Q := fun b s' => b = (!onL σ j) ∧ s' = { s with heap := h₃, toks := tk₂ + 1 }) ?_ ?_ fun _ _ q => q))
  · refine isTrue_or (wpAny_isTrue_Compare1 (r_name S₃ (v := lv c (σ j).nx) (by rfl) (r_name S₃ (v := .ref (c.na j)) (by rfl) ?_)))
    unfold onL
    cases q : (σ j).nx with
    | none =>
      refine wpAny_is_other rfl (by intro z; cases z) (wpAny_truthy_bool (ifF rfl ?_))
      rw [q] at S₃
      refine isTrue_or (wpAny_isTrue_Compare1 (r_name S₃ (v := .none) (by rfl) (wpAny_Constant_none (is_none (wpAny_truthy_bool (ifT rfl ?_))))))
      exact ⟨rfl, rfl⟩
    | some k =>
      have hk := S₃.nodes.wf j hj k (.inl q)
      refine lv_is X S₃.nodes (fun _ _ e => e) hk hj (wpAny_truthy_bool ?_)
      rw [q] at S₃
      cases hkj : k == j with
      | true => exact ifT rfl ⟨by simp [bne, hkj], rfl⟩
      | false =>
        refine ifF rfl (isTrue_or (wpAny_isTrue_Compare1 (r_name S₃ (v := .ref (c.na k)) (by rfl) (wpAny_Constant_none (is_none (wpAny_truthy_bool (ifF rfl ?_)))))))
        exact isTrue_or_nil ⟨by simp [bne, hkj], rfl⟩
  · rintro b s' ⟨rfl, rfl⟩
    cases hq : onL σ j with
    | false =>
      rw [hq] at h
      have hpv := hw hq
      refine ifT rfl ?_
      refine wpAny_execs_cons (wpAny_Assert_holds (wpAny_isTrue_Compare1 (r_self1 (s := { s with heap := h₃, toks := tk₂ + 1 }) X S₃ (m_prev w) (by rfl) (r_name S₃ (v := .ref (c.na j)) (by rfl) ⟨S₃.K X, ?_⟩))))
      refine call_does (s := { s with heap := h₃, toks := tk₂ + 1 }) X (prev_does X hj) (a'.mono (by decide) (by decide)) S₃ fun h₄ tk₄ S₄ => ?_
      refine r_name S₄ (v := lv c (σ j).nx) (by rfl) ?_
      rw [hpv]
      refine lv_self (wpAny_truthy_bool ⟨rfl, ?_⟩)
      exact wpAny_execs_cons (wpAny_Return_some (wpAny_Constant_bool (h _ _ S₄.turn S₄.nodes)))
    | true =>
      rw [hq] at h
      refine ifF rfl (wpAny_execs_nil ?_)
      exact wpAny_execs_cons (wpAny_Return_some (wpAny_Constant_bool (h _ _ S₃.turn S₃.nodes)))
end
end Mine

namespace Mine
open PySem PySem.W PySem.Calls PyProof.Rows
example (w : World) : hd.heap_39 w.params = hd.heap_39 w.params ∧ PySem.Challenge.rw_bi0011_01 = PySem.Challenge.rw_bi0011_01 := by
  k_fill
  exact ⟨rfl, rfl⟩
local macro_rules | `(tactic| k_is) => `(tactic| (delta KF; k_is))
local macro_rules | `(tactic| walk_at "m enter") => `(tactic| (
  (case ho => k_is)
  (case hcd => k_is)
  (case hbind => exact BindsTo.of_eq rfl)
  (case hloc => exact locs rfl)
  (case hcell => decide)
  (case hco => rfl)
  (case hgen => rfl)
  (case hk => rfl)))

section
variable {prog : Program} {w : World} {base h₀ : Heap} {nn : Nat} {c : Cfg nn} {outer : List Env} {m : Str → Option Value} {σ σ' : NS} {os os' : List (Addr × Obj)} {A : Around} {E : Value → Shared → Prop} {s : Shared}
  {qual : Str} {scope : Scope} {L fa : Addr} {cd : Value} {name : Str} {f : Addr} {x y : Str} {vx vy r : Value} {p1 px py apos pos pos' : Pos} {Q : Flow → Shared → Prop} {d u : Nat}

/-- self.name(x, y) as a statement -/
theorem r_do2 (X : Cx w base c) (S : St base c outer h₀ (envOf qual scope L fa cd) m σ os s.heap) (F : MethOk w 193 name f) (D : Does w base c f [.ref c.ka, vx, vy] d u σ σ' .none) (a : Amb A (envOf qual scope L fa cd :: outer) d u)
    (hs : m "self" = some (.ref c.ka)) (hx : m x = some vx) (hy : m y = some vy)
    (h : ∀ h' tk, St base c outer h₀ (envOf qual scope L fa cd) m σ' os h' → Q .next { s with heap := h', toks := tk })
    (hk : scope.kind = .function := by rfl) (hl : (envOf qual scope L fa cd).kindOf "self" = some .local := by rfl) (hlx : (envOf qual scope L fa cd).kindOf x = some .local := by rfl) (hly : (envOf qual scope L fa cd).kindOf y = some .local := by rfl)
    (hdx : (x == ("__debug__" : Str)) = false := by decide) (hdy : (y == ("__debug__" : Str)) = false := by decide)
    (hi : interactive (envOf qual scope L fa cd) = false := by rfl) (hsw : swapsWith (.Call (.Attribute (.Name "self" p1) name apos) [.Name x px, .Name y py] [] pos) none pos'.line (envOf qual scope L fa cd) = pure false := by rfl)
    {pl : Sem Bool} (hc : eval (.Call (.Attribute (.Name "self" p1) name apos) [.Name x px, .Name y py] [] pos) (envOf qual scope L fa cd) = (do
      let ov ← eval (.Name "self" p1) (envOf qual scope L fa cd)
      standAt apos.atName
      let (f, first) ← holding [ov] (getMethod ov name pl)
      callWith pos f first (backTo pos (starEach [.Name x px, .Name y py] (envOf qual scope L fa cd))) []) := by rfl) :
    wpAny (model prog w) A (exec (.Expr (.Call (.Attribute (.Name "self" p1) name apos) [.Name x px, .Name y py] [] pos) pos') (envOf qual scope L fa cd)) Q E s :=
  wpAny_Expr (r_self2 X S F hs (r_name S hx (r_name S hy ⟨S.K X, call_does X D a S fun h' tk S' => h h' tk S'⟩ hk hly hdy) hk hlx hdx) rfl rfl hk hl rfl hc) hi hsw

/-- t = self.name(x) -/
theorem r_let1 {t : Str} {pt : Pos} (X : Cx w base c) (S : St base c outer h₀ (envOf qual scope L fa cd) m σ os s.heap) (F : MethOk w 193 name f) (D : Does w base c f [.ref c.ka, vx] d u σ σ' r) (a : Amb A (envOf qual scope L fa cd :: outer) d u)
    (hs : m "self" = some (.ref c.ka)) (hx : m x = some vx)
    (h : ∀ h' tk, St base c outer h₀ (envOf qual scope L fa cd) (fun z => if z = t then some r else m z) σ' os h' → Q .next { s with heap := h', toks := tk })
    (hk : scope.kind = .function := by rfl) (hl : (envOf qual scope L fa cd).kindOf "self" = some .local := by rfl) (hlx : (envOf qual scope L fa cd).kindOf x = some .local := by rfl) (hlt : (envOf qual scope L fa cd).kindOf t = some .local := by rfl)
    (hdx : (x == ("__debug__" : Str)) = false := by decide)
    (hsw : swapsWith (.Call (.Attribute (.Name "self" p1) name apos) [.Name x px] [] pos) (some (.Name t pt)) pos'.line (envOf qual scope L fa cd) = pure false := by rfl)
    {pl : Sem Bool} (hc : eval (.Call (.Attribute (.Name "self" p1) name apos) [.Name x px] [] pos) (envOf qual scope L fa cd) = (do
      let ov ← eval (.Name "self" p1) (envOf qual scope L fa cd)
      standAt apos.atName
      let (f, first) ← holding [ov] (getMethod ov name pl)
      callWith pos f first (backTo pos (starEach [.Name x px] (envOf qual scope L fa cd))) []) := by rfl) :
    wpAny (model prog w) A (exec (.Assign [.Name t pt] (.Call (.Attribute (.Name "self" p1) name apos) [.Name x px] [] pos) pos') (envOf qual scope L fa cd)) Q E s :=
  wpAny_Assign_Name (r_self1 X S F hs (r_name S hx ⟨S.K X, call_does X D a S fun _ _ S' => r_store S' (fun h'' S'' => h h'' _ S'') hk hlt⟩ hk hlx hdx) rfl hk hl rfl hc) hsw
end

/-- ahead of i, behind i: the new node j, between i and k -/
def NS.ins (σ : NS) (i j k : Nat) : NS := (((σ.setN i j).setP j i).setN j k).setP k j
def NS.insB (σ : NS) (i j k : Nat) : NS := (((σ.setP i j).setN j i).setP j k).setN k j
def NS.cut (σ : NS) (j p n : Nat) : NS := (((σ.setN p n).setP n p).setN j j).setP j j

section
variable {w : World} {base : Heap} {nn : Nat} {c : Cfg nn} {σ : NS} {i j k : Nat}

theorem after_does (X : Cx w base c) (hi : i < nn) (hj : j < nn) (hij : i ≠ j) (hw : Wf σ j) (hoff : onL σ j = false) (hk : (σ i).nx = some k) :
    Does w base c 176 [.ref c.ka, .ref (c.na i), .ref (c.na j)] 3 30 σ (σ.ins i j k) .none := by
  intro prog A outer s R a ok N h
  have hk8 := N.wf i hi k (.inl hk)
  refine' enter0 (d := 2) (u := 27) [("self", .ref c.ka), ("node", .ref (c.na i)), ("new_node", .ref (c.na j))] X a ok N ?ho ?hcd ?hbind ?hloc ?hcell ?hco ?hgen ?hk ?_
  walk_at "m enter"
  intro L h₁ tk S a'
  refine wpAny_execs_cons (wpAny_Assert_holds (wpAny_isTrue_Not (isTrue_plain (r_self1 X S (m_on w) (by rfl) (r_name S (v := .ref (c.na j)) (by rfl) ⟨S.K X, ?_⟩)))))
  refine call_does X (on_does X hj hw) (a'.mono (by decide) (by decide)) S fun h₂ tk₂ S₂ => ?_
  rw [hoff]
  refine wpAny_truthy_bool ⟨rfl, ?_⟩
  refine wpAny_execs_cons (wpAny_Assert_holds (wpAny_isTrue_Compare1 (r_name S₂ (v := .ref (c.na i)) (by rfl) (r_name S₂ (v := .ref (c.na j)) (by rfl) ?_))))
  refine lv_isNot X S₂.nodes (fun _ _ e => e) hi hj (wpAny_truthy_bool ⟨bne_iff_ne.mpr hij, ?_⟩)
  refine wpAny_execs_cons (r_let1 X S₂ (m_next w) (next_does X hi) (a'.mono (by decide) (by decide)) (by rfl) (by rfl) fun h₃ tk₃ S₃ => ?_)
  rw [hk] at S₃
  refine wpAny_execs_cons (wpAny_Assert_holds (wpAny_isTrue_Compare1 (r_name S₃ (v := .ref (c.na k)) (by rfl) (wpAny_Constant_none (isNot_none (wpAny_truthy_bool ⟨rfl, ?_⟩))))))
  refine wpAny_execs_cons (r_do2 X S₃ (m_setn w) (set_next_does X hi hj) (a'.mono (by decide) (by decide)) (by rfl) (by rfl) (by rfl) fun h₄ tk₄ S₄ => ?_)
  refine wpAny_execs_cons (r_do2 X S₄ (m_setp w) (set_prev_does X hj hi) (a'.mono (by decide) (by decide)) (by rfl) (by rfl) (by rfl) fun h₅ tk₅ S₅ => ?_)
  refine wpAny_execs_cons (r_do2 X S₅ (m_setn w) (set_next_does X hj hk8) (a'.mono (by decide) (by decide)) (by rfl) (by rfl) (by rfl) fun h₆ tk₆ S₆ => ?_)
  refine wpAny_execs_cons (r_do2 X S₆ (m_setp w) (set_prev_does X hk8 hj) (a'.mono (by decide) (by decide)) (by rfl) (by rfl) (by rfl) fun h₇ tk₇ S₇ => ?_)
  exact wpAny_execs_nil (fin_next (h _ _ S₇.turn S₇.nodes))

theorem before_does (X : Cx w base c) (hi : i < nn) (hj : j < nn) (hij : i ≠ j) (hw : Wf σ j) (hoff : onL σ j = false) (hk : (σ i).pv = some k) :
    Does w base c 183 [.ref c.ka, .ref (c.na i), .ref (c.na j)] 3 30 σ (σ.insB i j k) .none := by
  intro prog A outer s R a ok N h
  have hk8 := N.wf i hi k (.inr hk)
  refine' enter0 (d := 2) (u := 27) [("self", .ref c.ka), ("node", .ref (c.na i)), ("new_node", .ref (c.na j))] X a ok N ?ho ?hcd ?hbind ?hloc ?hcell ?hco ?hgen ?hk ?_
  walk_at "m enter"
  intro L h₁ tk S a'
  refine wpAny_execs_cons (wpAny_Assert_holds (wpAny_isTrue_Not (isTrue_plain (r_self1 X S (m_on w) (by rfl) (r_name S (v := .ref (c.na j)) (by rfl) ⟨S.K X, ?_⟩)))))
  refine call_does X (on_does X hj hw) (a'.mono (by decide) (by decide)) S fun h₂ tk₂ S₂ => ?_
  rw [hoff]
  refine wpAny_truthy_bool ⟨rfl, ?_⟩
  refine wpAny_execs_cons (wpAny_Assert_holds (wpAny_isTrue_Compare1 (r_name S₂ (v := .ref (c.na i)) (by rfl) (r_name S₂ (v := .ref (c.na j)) (by rfl) ?_))))
  refine lv_isNot X S₂.nodes (fun _ _ e => e) hi hj (wpAny_truthy_bool ⟨bne_iff_ne.mpr hij, ?_⟩)
  refine wpAny_execs_cons (r_let1 X S₂ (m_prev w) (prev_does X hi) (a'.mono (by decide) (by decide)) (by rfl) (by rfl) fun h₃ tk₃ S₃ => ?_)
  rw [hk] at S₃
  refine wpAny_execs_cons (wpAny_Assert_holds (wpAny_isTrue_Compare1 (r_name S₃ (v := .ref (c.na k)) (by rfl) (wpAny_Constant_none (isNot_none (wpAny_truthy_bool ⟨rfl, ?_⟩))))))
  refine wpAny_execs_cons (r_do2 X S₃ (m_setp w) (set_prev_does X hi hj) (a'.mono (by decide) (by decide)) (by rfl) (by rfl) (by rfl) fun h₄ tk₄ S₄ => ?_)
  refine wpAny_execs_cons (r_do2 X S₄ (m_setn w) (set_next_does X hj hi) (a'.mono (by decide) (by decide)) (by rfl) (by rfl) (by rfl) fun h₅ tk₅ S₅ => ?_)
  refine wpAny_execs_cons (r_do2 X S₅ (m_setp w) (set_prev_does X hj hk8) (a'.mono (by decide) (by decide)) (by rfl) (by rfl) (by rfl) fun h₆ tk₆ S₆ => ?_)
  refine wpAny_execs_cons (r_do2 X S₆ (m_setn w) (set_next_does X hk8 hj) (a'.mono (by decide) (by decide)) (by rfl) (by rfl) (by rfl) fun h₇ tk₇ S₇ => ?_)
  exact wpAny_execs_nil (fin_next (h _ _ S₇.turn S₇.nodes))

theorem after_raises (X : Cx w base c) (hj : j < nn) (hw : Wf σ j) (hon : onL σ j = true) : Raises w base c 176 [.ref c.ka, .ref (c.na i), .ref (c.na j)] 3 30 σ "AssertionError" := by
  intro prog A outer s R a ok N h
  refine' enter (d := 2) (u := 27) (binds := [("self", .ref c.ka), ("node", .ref (c.na i)), ("new_node", .ref (c.na j))]) X a ok N ?ho ?hcd ?hbind ?hloc ?hcell ?hco ?hgen ?hk ?_
  walk_at "m enter"
  intro L h₁ S a'
  refine wpAny_execs_cons (wpAny_Assert_new a'.handled (wpAny_isTrue_Not (isTrue_plain (r_self1 X S (m_on w) (by rfl) (r_name S (v := .ref (c.na j)) (by rfl) ⟨S.K X, ?_⟩)))))
  refine call_does X (on_does X hj hw) (a'.mono (by decide) (by decide)) S fun h₂ tk₂ S₂ => ?_
  rw [hon]
  refine wpAny_truthy_bool (ifF rfl fun h₃ e he => ?_)
  exact leave_first a'.frames S₂ (.of_exc he) fun h₄ F => h _ _ e F

theorem before_raises (X : Cx w base c) (hj : j < nn) (hw : Wf σ j) (hon : onL σ j = true) : Raises w base c 183 [.ref c.ka, .ref (c.na i), .ref (c.na j)] 3 30 σ "AssertionError" := by
  intro prog A outer s R a ok N h
  refine' enter (d := 2) (u := 27) (binds := [("self", .ref c.ka), ("node", .ref (c.na i)), ("new_node", .ref (c.na j))]) X a ok N ?ho ?hcd ?hbind ?hloc ?hcell ?hco ?hgen ?hk ?_
  walk_at "m enter"
  intro L h₁ S a'
  refine wpAny_execs_cons (wpAny_Assert_new a'.handled (wpAny_isTrue_Not (isTrue_plain (r_self1 X S (m_on w) (by rfl) (r_name S (v := .ref (c.na j)) (by rfl) ⟨S.K X, ?_⟩)))))
  refine call_does X (on_does X hj hw) (a'.mono (by decide) (by decide)) S fun h₂ tk₂ S₂ => ?_
  rw [hon]
  refine wpAny_truthy_bool (ifF rfl fun h₃ e he => ?_)
  exact leave_first a'.frames S₂ (.of_exc he) fun h₄ F => h _ _ e F

theorem unlink_off (X : Cx w base c) (hj : j < nn) (hw : Wf σ j) (hoff : onL σ j = false) : Does w base c 190 [.ref c.ka, .ref (c.na j)] 3 30 σ σ .none := by
  intro prog A outer s R a ok N h
  refine' enter0 (d := 2) (u := 27) [("self", .ref c.ka), ("node", .ref (c.na j))] X a ok N ?ho ?hcd ?hbind ?hloc ?hcell ?hco ?hgen ?hk ?_
  walk_at "m enter"
  intro L h₁ tk S a'
  refine wpAny_execs_cons (wpAny_If (wpAny_isTrue_Not (isTrue_plain (r_self1 X S (m_on w) (by rfl) (r_name S (v := .ref (c.na j)) (by rfl) ⟨S.K X, ?_⟩)))))
  refine call_does X (on_does X hj hw) (a'.mono (by decide) (by decide)) S fun h₂ tk₂ S₂ => ?_
  rw [hoff]
  refine wpAny_truthy_bool (ifT rfl ?_)
  exact wpAny_execs_cons (wpAny_Return_none (h _ _ S₂.turn S₂.nodes))

theorem unlink_on {p n : Nat} (X : Cx w base c) (hj : j < nn) (hw : Wf σ j) (hon : onL σ j = true) (hp : (σ j).pv = some p) (hn : (σ j).nx = some n) : Does w base c 190 [.ref c.ka, .ref (c.na j)] 3 30 σ (σ.cut j p n) .none := by
  intro prog A outer s R a ok N h
  have hp8 := N.wf j hj p (.inr hp)
  have hn8 := N.wf j hj n (.inl hn)
  refine' enter0 (d := 2) (u := 27) [("self", .ref c.ka), ("node", .ref (c.na j))] X a ok N ?ho ?hcd ?hbind ?hloc ?hcell ?hco ?hgen ?hk ?_
  walk_at "m enter"
  intro L h₁ tk S a'
  refine wpAny_execs_cons (wpAny_If (wpAny_isTrue_Not (isTrue_plain (r_self1 X S (m_on w) (by rfl) (r_name S (v := .ref (c.na j)) (by rfl) ⟨S.K X, ?_⟩)))))
  refine call_does X (on_does X hj hw) (a'.mono (by decide) (by decide)) S fun h₂ tk₂ S₂ => ?_
  rw [hon]
  refine wpAny_truthy_bool (ifF rfl (wpAny_execs_nil ?_))
  refine wpAny_execs_cons (r_let1 X S₂ (m_prev w) (prev_does X hj) (a'.mono (by decide) (by decide)) (by rfl) (by rfl) fun h₃ tk₃ S₃ => ?_)
  rw [hp] at S₃
  refine wpAny_execs_cons (r_let1 X S₃ (m_next w) (next_does X hj) (a'.mono (by decide) (by decide)) (by rfl) (by rfl) fun h₄ tk₄ S₄ => ?_)
  rw [hn] at S₄
  refine wpAny_execs_cons (r_do2 X S₄ (m_setn w) (set_next_does X hp8 hn8) (a'.mono (by decide) (by decide)) (by rfl) (by rfl) (by rfl) fun h₅ tk₅ S₅ => ?_)
  refine wpAny_execs_cons (r_do2 X S₅ (m_setp w) (set_prev_does X hn8 hp8) (a'.mono (by decide) (by decide)) (by rfl) (by rfl) (by rfl) fun h₆ tk₆ S₆ => ?_)
  refine wpAny_execs_cons (r_do2 X S₆ (m_setn w) (set_next_does X hj hj) (a'.mono (by decide) (by decide)) (by rfl) (by rfl) (by rfl) fun h₇ tk₇ S₇ => ?_)
  refine wpAny_execs_cons (r_do2 X S₇ (m_setp w) (set_prev_does X hj hj) (a'.mono (by decide) (by decide)) (by rfl) (by rfl) (by rfl) fun h₈ tk₈ S₈ => ?_)
  exact wpAny_execs_nil (fin_next (h _ _ S₈.turn S₈.nodes))
end
end Mine

namespace Mine
open PySem PySem.W PySem.Calls PyProof.Rows
example (w : World) : hd.heap_39 w.params = hd.heap_39 w.params ∧ PySem.Challenge.rw_bi0011_01 = PySem.Challenge.rw_bi0011_01 := by
  k_fill
  exact ⟨rfl, rfl⟩
local macro_rules | `(tactic| k_is) => `(tactic| (delta KF; k_is))
local macro_rules | `(tactic| walk_at "m enter") => `(tactic| (
  (case ho => k_is)
  (case hcd => k_is)
  (case hbind => exact BindsTo.of_eq rfl)
  (case hloc => exact locs rfl)
  (case hcell => decide)
  (case hco => rfl)
  (case hgen => rfl)
  (case hk => rfl)))

theorem l_append (w : World) : MethOk w 101 "append" 63 := by constructor <;> k_is
theorem l_prepend (w : World) : MethOk w 101 "prepend" 70 := by constructor <;> k_is
theorem l_remove (w : World) : MethOk w 101 "remove" 84 := by constructor <;> k_is
theorem l_on (w : World) : MethOk w 101 "is_on_list" 56 := by constructor <;> k_is
theorem l_empty (w : World) : MethOk w 101 "is_empty" 42 := by constructor <;> k_is
theorem l_pop (w : World) : MethOk w 101 "pop_first" 91 := by constructor <;> k_is
theorem l_clear (w : World) : MethOk w 101 "clear" 49 := by constructor <;> k_is
theorem l_iter (w : World) : MethOk w 101 "__iter__" 77 := by constructor <;> k_is
theorem l_gen (w : World) : MethOk w 101 "generator" 98 := by constructor <;> k_is
theorem g_lt (w : World) : GetOk w 101 "list_type" := by constructor <;> k_is
theorem g_head (w : World) : GetOk w 101 "head" := by constructor <;> k_is

theorem ncls_head {q : Nat} (hq : q < 2) : ncls q = 101 := by unfold ncls; rw [if_pos hq]
theorem ncls_item {j : Nat} (hj : 2 ≤ j) : ncls j = 238 := by unfold ncls; rw [if_neg (by omega)]

section
variable {prog : Program} {w : World} {base h₀ : Heap} {c : Cfg 8} {outer : List Env} {m : Str → Option Value} {σ σ' : NS} {os os' : List (Addr × Obj)} {A : Around} {E : Value → Shared → Prop} {s : Shared}
  {qual : Str} {scope : Scope} {L fa : Addr} {cd : Value} {name : Str} {f : Addr} {e e₂ : Expr} {p1 p2 apos pos ap2 : Pos} {Q : Value → Shared → Prop} {q : Nat}

theorem r_lt {env : Env} {Q : Value → Shared → Prop} {expr : Bool} (X : Cx w base c) (S : St base c outer h₀ env m σ os s.heap) (hq : q < 2) (h : Q (.ref c.ka) { s with toks := s.toks + 1 }) :
    wpAny (model prog w) A (getAttr (.ref (c.na q)) "list_type" expr) Q E s :=
  r_node X S (Nat.lt_of_lt_of_le hq (by decide)) (by unfold nmap; rw [if_neg (by decide), if_neg (by decide), if_pos hq, if_pos rfl]) (by rw [ncls_head hq]; exact (g_lt w).g) (by rw [ncls_head hq]; exact (g_lt w).h) (by rw [ncls_head hq]; exact (g_lt w).f) rfl rfl h
theorem r_head {env : Env} {Q : Value → Shared → Prop} {expr : Bool} (X : Cx w base c) (S : St base c outer h₀ env m σ os s.heap) (hq : q < 2) (h : Q (.ref (c.na q)) { s with toks := s.toks + 1 }) :
    wpAny (model prog w) A (getAttr (.ref (c.na q)) "head" expr) Q E s :=
  r_node X S (Nat.lt_of_lt_of_le hq (by decide)) (by unfold nmap; rw [if_neg (by decide), if_neg (by decide), if_pos hq, if_neg (by decide), if_pos rfl]) (by rw [ncls_head hq]; exact (g_head w).g) (by rw [ncls_head hq]; exact (g_head w).h) (by rw [ncls_head hq]; exact (g_head w).f) rfl rfl h
/-- self.head -/
theorem r_shead (X : Cx w base c) (S : St base c outer h₀ (envOf qual scope L fa cd) m σ os s.heap) (hs : m "self" = some (.ref (c.na q))) (hq : q < 2) (h : ∀ tk, Q (.ref (c.na q)) { s with toks := tk })
    (hk : scope.kind = .function := by rfl) (hl : (envOf qual scope L fa cd).kindOf "self" = some .local := by rfl) :
    wpAny (model prog w) A (eval (.Attribute (.Name "self" p1) "head" apos) (envOf qual scope L fa cd)) Q E s :=
  Attribute_Name_ (r_name S hs (r_head X S hq (h _)) hk hl)

/-- a method of a head, self.name(..) -/
theorem r_hmeth {env : Env} {Q : Value × List Value → Shared → Prop} {pl : Sem Bool} (X : Cx w base c) (S : St base c outer h₀ env m σ os s.heap) (hq : q < 2) (F : MethOk w 101 name f) (hm : nmap c σ q name = none)
    (h : Q (.ref f, [.ref (c.na q)]) s) : wpAny (model prog w) A (getMethod (.ref (c.na q)) name pl) Q E s :=
  r_meth X S (Nat.lt_of_lt_of_le hq (by decide)) hm (by rw [ncls_head hq]; exact F.gt) (by rw [ncls_head hq]; exact F.fn) F.ty h

theorem r_lt1 (X : Cx w base c) (S : St base c outer h₀ (envOf qual scope L fa cd) m σ os s.heap) (F : MethOk w 193 name f) (hs : m "self" = some (.ref (c.na q))) (hq : q < 2)
    (h : ∀ tk, wpAny (model prog w) A (eval e (envOf qual scope L fa cd)) (fun v s₁ => (KF w).In s₁.heap ∧ wpAny (model prog w) A (call (.ref f) [.ref c.ka, v]) Q E s₁) E { s with toks := tk })
    (he : starEach [e] (envOf qual scope L fa cd) = (false, eval e (envOf qual scope L fa cd)) :: starEach [] (envOf qual scope L fa cd) := by rfl)
    (hk : scope.kind = .function := by rfl) (hl : (envOf qual scope L fa cd).kindOf "self" = some .local := by rfl) (hp : (backTo pos (starEach [] (envOf qual scope L fa cd))).any (·.1) = false := by rfl)
    {pl : Sem Bool} (hc : eval (.Call (.Attribute (.Attribute (.Name "self" p1) "list_type" p2) name apos) [e] [] pos) (envOf qual scope L fa cd) = (do
      let ov ← eval (.Attribute (.Name "self" p1) "list_type" p2) (envOf qual scope L fa cd)
      standAt apos.atName
      let (f, first) ← holding [ov] (getMethod ov name pl)
      callWith pos f first (backTo pos (starEach [e] (envOf qual scope L fa cd))) []) := by rfl) :
    wpAny (model prog w) A (eval (.Call (.Attribute (.Attribute (.Name "self" p1) "list_type" p2) name apos) [e] [] pos) (envOf qual scope L fa cd)) Q E s :=
  MethodCall_ (he := hc) (Attribute_Name_ (r_name S hs (r_lt X S hq (r_kind (s := { s with toks := s.toks + 1 }) X S F.gt F.fn F.ty (callWith_K (S.K X) F.kp (r_args1 (h _) he) he hp))) hk hl))

theorem r_lt2 (X : Cx w base c) (S : St base c outer h₀ (envOf qual scope L fa cd) m σ os s.heap) (F : MethOk w 193 name f) (hs : m "self" = some (.ref (c.na q))) (hq : q < 2)
    (h : ∀ tk, wpAny (model prog w) A (eval e (envOf qual scope L fa cd)) (fun v s₁ => wpAny (model prog w) A (eval e₂ (envOf qual scope L fa cd)) (fun v₂ s₂ => (KF w).In s₂.heap ∧ wpAny (model prog w) A (call (.ref f) [.ref c.ka, v, v₂]) Q E s₂) E s₁) E { s with toks := tk })
    (he : starEach [e, e₂] (envOf qual scope L fa cd) = (false, eval e (envOf qual scope L fa cd)) :: starEach [e₂] (envOf qual scope L fa cd) := by rfl)
    (he₂ : starEach [e₂] (envOf qual scope L fa cd) = (false, eval e₂ (envOf qual scope L fa cd)) :: starEach [] (envOf qual scope L fa cd) := by rfl)
    (hk : scope.kind = .function := by rfl) (hl : (envOf qual scope L fa cd).kindOf "self" = some .local := by rfl) (hp : (backTo pos (starEach [e₂] (envOf qual scope L fa cd))).any (·.1) = false := by rfl)
    {pl : Sem Bool} (hc : eval (.Call (.Attribute (.Attribute (.Name "self" p1) "list_type" p2) name apos) [e, e₂] [] pos) (envOf qual scope L fa cd) = (do
      let ov ← eval (.Attribute (.Name "self" p1) "list_type" p2) (envOf qual scope L fa cd)
      standAt apos.atName
      let (f, first) ← holding [ov] (getMethod ov name pl)
      callWith pos f first (backTo pos (starEach [e, e₂] (envOf qual scope L fa cd))) []) := by rfl) :
    wpAny (model prog w) A (eval (.Call (.Attribute (.Attribute (.Name "self" p1) "list_type" p2) name apos) [e, e₂] [] pos) (envOf qual scope L fa cd)) Q E s :=
  MethodCall_ (he := hc) (Attribute_Name_ (r_name S hs (r_lt X S hq (r_kind (s := { s with toks := s.toks + 1 }) X S F.gt F.fn F.ty (callWith_K (S.K X) F.kp (r_args2 (h _) he he₂) he hp))) hk hl))
end

section
variable {w : World} {base : Heap} {c : Cfg 8} {σ σ' : NS} {q j k : Nat}

theorem append_does (X : Cx w base c) (hq : q < 2) (hj : j < 8) (hqj : q ≠ j) (hw : Wf σ j) (hoff : onL σ j = false) (hk : (σ q).pv = some k) :
    Does w base c 63 [.ref (c.na q), .ref (c.na j)] 4 40 σ (σ.insB q j k) .none := by
  intro prog A outer s R a ok N h
  refine' enter0 (d := 3) (u := 37) [("self", .ref (c.na q)), ("node", .ref (c.na j))] X a ok N ?ho ?hcd ?hbind ?hloc ?hcell ?hco ?hgen ?hk ?_
  walk_at "m enter"
  intro L h₁ tk S a'
  refine wpAny_execs_cons (wpAny_Expr (r_lt2 X S (m_before w) (by rfl) hq fun tk' => r_shead (s := { s with heap := h₁, toks := tk' }) X S (by rfl) hq fun tk'' => r_name (s := { s with heap := h₁, toks := tk'' }) S (v := .ref (c.na j)) (by rfl) ⟨S.K X, ?_⟩))
  refine call_does (s := { s with heap := h₁, toks := tk'' }) X (before_does X (Nat.lt_of_lt_of_le hq (by decide)) hj hqj hw hoff hk) (a'.mono (by decide) (by decide)) S fun h₂ tk₂ S₂ => ?_
  exact wpAny_execs_nil (fin_next (h _ _ S₂.turn S₂.nodes))

theorem prepend_does (X : Cx w base c) (hq : q < 2) (hj : j < 8) (hqj : q ≠ j) (hw : Wf σ j) (hoff : onL σ j = false) (hk : (σ q).nx = some k) :
    Does w base c 70 [.ref (c.na q), .ref (c.na j)] 4 40 σ (σ.ins q j k) .none := by
  intro prog A outer s R a ok N h
  refine' enter0 (d := 3) (u := 37) [("self", .ref (c.na q)), ("node", .ref (c.na j))] X a ok N ?ho ?hcd ?hbind ?hloc ?hcell ?hco ?hgen ?hk ?_
  walk_at "m enter"
  intro L h₁ tk S a'
  refine wpAny_execs_cons (wpAny_Expr (r_lt2 X S (m_after w) (by rfl) hq fun tk' => r_shead (s := { s with heap := h₁, toks := tk' }) X S (by rfl) hq fun tk'' => r_name (s := { s with heap := h₁, toks := tk'' }) S (v := .ref (c.na j)) (by rfl) ⟨S.K X, ?_⟩))
  refine call_does (s := { s with heap := h₁, toks := tk'' }) X (after_does X (Nat.lt_of_lt_of_le hq (by decide)) hj hqj hw hoff hk) (a'.mono (by decide) (by decide)) S fun h₂ tk₂ S₂ => ?_
  exact wpAny_execs_nil (fin_next (h _ _ S₂.turn S₂.nodes))

theorem append_raises (X : Cx w base c) (hq : q < 2) (hj : j < 8) (hw : Wf σ j) (hon : onL σ j = true) : Raises w base c 63 [.ref (c.na q), .ref (c.na j)] 4 40 σ "AssertionError" := by
  intro prog A outer s R a ok N h
  refine' enter (d := 3) (u := 37) (binds := [("self", .ref (c.na q)), ("node", .ref (c.na j))]) X a ok N ?ho ?hcd ?hbind ?hloc ?hcell ?hco ?hgen ?hk ?_
  walk_at "m enter"
  intro L h₁ S a'
  refine wpAny_execs_cons (wpAny_Expr (r_lt2 X S (m_before w) (by rfl) hq fun tk' => r_shead (s := { s with heap := h₁, toks := tk' }) X S (by rfl) hq fun tk'' => r_name (s := { s with heap := h₁, toks := tk'' }) S (v := .ref (c.na j)) (by rfl) ⟨S.K X, ?_⟩))
  refine call_raises (s := { s with heap := h₁, toks := tk'' }) (before_raises X hj hw hon) (a'.mono (by decide) (by decide)) S fun h₂ tk₂ e F => ?_
  exact leave_on a'.frames S F fun h₃ F' => h _ _ e F'

theorem prepend_raises (X : Cx w base c) (hq : q < 2) (hj : j < 8) (hw : Wf σ j) (hon : onL σ j = true) : Raises w base c 70 [.ref (c.na q), .ref (c.na j)] 4 40 σ "AssertionError" := by
  intro prog A outer s R a ok N h
  refine' enter (d := 3) (u := 37) (binds := [("self", .ref (c.na q)), ("node", .ref (c.na j))]) X a ok N ?ho ?hcd ?hbind ?hloc ?hcell ?hco ?hgen ?hk ?_
  walk_at "m enter"
  intro L h₁ S a'
  refine wpAny_execs_cons (wpAny_Expr (r_lt2 X S (m_after w) (by rfl) hq fun tk' => r_shead (s := { s with heap := h₁, toks := tk' }) X S (by rfl) hq fun tk'' => r_name (s := { s with heap := h₁, toks := tk'' }) S (v := .ref (c.na j)) (by rfl) ⟨S.K X, ?_⟩))
  refine call_raises (s := { s with heap := h₁, toks := tk'' }) (after_raises X hj hw hon) (a'.mono (by decide) (by decide)) S fun h₂ tk₂ e F => ?_
  exact leave_on a'.frames S F fun h₃ F' => h _ _ e F'

theorem remove_does (X : Cx w base c) (hq : q < 2) (D : Does w base c 190 [.ref c.ka, .ref (c.na j)] 3 30 σ σ' .none) : Does w base c 84 [.ref (c.na q), .ref (c.na j)] 4 40 σ σ' .none := by
  intro prog A outer s R a ok N h
  refine' enter0 (d := 3) (u := 37) [("self", .ref (c.na q)), ("node", .ref (c.na j))] X a ok N ?ho ?hcd ?hbind ?hloc ?hcell ?hco ?hgen ?hk ?_
  walk_at "m enter"
  intro L h₁ tk S a'
  refine wpAny_execs_cons (wpAny_Expr (r_lt1 X S (m_unlink w) (by rfl) hq fun tk' => r_name (s := { s with heap := h₁, toks := tk' }) S (v := .ref (c.na j)) (by rfl) ⟨S.K X, ?_⟩))
  refine call_does (s := { s with heap := h₁, toks := tk' }) X D (a'.mono (by decide) (by decide)) S fun h₂ tk₂ S₂ => ?_
  exact wpAny_execs_nil (fin_next (h _ _ S₂.turn S₂.nodes))

theorem lon_does (X : Cx w base c) (hq : q < 2) (hj : j < 8) (hw : Wf σ j) : Does w base c 56 [.ref (c.na q), .ref (c.na j)] 4 40 σ σ (.bool (onL σ j)) := by
  intro prog A outer s R a ok N h
  refine' enter0 (d := 3) (u := 37) [("self", .ref (c.na q)), ("node", .ref (c.na j))] X a ok N ?ho ?hcd ?hbind ?hloc ?hcell ?hco ?hgen ?hk ?_
  walk_at "m enter"
  intro L h₁ tk S a'
  refine wpAny_execs_cons (wpAny_Return_some (r_lt1 X S (m_on w) (by rfl) hq fun tk' => r_name (s := { s with heap := h₁, toks := tk' }) S (v := .ref (c.na j)) (by rfl) ⟨S.K X, ?_⟩))
  refine call_does (s := { s with heap := h₁, toks := tk' }) X (on_does X hj hw) (a'.mono (by decide) (by decide)) S fun h₂ tk₂ S₂ => ?_
  exact h _ _ S₂.turn S₂.nodes

theorem empty_does (X : Cx w base c) (hq : q < 2) (hw : Wf σ q) : Does w base c 42 [.ref (c.na q)] 4 40 σ σ (.bool (!onL σ q)) := by
  intro prog A outer s R a ok N h
  refine' enter0 (d := 3) (u := 37) [("self", .ref (c.na q))] X a ok N ?ho ?hcd ?hbind ?hloc ?hcell ?hco ?hgen ?hk ?_
  walk_at "m enter"
  intro L h₁ tk S a'
  refine wpAny_execs_cons (wpAny_Return_some (wpAny_UnaryOp (r_lt1 X S (m_on w) (by rfl) hq fun tk' => r_shead (s := { s with heap := h₁, toks := tk' }) X S (by rfl) hq fun tk'' => ⟨S.K X, ?_⟩)))
  refine call_does (s := { s with heap := h₁, toks := tk'' }) X (on_does X (Nat.lt_of_lt_of_le hq (by decide)) hw) (a'.mono (by decide) (by decide)) S fun h₂ tk₂ S₂ => ?_
  refine not_of (wpAny_truthy_bool ?_)
  exact h _ _ S₂.turn S₂.nodes

theorem pop_none (X : Cx w base c) (hq : q < 2) (hk : (σ q).nx = some q) : Does w base c 91 [.ref (c.na q)] 6 60 σ σ .none := by
  intro prog A outer s R a ok N h
  have hq8 : q < 8 := Nat.lt_of_lt_of_le hq (by decide)
  refine' enter0 (d := 5) (u := 57) [("self", .ref (c.na q))] X a ok N ?ho ?hcd ?hbind ?hloc ?hcell ?hco ?hgen ?hk ?_
  walk_at "m enter"
  intro L h₁ tk S a'
  refine wpAny_execs_cons (wpAny_Assign_Name (r_lt1 X S (m_next w) (by rfl) hq fun tk' => r_shead (s := { s with heap := h₁, toks := tk' }) X S (by rfl) hq fun tk'' => ⟨S.K X, ?_⟩))
  refine call_does (s := { s with heap := h₁, toks := tk'' }) X (next_does X hq8) (a'.mono (by decide) (by decide)) S fun h₂ tk₂ S₂ => ?_
  refine r_store S₂ fun h₃ S₃ => ?_
  rw [hk] at S₃
  refine wpAny_execs_cons (wpAny_If (wpAny_isTrue_Compare1 (r_name S₃ (v := .ref (c.na q)) (by rfl) (r_shead X S₃ (by rfl) hq fun tk₄ => ?_))))
  refine wpAny_is_ref_self (wpAny_truthy_bool (ifT rfl ?_))
  exact wpAny_execs_cons (wpAny_Return_some (wpAny_Constant_none (h _ _ S₃.turn S₃.nodes)))

theorem pop_some (X : Cx w base c) (hq : q < 2) (hk : (σ q).nx = some k) (hkq : k ≠ q) (D : Does w base c 190 [.ref c.ka, .ref (c.na k)] 3 30 σ σ' .none) : Does w base c 91 [.ref (c.na q)] 6 60 σ σ' (.ref (c.na k)) := by
  intro prog A outer s R a ok N h
  have hq8 : q < 8 := Nat.lt_of_lt_of_le hq (by decide)
  have hk8 := N.wf q hq8 k (.inl hk)
  refine' enter0 (d := 5) (u := 57) [("self", .ref (c.na q))] X a ok N ?ho ?hcd ?hbind ?hloc ?hcell ?hco ?hgen ?hk ?_
  walk_at "m enter"
  intro L h₁ tk S a'
  refine wpAny_execs_cons (wpAny_Assign_Name (r_lt1 X S (m_next w) (by rfl) hq fun tk' => r_shead (s := { s with heap := h₁, toks := tk' }) X S (by rfl) hq fun tk'' => ⟨S.K X, ?_⟩))
  refine call_does (s := { s with heap := h₁, toks := tk'' }) X (next_does X hq8) (a'.mono (by decide) (by decide)) S fun h₂ tk₂ S₂ => ?_
  refine r_store S₂ fun h₃ S₃ => ?_
  rw [hk] at S₃
  refine wpAny_execs_cons (wpAny_If (wpAny_isTrue_Compare1 (r_name S₃ (v := .ref (c.na k)) (by rfl) (r_shead X S₃ (by rfl) hq fun tk₄ => ?_))))
  refine lv_is (s := { s with heap := h₃, toks := tk₄ }) X S₃.nodes (fun _ _ e => e) hk8 hq8 (wpAny_truthy_bool (ifF (by simpa using hkq) (wpAny_execs_nil ?_)))
  refine wpAny_execs_cons (wpAny_Expr (MethodCall_ (r_name (s := { s with heap := h₃, toks := tk₄ }) S₃ (v := .ref (c.na q)) (by rfl) (r_hmeth (s := { s with heap := h₃, toks := tk₄ }) X S₃ hq (l_remove w) ?_ (callWith_K (s := { s with heap := h₃, toks := tk₄ }) (S₃.K X) (l_remove w).kp (r_args1 (r_name (s := { s with heap := h₃, toks := tk₄ }) S₃ (v := .ref (c.na k)) (by rfl) ⟨S₃.K X, ?_⟩)))))))
  · unfold nmap
    rw [if_neg (by decide), if_neg (by decide), if_pos hq, if_neg (by decide), if_neg (by decide)]
  refine call_does (s := { s with heap := h₃, toks := tk₄ }) X (remove_does X hq D) (a'.mono (by decide) (by decide)) S₃ fun h₅ tk₅ S₅ => ?_
  exact wpAny_execs_cons (wpAny_Return_some (r_name S₅ (v := .ref (c.na k)) (by rfl) (h _ _ S₅.turn S₅.nodes)))
end
end Mine

namespace Mine
open PySem PySem.W PySem.Calls PyProof.Rows
example (w : World) : hd.heap_39 w.params = hd.heap_39 w.params ∧ PySem.Challenge.rw_bi0011_01 = PySem.Challenge.rw_bi0011_01 := by
  k_fill
  exact ⟨rfl, rfl⟩
local macro_rules | `(tactic| k_is) => `(tactic| (delta KF; k_is))
local macro_rules | `(tactic| walk_at "m enter") => `(tactic| (
  (case ho => k_is)
  (case hcd => k_is)
  (case hbind => exact BindsTo.of_eq rfl)
  (case hloc => exact locs rfl)
  (case hcell => decide)
  (case hco => rfl)
  (case hgen => rfl)
  (case hk => rfl)))

structure PropOk (w : World) : Prop where
  g : plainGet (KF w) 238 "path" = true
  c : (clsIn (KF w) 238).isSome = true
  f : findIn (KF w) (.ref 238) "path" = some (some (.ref 220))
  s : specialIn (KF w) (.ref 220) "__get__" = some (some (.builtin "property.__get__"))
  t : takesIn (KF w) (.ref 220) = some true
theorem isCls238 (w : World) : isClsIn (KF w) 238 = true := by k_is
theorem propOk (w : World) : PropOk w := ⟨by k_is, isCls238 w, by k_is, by k_is, by k_is⟩
theorem prop_rec (w : World) : recIn (KF w) 220 "property" = some (.ref 219 :: [.none, .none, .none, .str "path" 444, .bool false]) := by k_is
theorem g_path (w : World) : GetOk w 238 "_path" := by constructor <;> k_is

section
variable {prog : Program} {w : World} {base h₀ : Heap} {c : Cfg 8} {outer : List Env} {m : Str → Option Value} {σ σ' : NS} {os os' : List (Addr × Obj)} {A : Around} {E : Value → Shared → Prop} {s : Shared} {q j k : Nat}

/-- the number of an item -/
def num (c : Cfg 8) (j : Nat) : Value := .int ((j : Int) - 1) (c.tk j)

theorem path_does (X : Cx w base c) (h2 : 2 ≤ j) (hj : j < 8) : Does w base c 219 [.ref (c.na j)] 1 10 σ σ (num c j) := by
  intro prog A outer s R a ok N h
  refine' enter0 (d := 0) (u := 7) [("self", .ref (c.na j))] X a ok N ?ho ?hcd ?hbind ?hloc ?hcell ?hco ?hgen ?hk ?_
  walk_at "m enter"
  intro L h₁ tk S a'
  refine wpAny_execs_cons (wpAny_Return_some (Attribute_Name_ (r_name S (v := .ref (c.na j)) (by rfl) ?_)))
  refine r_node X S hj (v := num c j) ?_ (by rw [ncls_item h2]; exact (g_path w).g) (by rw [ncls_item h2]; exact (g_path w).h) (by rw [ncls_item h2]; exact (g_path w).f) rfl rfl ?_
  · unfold nmap
    rw [if_neg (by decide), if_neg (by decide), if_neg (by omega), if_neg (by decide), if_pos rfl]
    rfl
  exact h _ _ S.turn S.nodes

theorem r_path {env : Env} {Q : Value → Shared → Prop} {expr : Bool} (X : Cx w base c) (a : Amb A (env :: outer) 1 11) (S : St base c outer h₀ env m σ os s.heap) (h2 : 2 ≤ j) (hj : j < 8)
    (h : ∀ h' tk, St base c outer h₀ env m σ os h' → Q (num c j) { s with heap := h', toks := tk }) : wpAny (model prog w) A (getAttr (.ref (c.na j)) "path" expr) Q E s := by
  have F := propOk w
  have hr := prop_rec w
  obtain ⟨od, I, _, _⟩ := instAt_of (S.nodes.inst j hj) (S.nodes.dict j hj).ns
  rw [ncls_item h2] at I
  refine get_bind (S.K X) I (plainGet_of F.g).1 (findObj_data F.c F.f F.s F.t) (plainGet_of F.g).2 (wpAny_call (prop_get (s := { s with toks := s.toks + 1 }) (S.K X) hr ?_))
  refine path_does X h2 hj prog A.in1 (env :: outer) { s with toks := s.toks + 1 } _ a.in1 S.ok S.nodes fun h' tk T N => ?_
  exact handed_on rfl (h h' tk (S.callee X T N))

theorem assert_exc : isSubtype (.type "AssertionError") (.type "BaseException") = pure true := by rw [isSubtype_type]; kernel_rfl
theorem assert_tup : isSubtype (.type ((Manifest.find? "AssertionError").elim "type" fun y => y.metatype)) (.type "tuple") = pure false := by rw [isSubtype_type]; kernel_rfl
theorem assert_self : isSubtype (.type "AssertionError") (.type "AssertionError") = pure true := by rw [isSubtype_type]; kernel_rfl

/-- self.name(x) of a head held by a name -/
theorem r_head1 {qual : Str} {scope : Scope} {L fa : Addr} {cd : Value} {name : Str} {f : Addr} {x : Str} {e : Expr} {p1 apos pos : Pos} {Q : Value → Shared → Prop} (X : Cx w base c) (S : St base c outer h₀ (envOf qual scope L fa cd) m σ os s.heap) (F : MethOk w 101 name f) (hq : q < 2)
    (hm : nmap c σ q name = none) (hs : m x = some (.ref (c.na q)))
    (h : wpAny (model prog w) A (eval e (envOf qual scope L fa cd)) (fun v s₁ => (KF w).In s₁.heap ∧ wpAny (model prog w) A (call (.ref f) [.ref (c.na q), v]) Q E s₁) E s)
    (he : starEach [e] (envOf qual scope L fa cd) = (false, eval e (envOf qual scope L fa cd)) :: starEach [] (envOf qual scope L fa cd) := by rfl)
    (hk : scope.kind = .function := by rfl) (hl : (envOf qual scope L fa cd).kindOf x = some .local := by rfl) (hd : (x == ("__debug__" : Str)) = false := by decide) (hp : (backTo pos (starEach [] (envOf qual scope L fa cd))).any (·.1) = false := by rfl)
    {pl : Sem Bool} (hc : eval (.Call (.Attribute (.Name x p1) name apos) [e] [] pos) (envOf qual scope L fa cd) = (do
      let ov ← eval (.Name x p1) (envOf qual scope L fa cd)
      standAt apos.atName
      let (f, first) ← holding [ov] (getMethod ov name pl)
      callWith pos f first (backTo pos (starEach [e] (envOf qual scope L fa cd))) []) := by rfl) :
    wpAny (model prog w) A (eval (.Call (.Attribute (.Name x p1) name apos) [e] [] pos) (envOf qual scope L fa cd)) Q E s :=
  MethodCall_ (he := hc) (r_name S hs (r_hmeth X S hq F hm (callWith_K (S.K X) F.kp (r_args1 h he) he hp)) hk hl hd)

theorem nmap_none {name : Str} (hq : q < 2) (h1 : name ≠ "next_on_list") (h2 : name ≠ "prev_on_list") (h3 : name ≠ "list_type") (h4 : name ≠ "head") : nmap c σ q name = none := by
  unfold nmap
  rw [if_neg h1, if_neg h2, if_pos hq, if_neg h3, if_neg h4]

theorem put_free {b : Bool} (X : Cx w base c) (hq : q < 2) (D : Does w base c (if b then 70 else 63) [.ref (c.na q), .ref (c.na j)] 4 40 σ σ' .none) : Does w base c 249 [.ref (c.na q), .ref (c.na j), .bool b] 5 50 σ σ' (.bool true) := by
  intro prog A outer s R a ok N h
  refine' enter0 (d := 4) (u := 47) [("queue", .ref (c.na q)), ("item", .ref (c.na j)), ("front", .bool b)] X a ok N ?ho ?hcd ?hbind ?hloc ?hcell ?hco ?hgen ?hk ?_
  walk_at "m enter"
  intro L h₁ tk S a'
  refine wpAny_execs_cons (wpAny_Try_except (wpAny_execs_cons (wpAny_If (isTrue_plain (r_name S (v := .bool b) (by rfl) (wpAny_truthy_bool ?_))))))
  cases b with
  | true =>
    refine ifT rfl (wpAny_execs_cons (wpAny_Expr (r_head1 X S (l_prepend w) hq (nmap_none hq (by decide) (by decide) (by decide) (by decide)) (by rfl) (r_name S (v := .ref (c.na j)) (by rfl) ⟨S.K X, ?_⟩))))
    refine call_does X D (a'.mono (by decide) (by decide)) S fun h₂ tk₂ S₂ => ?_
    exact wpAny_execs_nil (wpAny_execs_nil (wpAny_execs_nil (wpAny_execs_cons (wpAny_Return_some (wpAny_Constant_bool (h _ _ S₂.turn S₂.nodes))))))
  | false =>
    refine ifF rfl (wpAny_execs_cons (wpAny_Expr (r_head1 X S (l_append w) hq (nmap_none hq (by decide) (by decide) (by decide) (by decide)) (by rfl) (r_name S (v := .ref (c.na j)) (by rfl) ⟨S.K X, ?_⟩))))
    refine call_does X D (a'.mono (by decide) (by decide)) S fun h₂ tk₂ S₂ => ?_
    exact wpAny_execs_nil (wpAny_execs_nil (wpAny_execs_nil (wpAny_execs_cons (wpAny_Return_some (wpAny_Constant_bool (h _ _ S₂.turn S₂.nodes))))))

theorem put_held {b : Bool} (X : Cx w base c) (hq : q < 2) (hj : j < 8) (hw : Wf σ j) (hon : onL σ j = true) : Does w base c 249 [.ref (c.na q), .ref (c.na j), .bool b] 5 50 σ σ (.bool false) := by
  intro prog A outer s R a ok N h
  refine' enter0 (d := 4) (u := 47) [("queue", .ref (c.na q)), ("item", .ref (c.na j)), ("front", .bool b)] X a ok N ?ho ?hcd ?hbind ?hloc ?hcell ?hco ?hgen ?hk ?_
  walk_at "m enter"
  intro L h₁ tk S a'
  refine wpAny_execs_cons (wpAny_Try_except (wpAny_execs_cons (wpAny_If (isTrue_plain (r_name S (v := .bool b) (by rfl) (wpAny_truthy_bool ?_))))))
  cases b with
  | true =>
    refine ifT rfl (wpAny_execs_cons (wpAny_Expr (r_head1 X S (l_prepend w) hq (nmap_none hq (by decide) (by decide) (by decide) (by decide)) (by rfl) (r_name S (v := .ref (c.na j)) (by rfl) ⟨S.K X, ?_⟩))))
    refine call_raises (prepend_raises X hq hj hw hon) (a'.mono (by decide) (by decide)) S fun h₂ tk₂ e F => ?_
    refine caught_on X a'.frames S F (by decide) assert_exc assert_tup assert_self fun h₃ S₃ => ?_
    exact wpAny_execs_cons (wpAny_Return_some (wpAny_Constant_bool (h _ _ S₃.turn S₃.nodes)))
  | false =>
    refine ifF rfl (wpAny_execs_cons (wpAny_Expr (r_head1 X S (l_append w) hq (nmap_none hq (by decide) (by decide) (by decide) (by decide)) (by rfl) (r_name S (v := .ref (c.na j)) (by rfl) ⟨S.K X, ?_⟩))))
    refine call_raises (append_raises X hq hj hw hon) (a'.mono (by decide) (by decide)) S fun h₂ tk₂ e F => ?_
    refine caught_on X a'.frames S F (by decide) assert_exc assert_tup assert_self fun h₃ S₃ => ?_
    exact wpAny_execs_cons (wpAny_Return_some (wpAny_Constant_bool (h _ _ S₃.turn S₃.nodes)))
end
end Mine

namespace Mine
open PySem PySem.W PySem.Calls PyProof.Rows
example (w : World) : hd.heap_39 w.params = hd.heap_39 w.params ∧ PySem.Challenge.rw_bi0011_01 = PySem.Challenge.rw_bi0011_01 := by
  k_fill
  exact ⟨rfl, rfl⟩
local macro_rules | `(tactic| k_is) => `(tactic| (delta KF; k_is))
local macro_rules | `(tactic| walk_at "m enter") => `(tactic| (
  (case ho => k_is)
  (case hcd => k_is)
  (case hbind => exact BindsTo.of_eq rfl)
  (case hloc => exact locs rfl)
  (case hcell => decide)
  (case hco => rfl)
  (case hgen => rfl)
  (case hk => rfl)))

section
variable {A : Around} {outer : List Env} {d u : Nat} {env : Env}
theorem Amb.overF {body : List Stmt} (a : Amb A outer (d + 1) (u + 3)) : Amb (A.over (.func body env) []) (env :: outer) d u := by
  refine ⟨a.handled, ?_, ?_, ?_⟩
  · show pushEnvs (Code.func body env).envs (pushEnvs (envsOf ([].map Frame.where_)) A.frames) = _
    rw [a.frames]; rfl
  · have := a.depth
    show A.depth + 0 + 1 + d < _
    omega
  · have := a.units
    show A.units + 0 + 3 + u < _
    omega
theorem Amb.overW {body tb orelse : List Stmt} {test : Expr} {k : Result → Sem Fin} {g : Bool} {l kp : List Value} {p : Pos} (a : Amb A outer (d + 1) (u + 3)) :
    Amb (A.over (.whileLoop test tb orelse env) [.ret k none g l (.func body env) p kp]) (env :: outer) d u := by
  refine ⟨a.handled, ?_, ?_, ?_⟩
  · show pushEnvs (Code.whileLoop test tb orelse env).envs (pushEnvs (envsOf ([Frame.ret k none g l (.func body env) p kp].map Frame.where_)) A.frames) = _
    rw [a.frames]; rfl
  · have := a.depth
    show A.depth + (1 + 0) + 0 + d < _
    omega
  · have := a.units
    show A.units + (3 + 0) + 0 + u < _
    omega
end

/-- the frame of a generator, off all that runs -/
structure LgOk (base : Heap) {nn : Nat} (c : Cfg nn) (outer : List Env) (Lg : Addr) : Prop where
  nb : base.get? Lg = none
  nf : Lg ∉ frs outer
  nk : Lg ≠ c.kd
  nd : ∀ j, j < nn → Lg ≠ c.da j

def Nxt (c : Cfg 8) (q : Nat) (Lg : Addr) (h : Heap) (k : Nat) : Prop := ∃ m, h.Ns Lg m ∧ m "self" = some (.ref (c.na q)) ∧ m "node" ≠ none ∧ m "next" = some (.ref (c.na k))
def Fst (c : Cfg 8) (q : Nat) (Lg : Addr) (h : Heap) : Prop := ∃ m, h.Ns Lg m ∧ m "self" = some (.ref (c.na q)) ∧ m "node" = none
/-- the node that the generator tells next -/
def CurP (c : Cfg 8) (q : Nat) (Lg : Addr) (ph : Bool) (σ : NS) (h : Heap) (j : Nat) : Prop := if ph = true then Nxt c q Lg h j else Fst c q Lg h ∧ (σ q).nx = some j

/-- the generator ran: its own frame turned besides -/
structure GT (c : Cfg 8) (Lg : Addr) (fs : List Addr) (h h' : Heap) : Prop where
  same : ∀ b o, h.get? b = some o → b ∉ fs → ¬ c.D b → b ≠ Lg → h'.get? b = some o
  frame : ∀ b o, h.get? b = some o → b ∈ fs → ∃ sl, h'.get? b = some { o with slots := sl }

def GY (base : Heap) (c : Cfg 8) (outer : List Env) (q : Nat) (Lg : Addr) : Protocol := fun n s₀ v s₁ kap =>
  ∀ ph σ j, Nodes c σ s₀.heap → CurP c q Lg ph σ s₀.heap j → j < 8 → j ≠ q ∧ v = .ref (c.na j) ∧ ∃ k h₁ tk, (σ j).nx = some k ∧ s₁ = { s₀ with heap := h₁, toks := tk } ∧ GT c Lg (frs outer) s₀.heap h₁ ∧ Nodes c σ h₁ ∧ Nxt c q Lg h₁ k ∧
    ∀ s'' σ'' j'' k'', Ok base c outer s''.heap → Nodes c σ'' s''.heap → Nxt c q Lg s''.heap j'' → (σ'' j'').nx = some k'' → j'' < 8 → (j'' = q ∨ 1 ≤ n) → kap (.send .none) s''

def GP (c : Cfg 8) (outer : List Env) (q : Nat) (Lg : Addr) : Nat → Shared → Shared → Prop := fun _ s₀ s₁ =>
  ∀ ph σ j, Nodes c σ s₀.heap → CurP c q Lg ph σ s₀.heap j → j < 8 → j = q ∧ ∃ h₁ tk, s₁ = { s₀ with heap := h₁, toks := tk } ∧ GT c Lg (frs outer) s₀.heap h₁ ∧ Nodes c σ h₁

def GR (c : Cfg 8) (outer : List Env) (q : Nat) (Lg : Addr) : GenEnd := fun n s₀ r s₁ => r = .ok (.ret .none) ∧ GP c outer q Lg n s₀ s₁

/-- a generator that may be woken n times more and tells each time the next node -/
def GenGo (prog : Program) (w : World) (A : Around) (base : Heap) (c : Cfg 8) (outer : List Env) (q : Nat) (Lg : Addr) (n : Nat) (gs : GenState) (ph : Bool) : Prop :=
  ∀ s σ j k, Ok base c outer s.heap → Nodes c σ s.heap → CurP c q Lg ph σ s.heap j → (σ j).nx = some k → j < 8 → (j = q ∨ 1 ≤ n) → gs.Goes (model prog w) A (GR c outer q Lg) (GY base c outer q Lg) n (.send .none) s

section
variable {w : World} {base h h' h₀ : Heap} {c : Cfg 8} {σ σ' : NS} {outer : List Env} {q : Nat} {Lg : Addr} {env : Env} {m : Str → Option Value}

theorem ns_inj {a : Addr} {m m' : Str → Option Value} (x : h.Ns a m) (y : h.Ns a m') : m = m' := by
  obtain ⟨o, es, n, e, d, _, f⟩ := x
  obtain ⟨o', es', n', e', d', _, f'⟩ := y
  rw [e] at e'
  cases e'
  rw [d] at d'
  cases d'
  funext z
  rw [← f, ← f']

theorem nodes_links (X : Cx w base c) (N : Nodes c σ h) (N' : Nodes c σ' h) {j : Nat} (hj : j < 8) : (σ j).nx = (σ' j).nx := by
  have e := congrFun (ns_inj (N.dict j hj).ns (N'.dict j hj).ns) "next_on_list"
  unfold nmap nref at e
  rw [if_pos rfl, if_pos rfl] at e
  cases a : (σ j).nx with
  | none => rw [a] at e; cases b : (σ' j).nx with
    | none => rfl
    | some k => rw [b] at e; cases e
  | some k => rw [a] at e; cases b : (σ' j).nx with
    | none => rw [b] at e; cases e
    | some k' =>
      rw [b] at e
      simp only [Option.map_some, Option.some.injEq, Value.ref.injEq] at e
      rw [N.na_inj X (N.wf j hj k (.inl a)) (N'.wf j hj k' (.inl b)) e]

theorem cur_inj (X : Cx w base c) (N : Nodes c σ h) (N' : Nodes c σ' h) (hq : q < 8) {ph ph' : Bool} {j j' : Nat} (hj : j < 8) (hj' : j' < 8) (C : CurP c q Lg ph σ h j) (C' : CurP c q Lg ph' σ' h j') : j = j' := by
  unfold CurP at C C'
  cases ph with
  | true =>
    obtain ⟨m, a1, a2, a3, a4⟩ := C
    cases ph' with
    | true =>
      obtain ⟨m', b1, b2, b3, b4⟩ := C'
      rw [ns_inj a1 b1, b4] at a4
      injection a4 with a4
      injection a4 with a4
      exact (N.na_inj X hj' hj a4).symm
    | false =>
      obtain ⟨⟨m', b1, b2, b3⟩, _⟩ := C'
      rw [ns_inj a1 b1] at a3
      exact absurd b3 a3
  | false =>
    obtain ⟨⟨m, a1, a2, a3⟩, a4⟩ := C
    cases ph' with
    | true =>
      obtain ⟨m', b1, b2, b3, b4⟩ := C'
      rw [ns_inj b1 a1] at b3
      exact absurd a3 b3
    | false =>
      obtain ⟨_, b4⟩ := C'
      rw [nodes_links X N N' hq, b4] at a4
      injection a4 with a4
      exact a4.symm

/-- the generator wakes: its frame is taken for new -/
theorem St.wake (G : LgOk base c outer env.locals) (k : Ok base c outer h) (N : Nodes c σ h) (F : h.Ns env.locals m) (hf : env.frame = some env.locals) (hk : env.scope.kind ≠ .module) :
    St base c outer (hideAll h [env.locals]) env m σ [] h := by
  have hfr : frs (env :: outer) = env.locals :: frs outer := by unfold frs; rw [List.filterMap_cons, hf]
  obtain ⟨o, es, n, e, d⟩ := Ns.dictAt F
  refine ⟨.of_keeps fun b o e => of_hideAll _ e, F, ⟨k.stays, ⟨hk, ⟨_, o, hf, G.nb, e, fun vs q => by rw [d] at q; cases q⟩, k.frames⟩, fun b m => ?_, fun b m => ?_⟩, N, hideAll_none _ (.head _), hf, fun _ hp => nomatch hp⟩
  · rw [hfr] at m
    rcases List.mem_cons.mp m with rfl | m
    · exact ⟨o, es, n, e, d⟩
    · exact k.dicts b m
  · rw [hfr] at m
    rcases List.mem_cons.mp m with rfl | m
    · exact ⟨G.nk, G.nd⟩
    · exact k.apart b m

theorem St.slept (G : LgOk base c outer env.locals) (S : St base c outer (hideAll h [env.locals]) env m σ [] h') : GT c env.locals (frs outer) h h' :=
  ⟨fun b o e n d x => S.turn.same b o (hideAll_get _ e fun q => x (List.mem_singleton.mp q)) n d,
   fun b o e hb => S.turn.frame b o (hideAll_get _ e fun q => G.nf (List.mem_singleton.mp q ▸ hb)) hb⟩
end
end Mine

namespace Mine
open PySem PySem.W PySem.Calls PyProof.Rows
example (w : World) : hd.heap_39 w.params = hd.heap_39 w.params ∧ PySem.Challenge.rw_bi0011_01 = PySem.Challenge.rw_bi0011_01 := by
  k_fill
  exact ⟨rfl, rfl⟩
local macro_rules | `(tactic| k_is) => `(tactic| (delta KF; k_is))
local macro_rules | `(tactic| walk_at "m enter") => `(tactic| (
  (case ho => k_is)
  (case hcd => k_is)
  (case hbind => exact BindsTo.of_eq rfl)
  (case hloc => exact locs rfl)
  (case hcell => decide)
  (case hco => rfl)
  (case hgen => rfl)
  (case hk => rfl)))

section
variable {prog : Program} {w : World} {base h₀ : Heap} {c : Cfg 8} {outer : List Env} {m : Str → Option Value} {σ σ' : NS} {os os' : List (Addr × Obj)} {A : Around} {E : Value → Shared → Prop} {s : Shared} {env : Env}

/-- a generator def called: a new frame and a new generator -/
theorem gen_call {Q : Value → Shared → Prop} {name qual : Str} {params : Arguments} {body : List Stmt} {scope : Scope} {dV kV doc pm cdv ct oc : Value} {an od : Option Addr} {osl : Array (Option Value)} {f : Addr} {args : List Value} {d u : Nat} (binds : List (Str × Value))
    (X : Cx w base c) (a : Amb A (env :: outer) d u) (S : St base c outer h₀ env m σ os s.heap)
    (ho : (KF w).lookup f = some ⟨oc, od, .func (fnOf name qual params body scope dV kV doc pm an cdv ct), osl⟩) (hcd : codeIn (KF w) cdv qual = true)
    (hbind : BindsTo s (fnOf name qual params body scope dV kV doc pm an cdv ct) ⟨args, []⟩ binds) (hloc : ∀ y ∈ binds, scope.names.lookup y.1 = some .local)
    (hcell : ∀ x ∈ scope.names, x.2 ≠ .cell) (hco : scope.isCoroutine = false) (hgen : scope.isGenerator = true) (hk : scope.kind = .function)
    (h : ∀ L g h' tk nm qn, Keeps s.heap h' → s.heap.get? L = none → s.heap.get? g = none → h'.Ns L (fun y => binds.reverse.lookup y) → h'.get? g = some { cls := .type "generator", data := .fields #[.int s.gens.size 0, nm, qn] } →
      Q (.ref g) { s with heap := h', toks := tk, gens := s.gens.push (.fresh (.func body (envOf qual scope L f cdv))) }) :
    wpAny (model prog w) A (call (.ref f) args) Q E s := by
  have K := S.K X
  have hlim := X.lim.keeps S.ok.stays
  refine wpAny_call (codeAny_call_generator (fd := fnOf name qual params body scope dV kV doc pm an cdv ct) (body := body) a.room (K _ _ ho) rfl hco hgen rfl (codeRec_of K hcd) (hbind _ _ _ _ ?_))
  refine wpAny_newFunctionEnv hcell hloc (fun h₁ hns hsb => ⟨hlim.fresh _ hsb, ?_⟩) hk
  have k1 : Keeps s.heap h₁ := fun b o e => hsb.extBut b o (Nat.ne_of_lt (Heap.lt_size e)) (Heap.get?_push_of_some _ e)
  have hsz : h₁.objs.size ≠ s.heap.objs.size := by
    have := hns.lt
    exact Nat.ne_of_gt this
  refine h s.heap.objs.size h₁.objs.size _ _ _ _ (k1.trans fun b o e => Heap.get?_push_of_some _ e) (Heap.get?_none_of_le (Nat.le_refl _)) (Heap.get?_none_of_le (Nat.le_of_lt hns.lt)) (hns.push _) (Heap.get?_push_size _ rfl)
end

def IterDoes (w : World) (base : Heap) (c : Cfg 8) (f : Addr) (q d u : Nat) (σ : NS) : Prop :=
  ∀ (prog : Program) (A : Around) (outer : List Env) (s : Shared) (R : Result → Shared → Prop), Amb A outer d u → Ok base c outer s.heap → Nodes c σ s.heap →
    (∀ h' tk g Lg gs nm qn, Turn c (frs outer) s.heap h' → Nodes c σ h' → s.heap.get? Lg = none → s.heap.get? g = none → h'.get? g = some { cls := .type "generator", data := .fields #[.int s.gens.size 0, nm, qn] } → LgOk base c outer Lg → Fst c q Lg h' →
      (∀ A', Amb A' outer 10 100 → ∀ n, GenGo prog w A' base c outer q Lg n gs false) → R (.ok (.ret (.ref g))) { s with heap := h', toks := tk, gens := s.gens.push gs }) →
    codeAny (model prog w) A (.call (.ref f) ⟨[.ref (c.na q)], []⟩) R s

theorem St.notYet {base h₀ h : Heap} {nn : Nat} {c : Cfg nn} {outer : List Env} {env : Env} {m : Str → Option Value} {σ : NS} {os : List (Addr × Obj)} (S : St base c outer h₀ env m σ os h) {b : Addr} (e : h.get? b = none) : h₀.get? b = none := by
  cases q : h₀.get? b with
  | none => rfl
  | some o =>
    exfalso
    by_cases hf : b ∈ frs outer
    · obtain ⟨sl, e'⟩ := S.turn.frame b o q hf
      rw [e] at e'; cases e'
    · by_cases hD : c.D b
      · obtain ⟨j, hj, z⟩ := hD
        obtain ⟨o', e'⟩ := S.nodes.daThere j hj
        rw [← z, e] at e'; cases e'
      · rw [S.turn.same b o q hf hD] at e; cases e

theorem St.lgOk {base h₀ h : Heap} {nn : Nat} {c : Cfg nn} {outer : List Env} {env : Env} {m : Str → Option Value} {σ : NS} {os : List (Addr × Obj)} (S : St base c outer h₀ env m σ os h) {b : Addr} (e : h.get? b = none) : LgOk base c outer b := by
  refine ⟨?_, fun hm => ?_, fun z => ?_, fun j hj z => ?_⟩
  · cases q : base.get? b with
    | none => rfl
    | some o => rw [S.ok.stays b o q] at e; cases e
  · obtain ⟨o, es, n, e', d⟩ := S.ok.dicts b (S.mem' hm)
    rw [e] at e'; cases e'
  · obtain ⟨o, e'⟩ := S.nodes.kdThere
    rw [← z, e] at e'; cases e'
  · obtain ⟨o, e'⟩ := S.nodes.daThere j hj
    rw [← z, e] at e'; cases e'

theorem nodes_swap {h h' : Heap} {c : Cfg 8} {σ σ' : NS} (N : Nodes c σ h) (N' : Nodes c σ' h) (M : Nodes c σ h') : Nodes c σ' h' :=
  ⟨M.inst, fun j hj => by rw [← ns_inj (N.dict j hj).ns (N'.dict j hj).ns]; exact M.dict j hj, M.kind, M.kdict, N'.wf⟩

/-- the surrounding of a walk over a list -/
abbrev genScope : Scope := { kind := .function, names := [(Str.ofString "self", .local), (Str.ofString "node", .local), (Str.ofString "next", .local)], isGenerator := true, isCoroutine := false }
abbrev genEnv (Lg : Addr) : Env := envOf (Str.ofString "CircularListType.List.generator") genScope Lg 98 (.ref 97)

section
variable {w : World} {base : Heap} {c : Cfg 8} {σ σ' : NS} {q : Nat}
theorem iter_does (X : Cx w base c) (hq : q < 2) : IterDoes w base c 77 q 4 40 σ := by
  intro prog A outer s R a ok N h
  refine' enter0 (d := 3) (u := 37) [("self", .ref (c.na q))] X a ok N ?ho ?hcd ?hbind ?hloc ?hcell ?hco ?hgen ?hk ?_
  walk_at "m enter"
  intro L h₁ tk S a'
  refine wpAny_execs_cons (wpAny_Return_some (MethodCall_ (r_name S (v := .ref (c.na q)) (by rfl) (r_hmeth X S hq (l_gen w) (nmap_none hq (by decide) (by decide) (by decide) (by decide)) (callWith_K0 (S.K X) (l_gen w).kp ?_)))))
  refine' gen_call [("self", .ref (c.na q))] X a' S ?ho ?hcd ?hbind ?hloc ?hcell ?hco ?hgen ?hk ?_
  walk_at "m enter"
  intro Lg g h₂ tk₂ nm qn hk hLg hg hns hgo
  have T₂ : Turn c (frs outer) s.heap h₂ := S.turn.trans (.of_keeps hk)
  have hq8 : q < 8 := Nat.lt_of_lt_of_le hq (by decide)
  have G : LgOk base c outer Lg := S.lgOk hLg
  refine h h₂ tk₂ g Lg _ nm qn T₂ (S.nodes.keeps hk) (S.notYet hLg) (S.notYet hg) hgo G ⟨_, hns, rfl, rfl⟩ ?_
  clear h ok N S a a' T₂ hk hLg hg hns hgo
  intro A' a'' n s₃ σ₃ j k ok₃ N₃ C₃ hjk hj8 hn
  obtain ⟨⟨m, hm1, hm2, hm3⟩, hqj⟩ := id C₃
  refine ⟨rfl, seg_func (seg_execs_cons (seg_wrap ?_))⟩
  have S₃ := St.wake (env := genEnv Lg) G ok₃ N₃ hm1 rfl (by intro z; cases z)
  have a₃ : ∀ {b : List Stmt}, Amb (A'.over (.func b (genEnv Lg)) []) (genEnv Lg :: outer) 9 97 := a''.overF
  refine wpAny_Assign_Name (r_lt1 X S₃ (m_next w) hm2 hq fun tk' => r_shead (s := { s₃ with toks := tk' }) X S₃ hm2 hq fun tk'' => ⟨S₃.K X, ?_⟩)
  refine call_does (s := { s₃ with toks := tk'' }) X (next_does X hq8) (a₃.mono (by decide) (by decide)) S₃ fun h₄ tk₄ S₄ => ?_
  refine r_store S₄ fun h₅ S₅ => ?_
  rw [hqj] at S₅
  refine seg_execs_cons (seg_wrap ?_)
  refine wpAny_Assign_Name (r_lt1 (s := { s₃ with heap := h₅, toks := tk₄ + 1 }) X S₅ (m_next w) (by rw [if_neg (by decide)]; exact hm2) hq fun tk' => r_name (s := { s₃ with heap := h₅, toks := tk' }) S₅ (v := .ref (c.na j)) (by rw [if_pos rfl]; rfl) ⟨S₅.K X, ?_⟩)
  refine call_does (s := { s₃ with heap := h₅, toks := tk' }) X (next_does X hj8) (a₃.mono (by decide) (by decide)) S₅ fun h₆ tk₆ S₆ => ?_
  refine r_store S₆ fun h₇ S₇ => ?_
  rw [hjk] at S₇
  refine seg_execs_cons (seg_While fun p => ?_)
  refine' (?key : ∀ (n : Nat) (s₀ : Shared) (σ : NS) (j k : Nat) (ph : Bool) (m : Str → Option Value) (h : Heap) (tk : Nat), Nodes c σ s₀.heap → CurP c q Lg ph σ s₀.heap j → (σ j).nx = some k → j < 8 → (j = q ∨ 1 ≤ n) →
    St base c outer (hideAll s₀.heap [Lg]) (genEnv Lg) m σ [] h → m "self" = some (.ref (c.na q)) → m "node" = some (.ref (c.na j)) → m "next" = some (.ref (c.na k)) →
    Seg (model prog w) A' (GR c outer q Lg) (GY base c outer q Lg) n s₀ _ _ _ { s₀ with heap := h, toks := tk }) n s₃ σ₃ j k false _ h₇ (tk₆ + 1) N₃ C₃ hjk hj8 hn S₇ ?x1 ?x2 ?x3
  case x1 => rw [if_neg (by decide), if_neg (by decide)]; exact hm2
  case x2 => rw [if_neg (by decide), if_pos rfl]; rfl
  case x3 => rw [if_pos rfl]; rfl
  clear hn hjk hqj hm3 hm2 hm1 C₃ N₃ ok₃ S₃ S₄ S₅ S₆ S₇ hj8 a₃
  intro n
  induction n with
  | zero =>
    intro s₀ σ j k ph m h tk N C hjk hj8 hn S m1 m2 m3
    have hjq : j = q := hn.resolve_right (by decide)
    subst hjq
    refine seg_whileLoop (wpAny_isTrue_Compare1 (r_name S m2 (r_shead X S m1 hq fun tk' => ?_)))
    refine wpAny_isNot_ref_self (wpAny_truthy_bool ?_)
    rw [if_neg (by decide)]
    refine seg_execs_nil (seg_leaf (.ok .next) ?_)
    refine seg_end (.ok (.ret .none)) ⟨rfl, fun ph' σ' j' N' C' hj' => ?_⟩
    exact ⟨(cur_inj X N N' hq8 hj8 hj' C C').symm, h, tk', rfl, St.slept (env := genEnv Lg) G S, nodes_swap N N' S.nodes⟩
  | succ n ih =>
    intro s₀ σ j k ph m h tk N C hjk hj8 hn S m1 m2 m3
    refine seg_whileLoop (wpAny_isTrue_Compare1 (r_name S m2 (r_shead X S m1 hq fun tk' => ?_)))
    refine lv_isNot (s := { s₀ with heap := h, toks := tk' }) X S.nodes (fun _ _ e => e) hj8 hq8 (wpAny_truthy_bool ?_)
    by_cases hjq : j = q
    · rw [if_neg (by simp [hjq])]
      refine seg_execs_nil (seg_leaf (.ok .next) ?_)
      refine seg_end (.ok (.ret .none)) ⟨rfl, fun ph' σ' j' N' C' hj' => ?_⟩
      exact ⟨(cur_inj X N N' hq8 hj8 hj' C C').symm.trans hjq, h, tk', rfl, St.slept (env := genEnv Lg) G S, nodes_swap N N' S.nodes⟩
    · rw [if_pos (bne_iff_ne.mpr hjq)]
      refine seg_execs_cons (seg_Expr_Yield rfl rfl rfl (r_name (s := { s₀ with heap := h, toks := tk' }) S m2 ?_))
      intro kap hkap ph' σ' j' N' C' hj'
      have ej := cur_inj X N N' hq8 hj8 hj' C C'
      subst ej
      refine ⟨hjq, rfl, k, h, tk', (nodes_links X N N' hj8).symm.trans hjk, rfl, St.slept (env := genEnv Lg) G S, nodes_swap N N' S.nodes, ⟨m, S.ns, m1, (by rw [m2]; intro z; cases z), m3⟩, ?_⟩
      intro s'' σ'' j'' k'' ok'' N'' C'' hk'' hj'' hn''
      refine hkap .none s'' ?_
      obtain ⟨m'', b1, b2, b3, b4⟩ := id C''
      have S'' := St.wake (env := genEnv Lg) G ok'' N'' b1 rfl (by intro z; cases z)
      refine seg_execs_cons (seg_wrap ?_)
      refine wpAny_Assign_Name (r_name S'' b4 (r_store S'' fun h₁ S₁ => ?_))
      refine seg_execs_cons (seg_wrap ?_)
      refine wpAny_Assign_Name (r_lt1 (s := { s'' with heap := h₁, toks := s''.toks + 1 }) X S₁ (m_next w) (by rw [if_neg (by decide)]; exact b2) hq fun tk₁ => r_name (s := { s'' with heap := h₁, toks := tk₁ }) S₁ (v := .ref (c.na j'')) (by rw [if_pos rfl]) ⟨S₁.K X, ?_⟩)
      refine call_does (s := { s'' with heap := h₁, toks := tk₁ }) X (next_does X hj'') (Amb.mono (Amb.overW a'') (by decide) (by decide)) S₁ fun h₂ tk₂ S₂ => ?_
      refine r_store S₂ fun h₃ S₃ => ?_
      rw [hk''] at S₃
      refine seg_execs_nil (seg_again rfl ?_)
      refine ih s'' σ'' j'' k'' true _ h₃ _ N'' ?_ hk'' hj'' hn'' S₃ ?_ ?_ ?_
      · unfold CurP; rw [if_pos rfl]; exact C''
      · rw [if_neg (by decide), if_neg (by decide)]; exact b2
      · rw [if_neg (by decide), if_pos rfl]
      · rw [if_pos rfl]; rfl
end
end Mine

namespace Mine
open PySem PySem.W PySem.Calls PyProof.Rows
example (w : World) : hd.heap_39 w.params = hd.heap_39 w.params ∧ PySem.Challenge.rw_bi0011_01 = PySem.Challenge.rw_bi0011_01 := by
  k_fill
  exact ⟨rfl, rfl⟩
local macro_rules | `(tactic| k_is) => `(tactic| (delta KF; k_is))
local macro_rules | `(tactic| walk_at "m enter") => `(tactic| (
  (case ho => k_is)
  (case hcd => k_is)
  (case hbind => exact BindsTo.of_eq rfl)
  (case hloc => exact locs rfl)
  (case hcell => decide)
  (case hco => rfl)
  (case hgen => rfl)
  (case hk => rfl)))

/-- an object of the running def, made after its entry -/
structure Own (base : Heap) {nn : Nat} (c : Cfg nn) (outer : List Env) (h₀ : Heap) (a : Addr) : Prop where
  nb : base.get? a = none
  n0 : h₀.get? a = none
  nf : a ∉ frs outer
  nk : a ≠ c.kd
  ni : a ≠ c.ka
  nd : ∀ j, j < nn → a ≠ c.da j
  nn : ∀ j, j < nn → a ≠ c.na j

structure Owns (base : Heap) {nn : Nat} (c : Cfg nn) (outer : List Env) (h₀ : Heap) (as : List Addr) : Prop where
  all : ∀ a ∈ as, Own base c outer h₀ a
  nodup : as.Nodup

section
variable {prog : Program} {w : World} {base h₀ h h' : Heap} {nn : Nat} {c : Cfg nn} {outer : List Env} {m : Str → Option Value} {σ σ' : NS} {os os' : List (Addr × Obj)} {A : Around} {E : Value → Shared → Prop} {s : Shared} {env : Env} {a : Addr} {o o' : Obj}

theorem Own.lg (O : Own base c outer h₀ a) : LgOk base c outer a := ⟨O.nb, O.nf, O.nk, O.nd⟩
theorem Own.notD (O : Own base c outer h₀ a) : ¬ c.D a := fun ⟨j, hj, e⟩ => O.nd j hj e

theorem St.own (S : St base c outer h₀ env m σ os h) (e : h.get? a = none) : Own base c (env :: outer) h₀ a := by
  refine ⟨?_, S.notYet e, fun hm => ?_, fun z => ?_, fun z => ?_, fun j hj z => ?_, fun j hj z => ?_⟩
  · cases q : base.get? a with
    | none => rfl
    | some o => rw [S.ok.stays a o q] at e; cases e
  · obtain ⟨o, es, n, e', d⟩ := S.ok.dicts a hm
    rw [e] at e'; cases e'
  · obtain ⟨o, e'⟩ := S.nodes.kdThere
    rw [← z, e] at e'; cases e'
  · have e' := S.nodes.kind
    rw [← z, e] at e'; cases e'
  · obtain ⟨o, e'⟩ := S.nodes.daThere j hj
    rw [← z, e] at e'; cases e'
  · have e' := S.nodes.inst j hj
    rw [← z, e] at e'; cases e'

/-- a new object -/
theorem St.born (S : St base c outer h₀ env m σ os h) (x : Keeps h h') (e : h.get? a = none) (e' : h'.get? a = some o) : St base c outer h₀ env m σ ((a, o) :: os) h' :=
  have S' := S.keeps x
  ⟨S'.turn, S'.ns, S'.ok, S'.nodes, S'.new, S'.fr, fun p hp => by
    rcases List.mem_cons.mp hp with rfl | hp
    · exact ⟨e', (S.own e).nf, (S.own e).notD⟩
    · exact S'.os p hp⟩
theorem Owns.born (O : Owns base c (env :: outer) h₀ (os.map Prod.fst)) (S : St base c outer h₀ env m σ os h) (e : h.get? a = none) : Owns base c (env :: outer) h₀ (a :: os.map Prod.fst) :=
  ⟨fun b hb => by
    rcases List.mem_cons.mp hb with rfl | hb
    · exact S.own e
    · exact O.all b hb,
   List.nodup_cons.mpr ⟨fun hm => (by
    obtain ⟨p, hp, rfl⟩ := List.mem_map.mp hm
    rw [(S.os p hp).1] at e
    cases e), O.nodup⟩⟩
theorem Owns.tail {as : List Addr} (O : Owns base c outer h₀ (a :: as)) : Owns base c outer h₀ as := ⟨fun b hb => O.all b (.tail _ hb), (List.nodup_cons.mp O.nodup).2⟩
theorem Owns.nil : Owns base c outer h₀ [] := ⟨fun _ h => (nomatch h), List.nodup_nil⟩

theorem frames_put (hs : Heap.SameBut a h h') : ∀ (l : List Env), a ∉ frs l → h.FunFrames base l → h'.FunFrames base l
  | [], _, _ => trivial
  | env :: r, hd, ⟨hk, ⟨L, o, hf, hn, e, d⟩, hr⟩ => by
    have e0 : frs (env :: r) = L :: frs r := by unfold frs; rw [List.filterMap_cons, hf]
    rw [e0] at hd
    exact ⟨hk, ⟨L, o, hf, hn, (hs.2 L fun q => hd (q ▸ .head _)).trans e, d⟩, frames_put hs r (fun m => hd (.tail _ m)) hr⟩

/-- an object of the running def is written -/
theorem St.put (S : St base c outer h₀ env m σ os h) (O : Own base c (env :: outer) h₀ a) (hs : Heap.SameBut a h h') (ho : ∀ p ∈ os', (p ∈ os ∧ p.1 ≠ a) ∨ (p.1 = a ∧ h'.get? a = some p.2)) : St base c outer h₀ env m σ os' h' := by
  have hl : a ≠ env.locals := fun q => O.nf (by rw [S.frsEq, q]; exact .head _)
  refine ⟨⟨fun b o e n d => (hs.2 b fun q => (by rw [q, O.n0] at e; cases e)).trans (S.turn.same b o e n d), fun b o e n => ?_⟩, S.ns.at fun o e => (hs.2 _ (Ne.symm hl)).trans e,
    ⟨fun b o e => (hs.2 b fun q => (by rw [q, O.nb] at e; cases e)).trans (S.ok.stays b o e), frames_put hs _ O.nf S.ok.frames, fun b hb => ?_, S.ok.apart⟩,
    ⟨fun j hj => (hs.2 _ (Ne.symm (O.nn j hj))).trans (S.nodes.inst j hj), fun j hj => (S.nodes.dict j hj).at fun o e => (hs.2 _ (Ne.symm (O.nd j hj))).trans e, (hs.2 _ (Ne.symm O.ni)).trans S.nodes.kind,
      S.nodes.kdict.at fun o e => (hs.2 _ (Ne.symm O.nk)).trans e, S.nodes.wf⟩, S.new, S.fr, fun p hp => ?_⟩
  · obtain ⟨sl, e'⟩ := S.turn.frame b o e n
    exact ⟨sl, (hs.2 b fun q => (by rw [q, O.n0] at e; cases e)).trans e'⟩
  · obtain ⟨o, es, n, e, d⟩ := S.ok.dicts b hb
    exact ⟨o, es, n, (hs.2 b fun q => O.nf (q ▸ hb)).trans e, d⟩
  · rcases ho p hp with ⟨h1, h2⟩ | ⟨h1, h2⟩
    · exact ⟨(hs.2 _ h2).trans (S.os p h1).1, (S.os p h1).2⟩
    · rw [h1]; exact ⟨h2, O.nf, O.notD⟩

theorem St.write {i : Nat} (S : St base c outer h₀ env m σ os h) (O : Owns base c (env :: outer) h₀ (os.map Prod.fst)) (hi : os[i]? = some (a, o)) (hs : Heap.SameBut a h h') (ha : h'.get? a = some o') :
    St base c outer h₀ env m σ (os.set i (a, o')) h' := by
  have hm : a ∈ os.map Prod.fst := List.mem_map.mpr ⟨_, List.mem_of_getElem? hi, rfl⟩
  refine S.put (O.all a hm) hs fun p hp => ?_
  obtain ⟨k, hk⟩ := List.mem_iff_getElem?.mp hp
  by_cases q : i = k
  · subst q
    rw [List.getElem?_set_self (by obtain ⟨hl, _⟩ := List.getElem?_eq_some_iff.mp hi; exact hl)] at hk
    cases hk
    exact .inr ⟨rfl, ha⟩
  · rw [List.getElem?_set_ne q] at hk
    refine .inl ⟨List.mem_of_getElem? hk, fun e => ?_⟩
    have h1 : (os.map Prod.fst)[i]? = some a := by rw [List.getElem?_map, hi]; rfl
    have h2 : (os.map Prod.fst)[k]? = some a := by rw [List.getElem?_map, hk, ← e]; rfl
    exact q ((List.getElem?_inj (by obtain ⟨hl, _⟩ := List.getElem?_eq_some_iff.mp h1; exact hl) O.nodup).mp (h1.trans h2.symm))

end

section
variable {prog : Program} {w : World} {base h₀ h h' : Heap} {c : Cfg 8} {outer : List Env} {m : Str → Option Value} {σ σ' : NS} {os os' : List (Addr × Obj)} {A : Around} {E : Value → Shared → Prop} {s : Shared} {env : Env} {a : Addr} {o o' : Obj}

/-- a generator ran -/
theorem St.gen (X : Cx w base c) {Lg : Addr} (S : St base c outer h₀ env m σ os h) (O : Own base c (env :: outer) h₀ Lg) (T : GT c Lg (frs (env :: outer)) h h') (N : Nodes c σ h') (hn : ∀ p ∈ os, p.1 ≠ Lg) : St base c outer h₀ env m σ os h' := by
  have T0 : Turn c (frs (env :: outer)) (hideAll h [Lg]) h' := ⟨fun b o e n d => T.same b o (of_hideAll _ e) n d (fun q => by
    have : (hideAll h [Lg]).get? b = none := hideAll_none _ (by rw [q]; exact .head _)
    rw [this] at e; cases e), fun b o e => T.frame b o (of_hideAll _ e)⟩
  have hl : Lg ≠ env.locals := fun q => O.nf (by rw [S.frsEq, q]; exact .head _)
  have hd : ∀ {b o}, h.get? b = some o → b ≠ Lg → (hideAll h [Lg]).get? b = some o := fun e q => hideAll_get _ e fun z => q (List.mem_singleton.mp z)
  have S0 : St base c outer h₀ env m σ os (hideAll h [Lg]) := by
    refine ⟨⟨fun b o e n d => hd (S.turn.same b o e n d) fun q => (by rw [q, O.n0] at e; cases e), fun b o e n => ?_⟩, S.ns.at fun o e => hd e (Ne.symm hl),
      ⟨fun b o e => hd (S.ok.stays b o e) fun q => (by rw [q, O.nb] at e; cases e), ?_, fun b hb => ?_, S.ok.apart⟩,
      ⟨fun j hj => hd (S.nodes.inst j hj) (Ne.symm (O.nn j hj)), fun j hj => (S.nodes.dict j hj).at fun o e => hd e (Ne.symm (O.nd j hj)), hd S.nodes.kind (Ne.symm O.ni),
      S.nodes.kdict.at fun o e => hd e (Ne.symm O.nk), S.nodes.wf⟩, S.new, S.fr, fun p hp => ⟨hd (S.os p hp).1 (hn p hp), (S.os p hp).2⟩⟩
    · obtain ⟨sl, e'⟩ := S.turn.frame b o e n
      exact ⟨sl, hd e' fun q => (by rw [q, O.n0] at e; cases e)⟩
    · refine funFrames_of _ (fun b hb => ?_) S.ok.frames
      obtain ⟨o, es, n, e, d⟩ := S.ok.dicts b hb
      exact ⟨o, es, n, hd e fun q => O.nf (q ▸ hb), d⟩
    · obtain ⟨o, es, n, e, d⟩ := S.ok.dicts b hb
      exact ⟨o, es, n, hd e fun q => O.nf (q ▸ hb), d⟩
  exact S0.callee X T0 N
end

section
variable {M : Model} {A : Around} {E : Value → Shared → Prop} {s : Shared} {K : Frag} {x C f : Addr} {ox : Obj} {od : Option Obj}
theorem q_look (X : K.In s.heap) (I : InstAt s.heap x ox C od) (hs : findIn K (.ref C) "__iter__" = some (some (.ref f))) : Looks M s.heap (specialOf (.ref x) "__iter__") (some (.ref f)) :=
  I.type.andThen (looks_findIn X hs)
/-- the bound `__iter__` of an own class -/
theorem q_bind {Q : Option (Value × List Value) → Shared → Prop} (X : K.In s.heap) (I : InstAt s.heap x ox C od) (hs : findIn K (.ref C) "__iter__" = some (some (.ref f))) (hf : isFn K (.ref f) = true)
    (h : Q (some (.ref f, [.ref x])) s) : wpAny M A (bindSpecialIfBound? (.ref x) "__iter__") Q E s := by
  have bound : ∀ E', wpAny M A (do return some (← bindSpecial (.ref f) (.ref x))) Q E' s := fun E' => wpAny_bind ((bind_fn X (.ref x) (beq_iff_eq.mp hf)).here (wpAny_pure h))
  unfold bindSpecialIfBound?
  refine wpAny_bind ((q_look X I hs).here (wpAny_bind (wpAny_askSetting (wpAny_ite ?_))))
  split <;> first | exact bound _ | exact wpAny_tryCatch (bound _)
theorem q_iter {Q : Value → Shared → Prop} (X : K.In s.heap) (I : InstAt s.heap x ox C od) (hs : findIn K (.ref C) "__iter__" = some (some (.ref f))) (hf : isFn K (.ref f) = true)
    (h : wpAny M A (call (.ref f) [.ref x]) (OwitIt M A Q E) E s) : wpAny M A (pyIter (.ref x)) Q E s := by
  unfold pyIter
  refine wpAny_bind ((q_look X I hs).here (wpAny_bind (m := callSpecialIfBoundUnlessNone? (.ref x) "__iter__" _) ?_))
  unfold callSpecialIfBoundUnlessNone?
  refine wpAny_holding (wpAny_bind (q_bind X I hs hf (wpAny_bind (wpAny_mono h (fun v s' hv => wpAny_pure ?_) fun _ _ e => e))))
  refine wpAny_bind (wpAny_mono hv (fun r s₂ hr => ?_) fun _ _ e => e)
  cases r with
  | none => exact hr.elim
  | some g => exact wpAny_pure hr
end

def gobj (i : Nat) (nm qn : Value) : Obj := { cls := .type "generator", data := .fields #[.int i 0, nm, qn] }
theorem isGen_of {h : Heap} {g i : Nat} {nm qn : Value} (e : h.get? g = some (gobj i nm qn)) : h.IsGen g i := ⟨_, nm, qn, e, rfl, rfl, rfl⟩

section
variable {prog : Program} {w : World} {base h₀ : Heap} {c : Cfg 8} {outer : List Env} {m : Str → Option Value} {σ σ' : NS} {os os' : List (Addr × Obj)} {A : Around} {E : Value → Shared → Prop} {s : Shared} {env : Env} {q : Nat}

theorem gen_iter {M : Model} {Q : Value → Shared → Prop} {g i : Nat} (hg : s.heap.IsGen g i) (h : Q (.ref g) s) : OwitIt M A Q E (.ref g) s := by
  unfold OwitIt
  exact wpAny_specialOf hg.typeIs slot_gen_next.lookup h

/-- a walk over a queue begins -/
theorem walk_iter {Q : Value → Shared → Prop} (X : Cx w base c) (a : Amb A (env :: outer) 4 40) (S : St base c outer h₀ env m σ os s.heap) (hq : q < 2)
    (h : ∀ h' tk g Lg oL gs nm qn, St base c outer h₀ env m σ ((g, gobj s.gens.size nm qn) :: (Lg, oL) :: os) h' → s.heap.get? Lg = none → s.heap.get? g = none → Fst c q Lg h' → g ≠ Lg →
      (∀ A', Amb A' (env :: outer) 10 100 → ∀ n, GenGo prog w A' base c (env :: outer) q Lg n gs false) → Q (.ref g) { s with heap := h', toks := tk, gens := s.gens.push gs }) :
    wpAny (model prog w) A (pyIter (.ref (c.na q))) Q E s := by
  have hq8 : q < 8 := Nat.lt_of_lt_of_le hq (by decide)
  obtain ⟨od, I, _, _⟩ := instAt_of (S.nodes.inst q hq8) (S.nodes.dict q hq8).ns
  rw [ncls_head hq] at I
  refine q_iter (S.K X) I (l_iter w).fn (l_iter w).ty (wpAny_call ?_)
  refine iter_does X hq prog A (env :: outer) s _ a S.ok S.nodes fun h' tk g Lg gs nm qn T N hLg hg hgo G F go => ?_
  have S' := S.callee X T N
  obtain ⟨m', hm', hf1, hf2⟩ := F
  obtain ⟨oL, es, ep, eL, dL⟩ := Ns.dictAt hm'
  have hgl : g ≠ Lg := fun z => by rw [z, eL] at hgo; cases hgo; cases dL
  refine gen_iter (isGen_of hgo) (h h' tk g Lg oL gs nm qn ⟨S'.turn, S'.ns, S'.ok, S'.nodes, S'.new, S'.fr, fun p hp => ?_⟩ hLg hg ⟨m', hm', hf1, hf2⟩ hgl go)
  rcases List.mem_cons.mp hp with rfl | hp
  · exact ⟨hgo, (S.own hg).nf, (S.own hg).notD⟩
  · rcases List.mem_cons.mp hp with rfl | hp
    · exact ⟨eL, (S.own hLg).nf, (S.own hLg).notD⟩
    · exact S'.os p hp

/-- all generators but this one may go as they are -/
def Bb (i : Nat) (gens : Array GenState) : Prop := ∀ k y, k ≠ i → gens[k]? = some y → y.bare = true
theorem bb_push {gens : Array GenState} {gs : GenState} (x : AllBare gens) : Bb gens.size (gens.push gs) := fun k y hk e => by
  rw [Array.getElem?_push, if_neg hk] at e
  exact x y (Array.mem_of_getElem? e)
theorem bb_set {gens : Array GenState} {i : Nat} {gs gs' : GenState} (x : Bb i gens) : Bb i ((gens.setIfInBounds i gs).setIfInBounds i gs') := fun k y hk e => by
  rw [Array.getElem?_setIfInBounds_ne (Ne.symm hk), Array.getElem?_setIfInBounds_ne (Ne.symm hk)] at e
  exact x k y hk e
theorem bb_end {gens : Array GenState} {i : Nat} {gs : GenState} (x : Bb i gens) : AllBare ((gens.setIfInBounds i gs).setIfInBounds i .finished) := fun y hy => by
  obtain ⟨k, hk, e⟩ := Array.mem_iff_getElem.mp hy
  by_cases q : k = i
  · subst q
    rw [Array.getElem_setIfInBounds_self] at e
    rw [← e]; rfl
  · refine bb_set (gs := gs) (gs' := .finished) x k y q ?_
    rw [Array.getElem?_eq_getElem hk, e]

theorem gen_next {Q : Option Value → Shared → Prop} {g i j k n : Nat} {Lg : Addr} {nm qn : Value} {gs : GenState} {ph : Bool} (X : Cx w base c) (a : Amb A (env :: outer) 10 101) (S : St base c outer h₀ env m σ os s.heap)
    (hg : (g, gobj i nm qn) ∈ os) (hgs : s.gens[i]? = some gs) (O : Own base c (env :: outer) h₀ Lg) (hno : ∀ p ∈ os, p.1 ≠ Lg) (C : CurP c q Lg ph σ s.heap j) (hj : j < 8) (hjk : (σ j).nx = some k)
    (go : GenGo prog w A.in1 base c (env :: outer) q Lg n gs ph) (hn : j = q ∨ 1 ≤ n) (hbb : Bb i s.gens)
    (hstop : j = q → ∀ h' tk gens', AllBare gens' → St base c outer h₀ env m σ os h' → Q none { s with heap := h', toks := tk, gens := gens' })
    (hmore : j ≠ q → ∀ h' tk gs' gens' oL, Bb i gens' → gens'[i]? = some gs' → St base c outer h₀ env m σ ((Lg, oL) :: os) h' → Nxt c q Lg h' k → GenGo prog w A.in1 base c (env :: outer) q Lg (n - 1) gs' true →
      Q (some (.ref (c.na j))) { s with heap := h', toks := tk, gens := gens' }) :
    wpAny (model prog w) A (pyNext (.ref g)) Q E s := by
  have hi : i < s.gens.size := by
    cases Nat.lt_or_ge i s.gens.size with
    | inl h => exact h
    | inr h => rw [Array.getElem?_eq_none h] at hgs; cases hgs
  refine wpAny_pyNext_gen (n := n) (P := GP c (env :: outer) q Lg) (Y := GY base c (env :: outer) q Lg) a.handled (X.lim.keeps S.ok.stays) a.room (isGen_of (S.get hg)) hgs
    (go (s.setGen i .running) σ j k S.ok S.nodes C hjk hj hn) ?_ ?_
  · intro v s₁ gs' hY
    obtain ⟨hjq, rfl, k', h₁, tk, hk', rfl, T, N, C', hkap⟩ := hY ph σ j S.nodes C hj
    rw [hjk] at hk'
    cases hk'
    obtain ⟨m', hm', _⟩ := id C'
    obtain ⟨oL, es, ep, eL, dL⟩ := Ns.dictAt hm'
    have S' := S.gen X O T N hno
    cases n with
    | zero => exact absurd (hn.resolve_right (by decide)) hjq
    | succ n =>
      refine hmore hjq h₁ tk gs' _ oL (bb_set hbb) ?_ ⟨S'.turn, S'.ns, S'.ok, S'.nodes, S'.new, S'.fr, fun p hp => ?_⟩ C' ?_
      · show (((s.gens.setIfInBounds i _).setIfInBounds i gs'))[i]? = _
        rw [Array.getElem?_setIfInBounds_self_of_lt (by rw [Array.size_setIfInBounds]; exact hi)]
      · rcases List.mem_cons.mp hp with rfl | hp
        · exact ⟨eL, O.nf, O.notD⟩
        · exact S'.os p hp
      · intro s'' σ'' j'' k'' ok'' N'' C'' hk'' hj'' hn''
        exact hkap s'' σ'' j'' k'' ok'' N'' (by unfold CurP at C''; rw [if_pos rfl] at C''; exact C'') hk'' hj'' hn''
  · intro s₁ hP h' hk'
    obtain ⟨hjq, h₁, tk, rfl, T, N⟩ := hP ph σ j S.nodes C hj
    exact hstop hjq h' tk _ (bb_end hbb) ((S.gen X O T N hno).keeps hk')
end
end Mine

namespace Mine
open PySem PySem.W PySem.Calls PyProof.Rows

def Lk (σ : NS) (a b : Nat) : Prop := (σ a).nx = some b ∧ (σ b).pv = some a
def Ch (σ : NS) : List Nat → Prop
  | [] => True
  | [_] => True
  | a :: b :: l => Lk σ a b ∧ Ch σ (b :: l)

section
variable {σ σ' : NS}
theorem ch_app {x : Nat} {N : List Nat} : ∀ {P : List Nat}, Ch σ (P ++ x :: N) ↔ Ch σ (P ++ [x]) ∧ Ch σ (x :: N)
  | [] => ⟨fun h => ⟨trivial, h⟩, fun h => h.2⟩
  | [a] => ⟨fun h => ⟨⟨h.1, trivial⟩, h.2⟩, fun h => ⟨h.1.1, h.2⟩⟩
  | a :: b :: P => by
    have ih : Ch σ ((b :: P) ++ x :: N) ↔ Ch σ ((b :: P) ++ [x]) ∧ Ch σ (x :: N) := ch_app
    exact ⟨fun h => ⟨⟨h.1, (ih.mp h.2).1⟩, (ih.mp h.2).2⟩, fun h => ⟨h.1.1, ih.mpr ⟨h.1.2, h.2⟩⟩⟩
theorem ch_congr : ∀ {L : List Nat}, Ch σ L → (∀ i ∈ L.dropLast, (σ' i).nx = (σ i).nx) → (∀ i ∈ L.tail, (σ' i).pv = (σ i).pv) → Ch σ' L
  | [], _, _, _ => trivial
  | [_], _, _, _ => trivial
  | a :: b :: l, h, hn, hp => by
    refine ⟨⟨(hn a (.head _)).trans h.1.1, (hp b (.head _)).trans h.1.2⟩, ch_congr h.2 (fun i hi => hn i (.tail _ hi)) fun i hi => hp i ?_⟩
    exact .tail _ hi
end

theorem insB_nx {σ : NS} {q j k i : Nat} (hkj : k ≠ j) : ((σ.insB q j k) i).nx = if i = k then some j else if i = j then some q else (σ i).nx := by
  unfold NS.insB NS.setN NS.setP
  by_cases h1 : i = k
  · simp [h1]
  · by_cases h2 : i = j <;> by_cases h3 : i = q <;> simp_all
theorem insB_pv {σ : NS} {q j k i : Nat} (hqj : q ≠ j) : ((σ.insB q j k) i).pv = if i = j then some k else if i = q then some j else (σ i).pv := by
  unfold NS.insB NS.setN NS.setP
  by_cases h1 : i = k <;> by_cases h2 : i = j <;> by_cases h3 : i = q <;> simp_all
theorem ins_nx {σ : NS} {q j k i : Nat} (hqj : q ≠ j) : ((σ.ins q j k) i).nx = if i = j then some k else if i = q then some j else (σ i).nx := by
  unfold NS.ins NS.setN NS.setP
  by_cases h1 : i = k <;> by_cases h2 : i = j <;> by_cases h3 : i = q <;> simp_all
theorem ins_pv {σ : NS} {q j k i : Nat} (hkj : k ≠ j) : ((σ.ins q j k) i).pv = if i = k then some j else if i = j then some q else (σ i).pv := by
  unfold NS.ins NS.setN NS.setP
  by_cases h1 : i = k <;> by_cases h2 : i = j <;> by_cases h3 : i = q <;> simp_all
theorem cut_nx {σ : NS} {j p n i : Nat} : ((σ.cut j p n) i).nx = if i = j then some j else if i = p then some n else (σ i).nx := by
  unfold NS.cut NS.setN NS.setP
  by_cases h1 : i = p <;> by_cases h2 : i = j <;> by_cases h3 : i = n <;> simp_all
theorem cut_pv {σ : NS} {j p n i : Nat} : ((σ.cut j p n) i).pv = if i = j then some j else if i = n then some p else (σ i).pv := by
  unfold NS.cut NS.setN NS.setP
  by_cases h1 : i = p <;> by_cases h2 : i = j <;> by_cases h3 : i = n <;> simp_all

abbrev Rows2 := Nat → List Nat
def Rows2.up (r : Rows2) (q : Nat) (l : List Nat) : Rows2 := fun i => if i = q then l else r i

structure Rep (σ : NS) (r : Rows2) : Prop where
  nd : ∀ q, q < 2 → (r q).Nodup
  dj : ∀ j, j ∈ r 0 → j ∉ r 1
  rng : ∀ q, q < 2 → ∀ j ∈ r q, 2 ≤ j ∧ j < 8
  ring : ∀ q, q < 2 → Ch σ (q :: r q ++ [q])
  off : ∀ j, 2 ≤ j → j < 8 → j ∉ r 0 → j ∉ r 1 → (σ j).pv = (σ j).nx ∧ ((σ j).nx = none ∨ (σ j).nx = some j)

def free (r : Rows2) (j : Nat) : Prop := j ∉ r 0 ∧ j ∉ r 1

section
variable {σ σ' : NS} {r : Rows2} {q j : Nat}

theorem Rep.djq (H : Rep σ r) {q q' j : Nat} (hq : q < 2) (hq' : q' < 2) (hne : q ≠ q') (h : j ∈ r q) : j ∉ r q' := by
  have : (q = 0 ∧ q' = 1) ∨ (q = 1 ∧ q' = 0) := by omega
  rcases this with ⟨rfl, rfl⟩ | ⟨rfl, rfl⟩
  · exact H.dj j h
  · exact fun z => H.dj j z h
theorem free.no (hf : free r j) (hq : q < 2) : j ∉ r q := by
  have : q = 0 ∨ q = 1 := by omega
  rcases this with rfl | rfl
  · exact hf.1
  · exact hf.2
theorem not_free (h : ¬ free r j) : ∃ q, q < 2 ∧ j ∈ r q := by
  unfold free at h
  by_cases h0 : j ∈ r 0
  · exact ⟨0, by decide, h0⟩
  · by_cases h1 : j ∈ r 1
    · exact ⟨1, by decide, h1⟩
    · exact absurd ⟨h0, h1⟩ h

theorem Rep.next (H : Rep σ r) (hq : q < 2) {l1 l2 : List Nat} (e : r q = l1 ++ j :: l2) : (σ j).nx = some (l2.headD q) := by
  have h := H.ring q hq
  rw [e] at h
  have h' : Ch σ (q :: l1 ++ j :: (l2 ++ [q])) := by simpa using h
  have h2 := (ch_app.mp h').2
  cases l2 with
  | nil => exact h2.1.1
  | cons x l => exact h2.1.1
theorem Rep.first (H : Rep σ r) (hq : q < 2) : (σ q).nx = some ((r q).headD q) := by
  have h := H.ring q hq
  cases e : r q with
  | nil => rw [e] at h; exact h.1.1
  | cons x l => rw [e] at h; exact h.1.1
theorem split_last (q : Nat) (l : List Nat) : ∃ P k, q :: l = P ++ [k] ∧ k = l.getLastD q := by
  rcases List.eq_nil_or_concat l with rfl | ⟨l', x, rfl⟩
  · exact ⟨[], q, rfl, rfl⟩
  · exact ⟨q :: l', x, by simp, by simp⟩
theorem split_first (q : Nat) (l : List Nat) : ∃ n N, l ++ [q] = n :: N ∧ n = l.headD q := by
  cases l with
  | nil => exact ⟨q, [], rfl, rfl⟩
  | cons x l => exact ⟨x, l ++ [q], rfl, rfl⟩
theorem Rep.prev (H : Rep σ r) (hq : q < 2) {l1 l2 : List Nat} (e : r q = l1 ++ j :: l2) : (σ j).pv = some (l1.getLastD q) := by
  have h := H.ring q hq
  rw [e] at h
  obtain ⟨P, k, hP, hk⟩ := split_last q l1
  have h' : Ch σ (P ++ k :: (j :: (l2 ++ [q]))) := by
    have : P ++ k :: (j :: (l2 ++ [q])) = q :: (l1 ++ j :: l2) ++ [q] := by
      have := congrArg (· ++ (j :: (l2 ++ [q]))) hP
      simpa using this.symm
    rw [this]; exact h
  rw [← hk]
  exact (ch_app.mp h').2.1.2
theorem Rep.last (H : Rep σ r) (hq : q < 2) : (σ q).pv = some ((r q).getLastD q) := by
  have h := H.ring q hq
  obtain ⟨P, k, hP, hk⟩ := split_last q (r q)
  have h' : Ch σ (P ++ k :: [q]) := by
    have : P ++ k :: [q] = q :: r q ++ [q] := by
      have := congrArg (· ++ [q]) hP
      simpa using this.symm
    rw [this]; exact h
  rw [← hk]
  exact (ch_app.mp h').2.1.2

theorem Rep.onItem (H : Rep σ r) (hq : q < 2) (h : j ∈ r q) : onL σ j = true := by
  obtain ⟨l1, l2, e⟩ := List.append_of_mem h
  have hn := H.next hq e
  have hj := H.rng q hq j h
  have hd := H.nd q hq
  rw [e] at hd
  unfold onL
  rw [hn]
  have : l2.headD q ≠ j := by
    cases l2 with
    | nil => show q ≠ j; omega
    | cons x l =>
      have := (List.nodup_append.mp hd).2.1
      have := (List.nodup_cons.mp this).1
      exact fun z => this (z ▸ .head _)
  simpa using this
theorem Rep.offItem (H : Rep σ r) (h2 : 2 ≤ j) (h8 : j < 8) (hf : free r j) : onL σ j = false := by
  unfold onL
  rcases (H.off j h2 h8 hf.1 hf.2).2 with e | e <;> rw [e]
  simp
theorem Rep.wfItem (H : Rep σ r) (h2 : 2 ≤ j) (h8 : j < 8) : Wf σ j := by
  intro ho
  by_cases hf : free r j
  · exact (H.off j h2 h8 hf.1 hf.2).1
  · obtain ⟨q, hq, h⟩ := not_free hf
    rw [H.onItem hq h] at ho; cases ho
theorem Rep.onHead (H : Rep σ r) (hq : q < 2) : onL σ q = !(r q).isEmpty := by
  unfold onL
  rw [H.first hq]
  cases e : r q with
  | nil => simp
  | cons x l =>
    have := H.rng q hq x (by rw [e]; exact .head _)
    show (x != q) = true
    simp; omega
theorem Rep.wfHead (H : Rep σ r) (hq : q < 2) : Wf σ q := by
  intro ho
  rw [H.onHead hq] at ho
  rw [H.first hq, H.last hq]
  cases e : r q with
  | nil => rfl
  | cons x l => rw [e] at ho; cases ho

theorem Rep.append (H : Rep σ r) (hq : q < 2) (h2 : 2 ≤ j) (h8 : j < 8) (hf : free r j) : Rep (σ.insB q j ((r q).getLastD q)) (r.up q (r q ++ [j])) := by
  obtain ⟨P, k, hP, hk⟩ := split_last q (r q)
  rw [← hk]
  have hkm : k = q ∨ k ∈ r q := by
    have : k ∈ q :: r q := by rw [hP]; simp
    simpa using this
  have hkj : k ≠ j := by
    rcases hkm with rfl | hkm
    · omega
    · exact fun z => hf.no hq (z ▸ hkm)
  have hqj : q ≠ j := by omega
  have hnr : ∀ i ∈ r q, i ≠ q := fun i hi z => by have := H.rng q hq i hi; omega
  have hdq : (q :: r q).Nodup := List.nodup_cons.mpr ⟨fun z => hnr q z rfl, H.nd q hq⟩
  refine ⟨fun p hp => ?_, fun i h0 h1 => ?_, fun p hp i hi => ?_, fun p hp => ?_, fun i i2 i8 h0 h1 => ?_⟩
  · unfold Rows2.up
    split
    · refine List.nodup_append.mpr ⟨H.nd q hq, by simp, fun a ha b hb => ?_⟩
      rw [List.mem_singleton.mp hb]
      exact fun z => hf.no hq (z ▸ ha)
    · exact H.nd p hp
  · unfold Rows2.up at h0 h1
    split at h0 <;> split at h1
    · omega
    · rcases List.mem_append.mp h0 with h0 | h0
      · have e : 0 = q := by assumption
        subst e; exact H.dj i h0 h1
      · rw [List.mem_singleton.mp h0] at h1; exact hf.2 h1
    · rcases List.mem_append.mp h1 with h1 | h1
      · have e : 1 = q := by assumption
        subst e; exact H.dj i h0 h1
      · rw [List.mem_singleton.mp h1] at h0; exact hf.1 h0
    · exact H.dj i h0 h1
  · unfold Rows2.up at hi
    split at hi
    · rcases List.mem_append.mp hi with hi | hi
      · exact H.rng q hq i hi
      · rw [List.mem_singleton.mp hi]; exact ⟨h2, h8⟩
    · exact H.rng p hp i hi
  · unfold Rows2.up
    split
    · rename_i e
      subst e
      have e1 : p :: (r p ++ [j]) ++ [p] = P ++ k :: ([j] ++ [p]) := by
        have := congrArg (· ++ [j, p]) hP
        simpa using this
      rw [e1]
      have h := H.ring p hp
      have e2 : p :: r p ++ [p] = P ++ k :: [p] := by
        have := congrArg (· ++ [p]) hP
        simpa using this
      rw [e2] at h
      have h' := ch_app.mp h
      rw [ch_app]
      refine ⟨ch_congr h'.1 (fun i hi => ?_) fun i hi => ?_, ⟨?_, ?_⟩, ⟨?_, ?_⟩, trivial⟩
      · rw [List.dropLast_concat] at hi
        have hd' := hdq
        rw [hP] at hd'
        have hik : i ≠ k := (List.nodup_append.mp hd').2.2 i hi k (by simp)
        have him : i ∈ p :: r p := by rw [hP]; exact List.mem_append_left _ hi
        have hij : i ≠ j := by
          rcases List.mem_cons.mp him with rfl | him
          · exact hqj
          · exact fun z => hf.no hp (z ▸ him)
        rw [insB_nx hkj, if_neg hik, if_neg hij]
      · rw [← hP] at hi
        have hij : i ≠ j := fun z => hf.no hp (z ▸ hi)
        rw [insB_pv hqj, if_neg hij, if_neg (hnr i hi)]
      · rw [insB_nx hkj, if_pos rfl]
      · rw [insB_pv hqj, if_pos rfl]
      · rw [insB_nx hkj, if_neg (Ne.symm hkj), if_pos rfl]
      · rw [insB_pv hqj, if_neg hqj, if_pos rfl]
    · rename_i hpq
      have hki : ∀ i, i = p ∨ i ∈ r p → i ≠ k ∧ i ≠ j ∧ i ≠ q := fun i hi => by
        have hij : i ≠ j := by
          rcases hi with rfl | hi
          · omega
          · exact fun z => hf.no hp (z ▸ hi)
        have hiq : i ≠ q := by
          rcases hi with rfl | hi
          · exact hpq
          · intro z; have := H.rng p hp i hi; omega
        refine ⟨fun z => ?_, hij, hiq⟩
        rcases hkm with e | hkm
        · exact hiq (z.trans e)
        · rcases hi with e | hi
          · have := H.rng q hq k hkm; omega
          · exact H.djq hq hp (Ne.symm hpq) hkm (z ▸ hi)
      refine ch_congr (H.ring p hp) (fun i hi => ?_) fun i hi => ?_
      · rw [List.dropLast_concat] at hi
        obtain ⟨a, b, _⟩ := hki i (List.mem_cons.mp hi)
        rw [insB_nx hkj, if_neg a, if_neg b]
      · have : i ∈ r p ++ [p] := hi
        obtain ⟨a, b, d⟩ := hki i (by rcases List.mem_append.mp this with h | h; exact .inr h; exact .inl (List.mem_singleton.mp h))
        rw [insB_pv hqj, if_neg b, if_neg d]
  · have hiq : ∀ p, p < 2 → i ∉ (r.up q (r q ++ [j])) p → i ∉ r p := fun p hp h z => h (by
      unfold Rows2.up
      split
      · rename_i e; subst e; exact List.mem_append_left _ z
      · exact z)
    have hij : i ≠ j := fun z => by
      have : q = 0 ∨ q = 1 := by omega
      rcases this with rfl | rfl
      · exact h0 (by unfold Rows2.up; simp [z])
      · exact h1 (by unfold Rows2.up; simp [z])
    have hik : i ≠ k := fun z => by
      rcases hkm with e | hkm
      · omega
      · have : q = 0 ∨ q = 1 := by omega
        rcases this with rfl | rfl
        · exact hiq 0 (by decide) h0 (z ▸ hkm)
        · exact hiq 1 (by decide) h1 (z ▸ hkm)
    rw [insB_nx hkj, insB_pv hqj, if_neg hik, if_neg hij, if_neg hij, if_neg (by omega)]
    exact H.off i i2 i8 (hiq 0 (by decide) h0) (hiq 1 (by decide) h1)

theorem Rep.prepend (H : Rep σ r) (hq : q < 2) (h2 : 2 ≤ j) (h8 : j < 8) (hf : free r j) : Rep (σ.ins q j ((r q).headD q)) (r.up q (j :: r q)) := by
  obtain ⟨k, N, hN, hk⟩ := split_first q (r q)
  rw [← hk]
  have hkm : k = q ∨ k ∈ r q := by
    have : k ∈ r q ++ [q] := by rw [hN]; simp
    rcases List.mem_append.mp this with h | h
    · exact .inr h
    · exact .inl (List.mem_singleton.mp h)
  have hkj : k ≠ j := by
    rcases hkm with rfl | hkm
    · omega
    · exact fun z => hf.no hq (z ▸ hkm)
  have hqj : q ≠ j := by omega
  have hnr : ∀ i ∈ r q, i ≠ q := fun i hi z => by have := H.rng q hq i hi; omega
  have hdq : (r q ++ [q]).Nodup := List.nodup_append.mpr ⟨H.nd q hq, by simp, fun a ha b hb => by rw [List.mem_singleton.mp hb]; exact hnr a ha⟩
  refine ⟨fun p hp => ?_, fun i h0 h1 => ?_, fun p hp i hi => ?_, fun p hp => ?_, fun i i2 i8 h0 h1 => ?_⟩
  · unfold Rows2.up
    split
    · exact List.nodup_cons.mpr ⟨hf.no hq, H.nd q hq⟩
    · exact H.nd p hp
  · unfold Rows2.up at h0 h1
    split at h0 <;> split at h1
    · omega
    · rcases List.mem_cons.mp h0 with h0 | h0
      · rw [h0] at h1; exact hf.2 h1
      · have e : 0 = q := by assumption
        subst e; exact H.dj i h0 h1
    · rcases List.mem_cons.mp h1 with h1 | h1
      · rw [h1] at h0; exact hf.1 h0
      · have e : 1 = q := by assumption
        subst e; exact H.dj i h0 h1
    · exact H.dj i h0 h1
  · unfold Rows2.up at hi
    split at hi
    · rcases List.mem_cons.mp hi with hi | hi
      · rw [hi]; exact ⟨h2, h8⟩
      · exact H.rng q hq i hi
    · exact H.rng p hp i hi
  · unfold Rows2.up
    split
    · rename_i e
      subst e
      have e1 : p :: (j :: r p) ++ [p] = p :: j :: k :: N := by rw [← hN]; rfl
      rw [e1]
      have h := H.ring p hp
      have e2 : p :: r p ++ [p] = p :: k :: N := by rw [← hN]; rfl
      rw [e2] at h
      refine ⟨⟨?_, ?_⟩, ⟨?_, ?_⟩, ch_congr h.2 (fun i hi => ?_) fun i hi => ?_⟩
      · rw [ins_nx hqj, if_neg hqj, if_pos rfl]
      · rw [ins_pv hkj, if_neg (Ne.symm hkj), if_pos rfl]
      · rw [ins_nx hqj, if_pos rfl]
      · rw [ins_pv hkj, if_pos rfl]
      · rw [← hN, List.dropLast_concat] at hi
        rw [ins_nx hqj, if_neg (fun (z : i = j) => hf.no hp (z ▸ hi)), if_neg (hnr i hi)]
      · have hi' : i ∈ N := hi
        have hd' := hdq
        rw [hN] at hd'
        have hik : i ≠ k := fun z => (List.nodup_cons.mp hd').1 (z ▸ hi')
        have him : i ∈ r p ++ [p] := by rw [hN]; exact .tail _ hi'
        have hij : i ≠ j := by
          rcases List.mem_append.mp him with him | him
          · exact fun z => hf.no hp (z ▸ him)
          · rw [List.mem_singleton.mp him]; exact hqj
        rw [ins_pv hkj, if_neg hik, if_neg hij]
    · rename_i hpq
      have hki : ∀ i, i = p ∨ i ∈ r p → i ≠ k ∧ i ≠ j ∧ i ≠ q := fun i hi => by
        have hij : i ≠ j := by
          rcases hi with rfl | hi
          · omega
          · exact fun z => hf.no hp (z ▸ hi)
        have hiq : i ≠ q := by
          rcases hi with rfl | hi
          · exact hpq
          · intro z; have := H.rng p hp i hi; omega
        refine ⟨fun z => ?_, hij, hiq⟩
        rcases hkm with e | hkm
        · exact hiq (z.trans e)
        · rcases hi with e | hi
          · have := H.rng q hq k hkm; omega
          · exact H.djq hq hp (Ne.symm hpq) hkm (z ▸ hi)
      refine ch_congr (H.ring p hp) (fun i hi => ?_) fun i hi => ?_
      · rw [List.dropLast_concat] at hi
        obtain ⟨a, b, d⟩ := hki i (List.mem_cons.mp hi)
        rw [ins_nx hqj, if_neg b, if_neg d]
      · have : i ∈ r p ++ [p] := hi
        obtain ⟨a, b, d⟩ := hki i (by rcases List.mem_append.mp this with h | h; exact .inr h; exact .inl (List.mem_singleton.mp h))
        rw [ins_pv hkj, if_neg a, if_neg b]
  · have hiq : ∀ p, p < 2 → i ∉ (r.up q (j :: r q)) p → i ∉ r p := fun p hp h z => h (by
      unfold Rows2.up
      split
      · rename_i e; subst e; exact .tail _ z
      · exact z)
    have hij : i ≠ j := fun z => by
      have : q = 0 ∨ q = 1 := by omega
      rcases this with rfl | rfl
      · exact h0 (by unfold Rows2.up; simp [z])
      · exact h1 (by unfold Rows2.up; simp [z])
    have hik : i ≠ k := fun z => by
      rcases hkm with e | hkm
      · omega
      · have : q = 0 ∨ q = 1 := by omega
        rcases this with rfl | rfl
        · exact hiq 0 (by decide) h0 (z ▸ hkm)
        · exact hiq 1 (by decide) h1 (z ▸ hkm)
    rw [ins_nx hqj, ins_pv hkj, if_neg hik, if_neg hij, if_neg hij, if_neg (by omega)]
    exact H.off i i2 i8 (hiq 0 (by decide) h0) (hiq 1 (by decide) h1)

theorem Rep.remove (H : Rep σ r) (hq : q < 2) {l1 l2 : List Nat} (e : r q = l1 ++ j :: l2) : Rep (σ.cut j (l1.getLastD q) (l2.headD q)) (r.up q (l1 ++ l2)) := by
  obtain ⟨P, p, hP, hp⟩ := split_last q l1
  obtain ⟨n, N, hN, hn⟩ := split_first q l2
  rw [← hp, ← hn]
  have hnd := H.nd q hq
  rw [e] at hnd
  have hjm : j ∈ r q := by rw [e]; simp
  have hjr := H.rng q hq j hjm
  have hsub : ∀ i, i ∈ l1 ++ l2 → i ∈ r q ∧ i ≠ j := fun i hi => by
    have hd := List.nodup_append.mp hnd
    have hj2 := (List.nodup_cons.mp hd.2.1).1
    rcases List.mem_append.mp hi with hi | hi
    · exact ⟨by rw [e]; exact List.mem_append_left _ hi, hd.2.2 i hi j (.head _)⟩
    · exact ⟨by rw [e]; exact List.mem_append_right _ (.tail _ hi), fun z => hj2 (z ▸ hi)⟩
  have hnr : ∀ i ∈ r q, i ≠ q := fun i hi z => by have := H.rng q hq i hi; omega
  have hpm : p = q ∨ p ∈ l1 := by
    have : p ∈ q :: l1 := by rw [hP]; simp
    exact List.mem_cons.mp this
  have hnm : n = q ∨ n ∈ l2 := by
    have : n ∈ l2 ++ [q] := by rw [hN]; simp
    rcases List.mem_append.mp this with h | h
    · exact .inr h
    · exact .inl (List.mem_singleton.mp h)
  have hup : ∀ i p', i ∈ (r.up q (l1 ++ l2)) p' → i ∈ r p' ∧ i ≠ j ∨ (p' ≠ q ∧ i ∈ r p') := fun i p' hi => by
    unfold Rows2.up at hi
    split at hi
    · rename_i e'; subst e'; exact .inl (hsub i hi)
    · rename_i e'; exact .inr ⟨e', hi⟩
  have hup' : ∀ i p', i ∈ (r.up q (l1 ++ l2)) p' → i ∈ r p' := fun i p' hi => (hup i p' hi).elim (·.1) (·.2)
  refine ⟨fun p' hp' => ?_, fun i h0 h1 => H.dj i (hup' i 0 h0) (hup' i 1 h1), fun p' hp' i hi => H.rng p' hp' i (hup' i p' hi), fun p' hp' => ?_, fun i i2 i8 h0 h1 => ?_⟩
  · unfold Rows2.up
    split
    · have hd := List.nodup_append.mp hnd
      exact List.nodup_append.mpr ⟨hd.1, (List.nodup_cons.mp hd.2.1).2, fun a ha b hb => hd.2.2 a ha b (.tail _ hb)⟩
    · exact H.nd p' hp'
  · unfold Rows2.up
    split
    · rename_i e'
      subst e'
      have e1 : p' :: (l1 ++ l2) ++ [p'] = P ++ p :: n :: N := by
        have := congrArg (· ++ (n :: N)) hP
        rw [← hN] at this ⊢
        simpa using this
      rw [e1]
      have h := H.ring p' hp'
      have e2 : p' :: r p' ++ [p'] = P ++ p :: j :: n :: N := by
        have := congrArg (· ++ (j :: n :: N)) hP
        rw [← hN] at this ⊢
        rw [e]
        simpa using this
      rw [e2] at h
      have h' := ch_app.mp h
      have hd := List.nodup_append.mp hnd
      have hl1q : p' ∉ l1 := fun z => hnr p' (by rw [e]; exact List.mem_append_left _ z) rfl
      have hdp : (p' :: l1).Nodup := List.nodup_cons.mpr ⟨hl1q, hd.1⟩
      have hl2q : p' ∉ l2 := fun z => hnr p' (by rw [e]; exact List.mem_append_right _ (.tail _ z)) rfl
      have hdn : (l2 ++ [p']).Nodup := List.nodup_append.mpr ⟨(List.nodup_cons.mp hd.2.1).2, by simp, fun a ha b hb z => hl2q (by rw [List.mem_singleton.mp hb] at z; exact z ▸ ha)⟩
      have hpj : p ≠ j := by
        rcases hpm with e' | h
        · omega
        · exact (hsub p (List.mem_append_left _ h)).2
      have hnj : n ≠ j := by
        rcases hnm with e' | h
        · omega
        · exact (hsub n (List.mem_append_right _ h)).2
      rw [ch_app]
      refine ⟨ch_congr h'.1 (fun i hi => ?_) fun i hi => ?_, ⟨?_, ?_⟩, ch_congr h'.2.2.2 (fun i hi => ?_) fun i hi => ?_⟩
      · rw [List.dropLast_concat] at hi
        have him : i ∈ p' :: l1 := by rw [hP]; exact List.mem_append_left _ hi
        have hd' := hdp
        rw [hP] at hd'
        have hip : i ≠ p := (List.nodup_append.mp hd').2.2 i hi p (by simp)
        have hij : i ≠ j := by
          rcases List.mem_cons.mp him with rfl | him
          · omega
          · exact (hsub i (List.mem_append_left _ him)).2
        rw [cut_nx, if_neg hij, if_neg hip]
      · rw [← hP] at hi
        have hi' : i ∈ l1 := hi
        have hij : i ≠ j := (hsub i (List.mem_append_left _ hi')).2
        have hin : i ≠ n := fun z => by
          rcases hnm with e' | h
          · exact hl1q (by rw [← e', ← z]; exact hi')
          · exact hd.2.2 i hi' n (.tail _ h) z
        rw [cut_pv, if_neg hij, if_neg hin]
      · rw [cut_nx, if_neg hpj, if_pos rfl]
      · rw [cut_pv, if_neg hnj, if_pos rfl]
      · rw [← hN, List.dropLast_concat] at hi
        have hij : i ≠ j := (hsub i (List.mem_append_right _ hi)).2
        have hip : i ≠ p := fun z => by
          rcases hpm with e' | h
          · exact hl2q (by rw [← e', ← z]; exact hi)
          · exact hd.2.2 p h i (.tail _ hi) z.symm
        rw [cut_nx, if_neg hij, if_neg hip]
      · have hi' : i ∈ N := hi
        have hd' := hdn
        rw [hN] at hd'
        have hin : i ≠ n := fun z => (List.nodup_cons.mp hd').1 (z ▸ hi')
        have him : i ∈ l2 ++ [p'] := by rw [hN]; exact .tail _ hi'
        have hij : i ≠ j := by
          rcases List.mem_append.mp him with him | him
          · exact (hsub i (List.mem_append_right _ him)).2
          · have := List.mem_singleton.mp him; omega
        rw [cut_pv, if_neg hij, if_neg hin]
    · rename_i hpq
      have hki : ∀ i, i = p' ∨ i ∈ r p' → i ≠ p ∧ i ≠ j ∧ i ≠ n := fun i hi => by
        have hA : ∀ z, z ∈ r q → i ≠ z := fun z hz => by
          rcases hi with rfl | hi
          · intro y; have := H.rng q hq z hz; omega
          · exact fun y => H.djq hq hp' (Ne.symm hpq) hz (y ▸ hi)
        have hB : i ≠ q := by
          rcases hi with rfl | hi
          · exact hpq
          · intro z; have := H.rng p' hp' i hi; omega
        refine ⟨?_, hA j hjm, ?_⟩
        · rcases hpm with rfl | h
          · exact hB
          · exact hA p (hsub p (List.mem_append_left _ h)).1
        · rcases hnm with rfl | h
          · exact hB
          · exact hA n (hsub n (List.mem_append_right _ h)).1
      refine ch_congr (H.ring p' hp') (fun i hi => ?_) fun i hi => ?_
      · rw [List.dropLast_concat] at hi
        obtain ⟨a, b, d⟩ := hki i (List.mem_cons.mp hi)
        rw [cut_nx, if_neg b, if_neg a]
      · have : i ∈ r p' ++ [p'] := hi
        obtain ⟨a, b, d⟩ := hki i (by rcases List.mem_append.mp this with h | h; exact .inr h; exact .inl (List.mem_singleton.mp h))
        rw [cut_pv, if_neg b, if_neg d]
  · by_cases hij : i = j
    · subst hij
      rw [cut_nx, cut_pv, if_pos rfl, if_pos rfl]
      exact ⟨rfl, .inr rfl⟩
    · have hiq : ∀ p', p' < 2 → i ∉ (r.up q (l1 ++ l2)) p' → i ∉ r p' := fun p' hp' h z => h (by
        unfold Rows2.up
        split
        · rename_i e'
          subst e'
          rw [e] at z
          rcases List.mem_append.mp z with z | z
          · exact List.mem_append_left _ z
          · rcases List.mem_cons.mp z with z | z
            · exact absurd z hij
            · exact List.mem_append_right _ z
        · exact z)
      have n0 := hiq 0 (by decide) h0
      have n1 := hiq 1 (by decide) h1
      have nq : i ∉ r q := by
        have : q = 0 ∨ q = 1 := by omega
        rcases this with rfl | rfl
        · exact n0
        · exact n1
      have hip : i ≠ p := fun z => by
        rcases hpm with e' | h
        · omega
        · exact nq (z ▸ (hsub p (List.mem_append_left _ h)).1)
      have hin : i ≠ n := fun z => by
        rcases hnm with e' | h
        · omega
        · exact nq (z ▸ (hsub n (List.mem_append_right _ h)).1)
      rw [cut_nx, cut_pv, if_neg hij, if_neg hij, if_neg hip, if_neg hin]
      exact H.off i i2 i8 n0 n1
end
end Mine

namespace Mine
open PySem PySem.W PySem.Calls PyProof.Rows
example (w : World) : hd.heap_39 w.params = hd.heap_39 w.params ∧ PySem.Challenge.rw_bi0011_01 = PySem.Challenge.rw_bi0011_01 := by
  k_fill
  exact ⟨rfl, rfl⟩
local macro_rules | `(tactic| k_is) => `(tactic| (delta KF; k_is))
local macro_rules | `(tactic| walk_at "m enter") => `(tactic| (
  (case ho => k_is)
  (case hcd => k_is)
  (case hbind => exact BindsTo.of_eq rfl)
  (case hloc => exact locs rfl)
  (case hcell => decide)
  (case hco => rfl)
  (case hgen => rfl)
  (case hk => rfl)))

theorem Rep.congr {σ : NS} {r r' : Rows2} (H : Rep σ r) (e : ∀ q, q < 2 → r' q = r q) : Rep σ r' :=
  ⟨fun q hq => by rw [e q hq]; exact H.nd q hq, fun j h0 h1 => by rw [e 0 (by decide)] at h0; rw [e 1 (by decide)] at h1; exact H.dj j h0 h1,
   fun q hq j hj => by rw [e q hq] at hj; exact H.rng q hq j hj, fun q hq => by rw [e q hq]; exact H.ring q hq,
   fun j h2 h8 h0 h1 => H.off j h2 h8 (by rw [← e 0 (by decide)]; exact h0) (by rw [← e 1 (by decide)]; exact h1)⟩

def Rows2.del (r : Rows2) (j : Nat) : Rows2 := fun p => (r p).erase j

section
variable {w : World} {base : Heap} {c : Cfg 8} {σ : NS} {r : Rows2} {q j : Nat}

theorem erase_split {l1 l2 : List Nat} {j : Nat} (h : (l1 ++ j :: l2).Nodup) : (l1 ++ j :: l2).erase j = l1 ++ l2 := by
  have hd := List.nodup_append.mp h
  have : j ∉ l1 := fun z => hd.2.2 j z j (.head _) rfl
  rw [List.erase_append_right _ this, List.erase_cons_head]

theorem append_rep (X : Cx w base c) (H : Rep σ r) (hq : q < 2) (h2 : 2 ≤ j) (h8 : j < 8) (hf : free r j) : ∃ σ', Rep σ' (r.up q (r q ++ [j])) ∧ Does w base c 63 [.ref (c.na q), .ref (c.na j)] 4 40 σ σ' .none :=
  ⟨_, H.append hq h2 h8 hf, append_does X hq h8 (by omega) (H.wfItem h2 h8) (H.offItem h2 h8 hf) (H.last hq)⟩
theorem prepend_rep (X : Cx w base c) (H : Rep σ r) (hq : q < 2) (h2 : 2 ≤ j) (h8 : j < 8) (hf : free r j) : ∃ σ', Rep σ' (r.up q (j :: r q)) ∧ Does w base c 70 [.ref (c.na q), .ref (c.na j)] 4 40 σ σ' .none :=
  ⟨_, H.prepend hq h2 h8 hf, prepend_does X hq h8 (by omega) (H.wfItem h2 h8) (H.offItem h2 h8 hf) (H.first hq)⟩
theorem unlink_rep (X : Cx w base c) (H : Rep σ r) (h2 : 2 ≤ j) (h8 : j < 8) : ∃ σ', Rep σ' (r.del j) ∧ Does w base c 190 [.ref c.ka, .ref (c.na j)] 3 30 σ σ' .none := by
  by_cases hf : free r j
  · refine ⟨σ, H.congr fun p hp => ?_, unlink_off X h8 (H.wfItem h2 h8) (H.offItem h2 h8 hf)⟩
    exact List.erase_of_not_mem (hf.no hp)
  · obtain ⟨q, hq, hm⟩ := not_free hf
    obtain ⟨l1, l2, e⟩ := List.append_of_mem hm
    refine ⟨_, (H.remove hq e).congr fun p hp => ?_, unlink_on X h8 (H.wfItem h2 h8) (H.onItem hq hm) (H.prev hq e) (H.next hq e)⟩
    unfold Rows2.del Rows2.up
    split
    · rename_i z; subst z
      have := H.nd p hp
      rw [e] at this ⊢
      exact erase_split this
    · rename_i z
      exact List.erase_of_not_mem (H.djq hq hp (Ne.symm z) hm)
theorem remove_rep (X : Cx w base c) (H : Rep σ r) (hq : q < 2) (h2 : 2 ≤ j) (h8 : j < 8) : ∃ σ', Rep σ' (r.del j) ∧ Does w base c 84 [.ref (c.na q), .ref (c.na j)] 4 40 σ σ' .none :=
  let ⟨σ', H', D⟩ := unlink_rep X H h2 h8; ⟨σ', H', remove_does X hq D⟩
theorem pop_rep (X : Cx w base c) (H : Rep σ r) (hq : q < 2) : ∃ σ', Rep σ' (r.up q (r q).tail) ∧ Does w base c 91 [.ref (c.na q)] 6 60 σ σ' (match r q with | [] => .none | j :: _ => .ref (c.na j)) := by
  cases e : r q with
  | nil =>
    refine ⟨σ, H.congr fun p hp => ?_, pop_none X hq (by rw [H.first hq, e]; rfl)⟩
    unfold Rows2.up
    split
    · rename_i z; subst z; rw [e]; rfl
    · rfl
  | cons j l =>
    have hj := H.rng q hq j (by rw [e]; exact .head _)
    obtain ⟨σ', H', D⟩ := unlink_rep X H hj.1 hj.2
    refine ⟨σ', H'.congr fun p hp => ?_, pop_some X hq (by rw [H.first hq, e]; rfl) (by omega) D⟩
    unfold Rows2.up Rows2.del
    split
    · rename_i z; subst z; rw [e]; simp
    · rename_i z
      exact (List.erase_of_not_mem (H.djq hq hp (Ne.symm z) (by rw [e]; exact .head _))).symm
theorem putf_rep {b : Bool} (X : Cx w base c) (H : Rep σ r) (hq : q < 2) (h2 : 2 ≤ j) (h8 : j < 8) (hf : free r j) :
    ∃ σ', Rep σ' (r.up q (if b then j :: r q else r q ++ [j])) ∧ Does w base c 249 [.ref (c.na q), .ref (c.na j), .bool b] 5 50 σ σ' (.bool true) := by
  cases b with
  | true => obtain ⟨σ', H', D⟩ := prepend_rep X H hq h2 h8 hf; exact ⟨σ', H', put_free X hq D⟩
  | false => obtain ⟨σ', H', D⟩ := append_rep X H hq h2 h8 hf; exact ⟨σ', H', put_free X hq D⟩
theorem puth_rep {b : Bool} (X : Cx w base c) (H : Rep σ r) (hq : q < 2) (h2 : 2 ≤ j) (h8 : j < 8) (hf : ¬ free r j) :
    Does w base c 249 [.ref (c.na q), .ref (c.na j), .bool b] 5 50 σ σ (.bool false) := by
  obtain ⟨q', hq', hm⟩ := not_free hf
  exact put_held X hq h8 (H.wfItem h2 h8) (H.onItem hq' hm)
theorem on_rep (X : Cx w base c) (H : Rep σ r) (hq : q < 2) (h2 : 2 ≤ j) (h8 : j < 8) : Does w base c 56 [.ref (c.na q), .ref (c.na j)] 4 40 σ σ (.bool (decide (j ∈ r 0 ++ r 1))) := by
  have := lon_does (w := w) (base := base) X hq h8 (H.wfItem h2 h8)
  have e : onL σ j = decide (j ∈ r 0 ++ r 1) := by
    by_cases hf : free r j
    · rw [H.offItem h2 h8 hf]
      exact (decide_eq_false (fun z => (List.mem_append.mp z).elim hf.1 hf.2)).symm
    · obtain ⟨q', hq', hm⟩ := not_free hf
      rw [H.onItem hq' hm]
      refine (decide_eq_true ?_).symm
      have : q' = 0 ∨ q' = 1 := by omega
      rcases this with rfl | rfl
      · exact List.mem_append_left _ hm
      · exact List.mem_append_right _ hm
  rw [← e]; exact this
theorem empty_rep (X : Cx w base c) (H : Rep σ r) (hq : q < 2) : Does w base c 42 [.ref (c.na q)] 4 40 σ σ (.bool (r q).isEmpty) := by
  have := empty_does (w := w) (base := base) X hq (H.wfHead hq)
  rw [H.onHead hq, Bool.not_not] at this
  exact this

/-- the next of the node at hand -/
theorem Rep.cur (H : Rep σ r) (hq : q < 2) {l1 l2 : List Nat} (e : r q = l1 ++ l2) : ∃ k, (σ (l2.headD q)).nx = some k ∧ (l2.headD q) < 8 ∧ (l2 ≠ [] → k = l2.tail.headD q) := by
  cases l2 with
  | nil => exact ⟨_, H.first hq, by show q < 8; omega, fun z => absurd rfl z⟩
  | cons x l => exact ⟨_, H.next hq e, (H.rng q hq x (by rw [e]; simp)).2, fun _ => rfl⟩
end

def DoesR (w : World) (base : Heap) (c : Cfg 8) (f : Addr) (args : List Value) (d u : Nat) (r r' : Rows2) (v : Value) : Prop :=
  ∀ (prog : Program) (A : Around) (outer : List Env) (s : Shared) (R : Result → Shared → Prop) (σ : NS), Amb A outer d u → Ok base c outer s.heap → Nodes c σ s.heap → Rep σ r → AllBare s.gens →
    (∀ h' tk gens' σ', AllBare gens' → Turn c (frs outer) s.heap h' → Nodes c σ' h' → Rep σ' r' → R (.ok (.ret v)) { s with heap := h', toks := tk, gens := gens' }) → codeAny (model prog w) A (.call (.ref f) ⟨args, []⟩) R s

/-- a list is being cleared -/
def ClI (prog : Program) {w : World} {A : Around} {base h₀ h : Heap} {c : Cfg 8} {outer : List Env} {m : Str → Option Value} {σ : NS} {os : List (Addr × Obj)} {env : Env} {d u : Nat} (_ : Cx w base c)
    (_ : St base c outer h₀ env m σ os h) (_ : Amb A (env :: outer) d u) (r : Rows2) (q i : Nat) (g Lg : Addr) (nm qn : Value) (s : Shared) (n : Nat) (s' : Shared) : Prop :=
  ∃ h tk gens l σ ph gs oL m, s' = { s with heap := h, toks := tk, gens := gens } ∧ l.length = n ∧ St base c outer h₀ env m σ [(g, gobj i nm qn), (Lg, oL)] h ∧ m "self" = some (.ref (c.na q)) ∧ Rep σ (r.up q l) ∧
    CurP c q Lg ph σ h (l.headD q) ∧ gens[i]? = some gs ∧ Bb i gens ∧ GenGo prog w A.in1 base c (env :: outer) q Lg n gs ph

section
variable {w : World} {base : Heap} {c : Cfg 8} {r : Rows2} {q : Nat}
theorem clear_does (X : Cx w base c) (hq : q < 2) : DoesR w base c 49 [.ref (c.na q)] 12 120 r (r.up q []) .none := by
  intro prog A outer s R σ a ok N H hab h
  have hq8 : q < 8 := Nat.lt_of_lt_of_le hq (by decide)
  refine' enter0 (d := 11) (u := 117) [("self", .ref (c.na q))] X a ok N ?ho ?hcd ?hbind ?hloc ?hcell ?hco ?hgen ?hk ?_
  walk_at "m enter"
  intro L h₁ tk S a'
  refine wpAny_execs_cons (wpAny_For (r_name S (v := .ref (c.na q)) (by rfl) (walk_iter X (a'.mono (by decide) (by decide)) S hq fun h₂ tk₂ g Lg oL gs nm qn S₂ hLg hg F hgL go => ?_)))
  have O := S.own hLg
  refine codeAny_forLoop (ClI prog X S₂ a' r q s.gens.size g Lg nm qn s) ?_ (r q).length ?_
  · rintro n s' ⟨h₃, tk₃, gens, l, σ₃, ph, gs, oL, m₃, rfl, rfl, S₃, hm₃, H₃, C₃, hgs, hbb, go⟩
    have er : (r.up q l) q = [] ++ l := by unfold Rows2.up; rw [if_pos rfl]; rfl
    obtain ⟨k, hk, hj8, hkl⟩ := H₃.cur hq er
    refine gen_next (s := { s with heap := h₃, toks := tk₃, gens := gens }) (os := [(g, gobj s.gens.size nm qn)]) X (a'.mono (by decide) (by decide)) (S₃.sub fun p hp => by rcases List.mem_singleton.mp hp with rfl; exact .head _) (.head _) hgs O
      (fun p hp => by rcases List.mem_singleton.mp hp with rfl; exact hgL) C₃ hj8 hk go ?_ hbb ?_ ?_
    · cases l with
      | nil => exact .inl rfl
      | cons x l => exact .inr (by simp)
    · intro hjq h₄ tk₄ gens₄ hab₄ S₄
      refine wpAny_execs_nil (wpAny_execs_nil (fin_next (h _ _ _ _ hab₄ S₄.turn S₄.nodes (H₃.congr fun p hp => ?_))))
      cases l with
      | nil => rfl
      | cons x l =>
        have := H₃.rng q hq x (by unfold Rows2.up; rw [if_pos rfl]; exact .head _)
        have : x = q := hjq
        omega
    · intro hjq h₄ tk₄ gs₄ gens₄ oL₄ hbb₄ hgs₄ S₄ C₄ go₄
      cases l with
      | nil => exact absurd rfl hjq
      | cons x l =>
        have hx := H₃.rng q hq x (by unfold Rows2.up; rw [if_pos rfl]; exact .head _)
        refine wpAny_assign_Name (r_store S₄ fun h₅ S₅ => ?_)
        obtain ⟨σ', H', D⟩ := remove_rep X H₃ hq hx.1 hx.2
        refine wpAny_execs_cons (wpAny_Expr (r_head1 (s := { s with heap := h₅, toks := tk₄ + 1, gens := gens₄ }) X S₅ (l_remove w) hq (nmap_none hq (by decide) (by decide) (by decide) (by decide)) (by rw [if_neg (by decide)]; exact hm₃)
          (r_name (s := { s with heap := h₅, toks := tk₄ + 1, gens := gens₄ }) S₅ (v := .ref (c.na x)) (by rw [if_pos rfl]; rfl) ⟨S₅.K X, ?_⟩)))
        refine call_does (s := { s with heap := h₅, toks := tk₄ + 1, gens := gens₄ }) X D (a'.mono (by decide) (by decide)) S₅ fun h₆ tk₆ S₆ => ?_
        refine wpAny_execs_nil ⟨l.length, Nat.lt_succ_self _, h₆, tk₆, gens₄, l, σ', true, gs₄, oL₄, _, rfl, rfl, S₆.sub ?_, (by rw [if_neg (by decide)]; exact hm₃), H'.congr fun p hp => ?_, ?_, hgs₄, hbb₄, go₄⟩
        · intro p hp
          rcases List.mem_cons.mp hp with rfl | hp
          · exact .tail _ (.head _)
          · rcases List.mem_singleton.mp hp with rfl; exact .head _
        · unfold Rows2.up Rows2.del
          dsimp only
          split
          · simp
          · rename_i z
            refine (List.erase_of_not_mem (H₃.djq hq hp (Ne.symm z) (by unfold Rows2.up; rw [if_pos rfl]; exact .head _) |> fun y => ?_)).symm
            unfold Rows2.up at y
            rw [if_neg z] at y
            exact y
        · have hkx := hkl (by simp)
          subst hkx
          unfold CurP
          rw [if_pos rfl]
          obtain ⟨m', b1, b2⟩ := C₄
          exact ⟨m', by
            have e4 := S₄.get (a := Lg) (.head _)
            have e6 := S₆.get (a := Lg) (.head _)
            exact b1.at fun o e => by rw [e4] at e; cases e; exact e6, b2⟩
  · refine ⟨h₂, tk₂, _, r q, σ, false, gs, oL, _, rfl, rfl, S₂, rfl, H.congr fun p hp => ?_, ?_, ?_, bb_push hab, go _ ?_ _⟩
    · unfold Rows2.up
      split
      · rename_i z; rw [z]
      · rfl
    · exact ⟨F, H.first hq⟩
    · exact Array.getElem?_push_size
    · exact (a'.mono (by decide) (by decide) : Amb _ _ 10 101).in1
end
end Mine

namespace Mine
open PySem PySem.W PySem.Calls PyProof.Rows PySem.SeqAt

def lO (vs : List Value) (n : Nat) : Obj := { cls := .type "list", dict := none, data := .seq vs.toArray n, slots := #[] }
abbrev rO (c : Cfg 8) (l : List Nat) (n : Nat) : Obj := lO (l.map (num c)) n

theorem lO_list {h : Heap} {a : Addr} {vs : List Value} {n : Nat} (e : h.get? a = some (lO vs n)) : h.IsList a vs.toArray := ⟨_, e, rfl, n, rfl⟩

def isN (k : Int) : Value → Bool
  | .int a _ => a == k
  | _ => false
theorem all_true {k : Nat} : ((List.range k).all fun _ => true) = true := by rw [List.all_eq_true]; intros; rfl
theorem eq_num {c : Cfg 8} {l : List Nat} {k : Int} {t : Tok} : ∀ y, y ∈ (l.map (num c)).toArray → MeetsSeq.EqGives y (.int k t) (isN k y) := by
  intro y hy
  obtain ⟨j, _, rfl⟩ := List.mem_map.mp (by simpa using hy)
  exact MeetsSeq.EqGives.int _ k _ t
theorem any_num {c : Cfg 8} {l : List Nat} {j : Nat} : (l.map (num c)).toArray.any (isN ((j : Int) - 1)) = decide (j ∈ l) := by
  rw [List.any_toArray]
  induction l with
  | nil => rfl
  | cons x l ih =>
    rw [List.map_cons, List.any_cons, ih]
    show (((x : Int) - 1 == (j : Int) - 1) || decide (j ∈ l)) = _
    by_cases q : x = j
    · subst q; simp
    · have h1 : ((x : Int) - 1 == (j : Int) - 1) = false := by simp; omega
      have h2 : ¬ j = x := fun z => q z.symm
      rw [h1]; simp [h2]

section
variable {prog : Program} {w : World} {A : Around} {E : Value → Shared → Prop} {s : Shared} {c : Cfg 8} {a b : Addr} {l l' l1 l2 : List Nat} {n n' j : Nat} {vs : List Value}

theorem l_method {name : Str} {id : String} {pl : Sem Bool} {Q : Value × List Value → Shared → Prop} (e : s.heap.get? a = some (lO vs n)) (slot : Slot "list" name id) (hty : typeOf (.builtin id) = pure (.type "method_descriptor"))
    (h : Q (.builtin id, [.ref a]) s) : wpAny (model prog w) A (getMethod (.ref a) name pl) Q E s :=
  getMethod_builtin ⟨_, e, rfl⟩ PySem.F.plainAttrs_list slot hty (fun x q => by cases q; exact ⟨_, e, rfl⟩) h

theorem in_row {Q : Value → Shared → Prop} (e : s.heap.get? a = some (rO c l n)) (h : Q (.bool (decide (j ∈ l))) s) : wpAny (model prog w) A (compareOp .In (num c j) (.ref a)) Q E s :=
  SeqInW.in_listW (isN ((j : Int) - 1)) eq_num (lO_list e) (by rw [any_num]; exact h)
theorem notIn_row {Q : Value → Shared → Prop} (e : s.heap.get? a = some (rO c l n)) (h : Q (.bool (!decide (j ∈ l))) s) : wpAny (model prog w) A (compareOp .NotIn (num c j) (.ref a)) Q E s :=
  SeqInW.notIn_listW (isN ((j : Int) - 1)) eq_num (lO_list e) (by rw [any_num]; exact h)

theorem add_rows {Q : Value → Shared → Prop} (e : s.heap.get? a = some (rO c l n)) (e' : s.heap.get? b = some (rO c l' n')) (hz : l.length + l'.length ≤ 500)
    (h : ∀ h', Keeps s.heap h' → s.heap.get? s.heap.objs.size = none → h'.get? s.heap.objs.size = some (rO c (l ++ l') 0) → Q (.ref s.heap.objs.size) { s with heap := h' }) : wpAny (model prog w) A (binaryOp .Add (.ref a) (.ref b)) Q E s := by
  refine PySem.P.add_list e e' (h _ (fun _ _ e => Heap.get?_push_of_some _ e) (Heap.get?_none_of_le (Nat.le_refl _)) ((Heap.get?_push_size _ rfl).trans ?_)) ?_
  · unfold rO lO
    rw [List.map_append]
    simp
  · rw [sizeLine_eq]; simp; omega

theorem upd_list {f : Array Value → Array Value} {vs' : List Value} {h : Heap} (e : h.get? a = some (lO vs n)) (hf : f vs.toArray = vs'.toArray) : ∃ n', (h.update a (Obj.mapSeq f)).get? a = some (lO vs' n') := by
  have := PySem.IsL.update e f
  rw [hf] at this
  exact ⟨_, this⟩

theorem append_list {v : Value} {Q : Value → Shared → Prop} (e : s.heap.get? a = some (lO vs n)) (hz : vs.length ≤ 500)
    (h : ∀ h' n', Heap.SameBut a s.heap h' → h'.get? a = some (lO (vs ++ [v]) n') → Q .none { s with heap := h' }) : wpAny (model prog w) A (call (.builtin "list.append") [.ref a, v]) Q E s := by
  obtain ⟨n', e'⟩ := upd_list (f := fun x => x.push v) (vs' := vs ++ [v]) e (by simp)
  exact call_meets PySem.F.slot_list_append ⟨_, e, rfl⟩ PySem.F.entry_list_append (PySem.F.args_list_append_2 _ _) (PySem.list_append a vs.toArray n v (by rw [sizeLine_eq]; simp; omega)) ⟨e, h _ n' (Heap.SameBut.update ..) e'⟩

theorem insert_list {v : Value} {i : Nat} {t : Tok} {x : Int} {Q : Value → Shared → Prop} (e : s.heap.get? a = some (lO vs n)) (hz : vs.length ≤ 500) (hi : i ≤ vs.length) (hx : x = (i : Int))
    (h : ∀ h' n', Heap.SameBut a s.heap h' → h'.get? a = some (lO (vs.take i ++ v :: vs.drop i) n') → Q .none { s with heap := h' }) : wpAny (model prog w) A (call (.builtin "list.insert") [.ref a, .int x t, v]) Q E s := by
  have hf0 : 0 ≤ x := by omega
  have hf1 : x < 2 ^ 63 := by
    have : x ≤ 500 := by omega
    exact Int.lt_of_le_of_lt this (by decide)
  have hf : Builtin.List.listFitsIndex x = true := fitsIndex_of hf0 hf1
  have hz' : vs.toArray.size ≤ sizeLine := by rw [sizeLine_eq, List.size_toArray]; omega
  have hc : ¬(!Builtin.List.listFitsIndex x) = true := by rw [hf]; exact Bool.false_ne_true
  have M := PySem.AutoSeq1.list_insert_list_int_val_1 a vs.toArray n x t v hc hz'
  refine call_meets PySem.F.slot_list_insert ⟨_, e, rfl⟩ PySem.F.entry_list_insert (PySem.F.args_list_insert_3 _ _ _) M ⟨e, ?_⟩
  obtain ⟨n', e'⟩ := upd_list (f := fun xs => have k := if x < 0 then (x + (xs.size : Int)).toNat else min x.toNat xs.size; (xs.extract 0 k).push v ++ xs.extract k) (vs' := vs.take i ++ v :: vs.drop i) e (by
    have e1 : (if x < 0 then (x + (vs.toArray.size : Int)).toNat else min x.toNat vs.toArray.size) = i := by
      rw [if_neg (by omega), List.size_toArray]; omega
    show (vs.toArray.extract 0 (if x < 0 then (x + (vs.toArray.size : Int)).toNat else min x.toNat vs.toArray.size)).push v ++ vs.toArray.extract (if x < 0 then (x + (vs.toArray.size : Int)).toNat else min x.toNat vs.toArray.size) = _
    rw [e1]
    exact kl_ins_eq vs i v)
  exact h _ n' (Heap.SameBut.update ..) e'

theorem pop0_list {v : Value} {t : Tok} {Q : Value → Shared → Prop} (e : s.heap.get? a = some (lO (v :: vs) n)) (hz : vs.length ≤ 500)
    (h : ∀ h' n', Heap.SameBut a s.heap h' → h'.get? a = some (lO vs n') → Q v { s with heap := h' }) : wpAny (model prog w) A (call (.builtin "list.pop") [.ref a, .int 0 t]) Q E s := by
  obtain ⟨n', e'⟩ := upd_list (f := fun x => x.eraseIdxIfInBounds 0) (vs' := vs) e (by
    apply Array.toList_inj.mp
    simp [Array.toList_eraseIdxIfInBounds])
  exact call_meets PySem.F.slot_list_pop ⟨_, e, rfl⟩ PySem.F.entry_list_pop (PySem.F.args_list_pop_2 _ _) (PySem.MeetsSeq.list_pop_at a _ n 0 t 0 v (by decide) (by simp [seqIndex?]) (by simp) (by rw [sizeLine_eq]; simp; omega)) ⟨e, h _ n' (Heap.SameBut.update ..) e'⟩

theorem num_at (hl : l = l1 ++ j :: l2) : (l.map (num c)).toArray[l1.length]? = some (num c j) := by
  subst hl
  simp

theorem first_at (hl : l = l1 ++ j :: l2) (hn : j ∉ l1) (i : Nat) (hi : i < (l.map (num c)).toArray.size) (hlt : i < l1.length) : isN ((j : Int) - 1) (l.map (num c)).toArray[i] = false := by
  subst hl
  have : ((l1 ++ j :: l2).map (num c)).toArray[i] = num c (l1[i]) := by
    simp [hlt]
  rw [this]
  show ((l1[i] : Int) - 1 == (j : Int) - 1) = false
  have hm : l1[i] ∈ l1 := List.getElem_mem hlt
  have : l1[i] ≠ j := fun z => hn (z ▸ hm)
  simp; omega

theorem index_row {Q : Value → Shared → Prop} (e : s.heap.get? a = some (rO c l n)) (hl : l = l1 ++ j :: l2) (hn : j ∉ l1) (hz : l.length ≤ 500) (h : Q (.int l1.length s.toks) { s with toks := s.toks + 1 }) :
    wpAny (model prog w) A (call (.builtin "list.index") [.ref a, num c j]) Q E s := by
  have hlen : l1.length < (l.map (num c)).toArray.size := by subst hl; simp
  have hj : (l.map (num c)).toArray[l1.length] = num c j := by
    have := num_at (c := c) hl
    rw [Array.getElem?_eq_getElem hlen] at this
    injection this
  refine call_meets PySem.F.slot_list_index ⟨_, e, rfl⟩ PySem.F.entry_list_index (PySem.F.args_list_index_2 _ _) (MeetsSeq.list_index a _ n (num c j) (isN ((j : Int) - 1)) eq_num l1.length hlen (by
    subst hl; simp at hz; omega) (by rw [hj]; show ((j : Int) - 1 == (j : Int) - 1) = true; simp) (fun i hi hlt => first_at hl hn i hi hlt)) ⟨e, h⟩

theorem remove_row {Q : Value → Shared → Prop} (e : s.heap.get? a = some (rO c l n)) (hm : j ∈ l) (hd : l.Nodup) (hz : l.length ≤ 500)
    (h : ∀ h' n', Heap.SameBut a s.heap h' → h'.get? a = some (rO c (l.erase j) n') → Q .none { s with heap := h' }) : wpAny (model prog w) A (call (.builtin "list.remove") [.ref a, num c j]) Q E s := by
  obtain ⟨l1, l2, hl⟩ := List.append_of_mem hm
  have hn : j ∉ l1 := fun z => by rw [hl] at hd; exact (List.nodup_append.mp hd).2.2 j z j (.head _) rfl
  have hlen : l1.length < (l.map (num c)).toArray.size := by rw [hl]; simp
  have hj : (l.map (num c)).toArray[l1.length] = num c j := by
    have := num_at (c := c) hl
    rw [Array.getElem?_eq_getElem hlen] at this
    injection this
  obtain ⟨n', e'⟩ := upd_list (f := fun x => x.eraseIdxIfInBounds l1.length) (vs' := (l.erase j).map (num c)) e (by
    have : l.erase j = l1 ++ l2 := by rw [hl] at hd ⊢; exact erase_split hd
    rw [this, hl]
    apply Array.toList_inj.mp
    simp [Array.toList_eraseIdxIfInBounds, List.eraseIdx_append])
  exact call_meets PySem.F.slot_list_remove ⟨_, e, rfl⟩ PySem.F.entry_list_remove (PySem.F.args_list_remove_2 _ _)
    (MeetsSeq.list_remove a _ n (num c j) (isN ((j : Int) - 1)) eq_num l1.length hlen (by rw [hj]; show ((j : Int) - 1 == (j : Int) - 1) = true; simp) (fun i hi hlt => first_at hl hn i hi hlt) (by rw [sizeLine_eq]; simp; omega))
    ⟨e, h _ n' (Heap.SameBut.update ..) e'⟩

theorem item_list {v : Value} {i : Nat} {t : Tok} {Q : Value → Shared → Prop} (e : s.heap.get? a = some (lO vs n)) (hi : i < 500) (hv : vs[i]? = some v) (h : Q v s) : wpAny (model prog w) A (getItem (.ref a) (.int i t)) Q E s :=
  wpAny_getItem_list (lO_list e) (by omega) (by omega) (by simpa using hv) h

theorem truthy_list {Q : Bool → Shared → Prop} (e : s.heap.get? a = some (lO vs n)) (hz : vs.length ≤ 500) (h : Q (!vs.isEmpty) { s with toks := s.toks + 1 + 1 }) : wpAny (model prog w) A (truthy (.ref a)) Q E s :=
  wpAny_truthy_list (lO_list e) (by simp; omega) (by simpa using h)

theorem len_list {Q : Value → Shared → Prop} (e : s.heap.get? a = some (lO vs n)) (hz : vs.length ≤ 500) (h : Q (.int vs.length (s.toks + 1)) { s with toks := s.toks + 1 + 1 }) : wpAny (model prog w) A (call (.builtin "len") [.ref a]) Q E s :=
  call_len_list (lO_list e) (by simp; omega) (by simpa using h)

theorem eq_rows {Q : Value → Shared → Prop} (e : s.heap.get? a = some (rO c l n)) (e' : s.heap.get? b = some (rO c l' n')) (hu : A.units < cLine) (h : Q (.bool (l == l')) s) : wpAny (model prog w) A (compareOp .Eq (.ref a) (.ref b)) Q E s := by
  by_cases q : l = l'
  · subst q
    rw [beq_self_eq_true] at h
    refine eq_listAt (e := fun _ => true) (lO_list e) (lO_list e') rfl hu (fun j h1 h2 => EqAt.same _) ?_
    rw [all_true]; exact h
  · have hb : (l == l') = false := by simpa using q
    rw [hb] at h
    by_cases z : l.length = l'.length
    · refine eq_listAt (e := fun i => l[i]? == l'[i]?) (lO_list e) (lO_list e') (by simp [z]) hu (fun j h1 h2 => ?_) ?_
      · have h1' : j < l.length := by simpa using h1
        have h2' : j < l'.length := by simpa using h2
        have ea : (l.map (num c)).toArray[j] = num c l[j] := by simp
        have eb : (l'.map (num c)).toArray[j] = num c l'[j] := by simp
        rw [ea, eb]
        have := EqAt.int_int (A := A.in1) (s := s) ((l[j] : Int) - 1) (c.tk l[j]) ((l'[j] : Int) - 1) (c.tk l'[j])
        have e2 : (((l[j] : Int) - 1) == ((l'[j] : Int) - 1)) = (l[j]? == l'[j]?) := by
          rw [List.getElem?_eq_getElem h1', List.getElem?_eq_getElem h2']
          by_cases y : l[j] = l'[j]
          · rw [y]; simp
          · have y1 : ¬ ((l[j] : Int) - 1 = (l'[j] : Int) - 1) := by omega
            have y2 : (((l[j] : Int) - 1) == ((l'[j] : Int) - 1)) = false := beq_eq_false_iff_ne.mpr y1
            have y3 : (some l[j] == some l'[j]) = false := beq_eq_false_iff_ne.mpr fun z => y (by injection z)
            rw [y2, y3]
        rw [e2] at this
        exact this
      · have : (List.range (l.map (num c)).toArray.size).all (fun i => l[i]? == l'[i]?) = false := by
          rw [List.all_eq_false]
          apply Classical.byContradiction
          intro hc
          apply q
          apply List.ext_getElem?
          intro i
          by_cases hi : i < l.length
          · apply Classical.byContradiction
            intro hne
            exact hc ⟨i, by simpa using hi, by simpa using hne⟩
          · rw [List.getElem?_eq_none (by omega), List.getElem?_eq_none (by omega)]
        rw [this]; exact h
    · exact eq_list_lengthsAt (lO_list e) (lO_list e') (by simp [z]) hu h

theorem ne_rows {Q : Value → Shared → Prop} (e : s.heap.get? a = some (rO c l n)) (e' : s.heap.get? b = some (rO c l n')) (hu : A.units < cLine) (h : Q (.bool false) s) : wpAny (model prog w) A (compareOp .NotEq (.ref a) (.ref b)) Q E s := by
  refine RcNeAt.lists (e := fun _ => true) (lO_list e) (lO_list e') rfl hu (fun j h1 h2 => EqAt.same _) prog w E Q ?_
  rw [all_true]; exact h

theorem slice_row {env : Env} {value lower : Expr} {p pos : Pos} {Q : Value → Shared → Prop} {i : Nat}
    (h : wpAny (model prog w) A (eval value env) (fun o s₁ => wpAny (model prog w) A (evalPart (some lower) env) (fun vl s₂ =>
      ∃ a vs n t, o = .ref a ∧ s₂.heap.get? a = some (lO vs n) ∧ vs.length ≤ 500 ∧ vl = .int i t ∧ i ≤ vs.length ∧
        ∀ h' b, Keeps s₂.heap h' → s₂.heap.get? b = none → h'.get? b = some (lO (vs.drop i) 0) → Q (.ref b) { s₂ with heap := h' }) E s₁) E s)
    (ht : ∀ o r, letTemporaryGo value o r = pure () := by intro _ _; rfl) :
    wpAny (model prog w) A (eval (.Subscript value (.Slice (some lower) none none p) pos) env) Q E s := by
  refine wpAny_Subscript_list_slice (wpAny_mono h (fun o s₁ h₁ => wpAny_mono h₁ (fun vl s₂ h₂ => ?_) fun _ _ e => e) fun _ _ e => e) ht
  obtain ⟨a, vs, n, t, rfl, e, hz, rfl, hi, hq⟩ := h₂
  rw [evalPart_none]
  refine wpAny_pure ⟨a, vs.toArray, some (i : Int), none, rfl, lO_list e, by rw [sizeLine_eq]; simp; omega, .int _ _, .none, ?_⟩
  refine hq _ (s₂.heap.objs.size + 1) (fun _ _ e => Heap.get?_push_of_some _ (Heap.get?_push_of_some _ e)) (Heap.get?_none_of_le (by omega)) ?_
  have : s₂.heap.objs.size + 1 = (s₂.heap.push { cls := .type "slice", data := .fields #[.int i t, .none, .none] }).objs.size := (Heap.size_push ..).symm
  rw [this]
  refine (Heap.get?_push_size _ rfl).trans ?_
  rw [slicePick_from _ i (by simpa using hi)]
  rfl
end
end Mine

namespace Mine
open PySem PySem.W PySem.Calls PyProof.Rows

section
variable {base h₀ h h' : Heap} {nn : Nat} {c : Cfg nn} {outer : List Env} {m : Str → Option Value} {σ σ' : NS} {os os' : List (Addr × Obj)} {env : Env} {a b : Addr} {o o' : Obj}

/-- objects' addresses that are made two at a time -/
theorem Owns.born2 (O : Owns base c (env :: outer) h₀ (os.map Prod.fst)) (S : St base c outer h₀ env m σ os h) (e : h.get? a = none) (e' : h.get? b = none) (hne : b ≠ a) : Owns base c (env :: outer) h₀ (b :: a :: os.map Prod.fst) :=
  have O1 := O.born S e
  ⟨fun x hx => by
    rcases List.mem_cons.mp hx with rfl | hx
    · exact S.own e'
    · exact O1.all x hx,
   List.nodup_cons.mpr ⟨fun hm => by
    rcases List.mem_cons.mp hm with z | hm
    · exact hne z
    · exact (List.nodup_cons.mp (O.born S e').nodup).1 hm, O1.nodup⟩⟩
theorem Owns.ne {as : List Addr} {i j : Nat} (O : Owns base c outer h₀ as) (hi : as[i]? = some a) (hj : as[j]? = some b) (hij : i ≠ j) : a ≠ b := fun z => by
  subst z
  exact hij ((List.getElem?_inj (by obtain ⟨hl, _⟩ := List.getElem?_eq_some_iff.mp hi; exact hl) O.nodup).mp (hi.trans hj.symm))
theorem Owns.head_ne {as : List Addr} (O : Owns base c outer h₀ (a :: as)) : ∀ x ∈ as, x ≠ a := fun x hx z => (List.nodup_cons.mp O.nodup).1 (z ▸ hx)
theorem mem_rot {α : Type} {p x y z u : α} {l : List α} (h : p ∈ x :: y :: z :: u :: l) : p ∈ u :: x :: y :: z :: l := by
  simp only [List.mem_cons] at h ⊢
  rcases h with h | h | h | h | h
  · exact .inr (.inl h)
  · exact .inr (.inr (.inl h))
  · exact .inr (.inr (.inr (.inl h)))
  · exact .inl h
  · exact .inr (.inr (.inr (.inr h)))
theorem mem_skip {α : Type} {p x y z u : α} {l : List α} (h : p ∈ x :: y :: z :: l) : p ∈ x :: y :: z :: u :: l := by
  simp only [List.mem_cons] at h ⊢
  rcases h with h | h | h | h
  · exact .inl h
  · exact .inr (.inl h)
  · exact .inr (.inr (.inl h))
  · exact .inr (.inr (.inr (.inr h)))
end

/-- the comprehension over a queue runs -/
def CoI (prog : Program) {w : World} {A : Around} {base h₀ h : Heap} {c : Cfg 8} {outer : List Env} {m : Str → Option Value} {σ : NS} {os : List (Addr × Obj)} {env : Env} {d u : Nat} (_ : Cx w base c)
    (_ : St base c outer h₀ env m σ os h) (_ : Amb A (env :: outer) d u) (r : Rows2) (q i : Nat) (g Lg C D : Addr) (nm qn : Value) (s : Shared) (n : Nat) (s' : Shared) : Prop :=
  ∃ h tk gens l1 l2 ph gs oL oC n' mC, s' = { s with heap := h, toks := tk, gens := gens } ∧ r q = l1 ++ l2 ∧ l2.length = n ∧ St base c outer h₀ env m σ ((C, oC) :: (D, rO c l1 n') :: (g, gobj i nm qn) :: (Lg, oL) :: os) h ∧
    h.Ns C mC ∧ CurP c q Lg ph σ h (l2.headD q) ∧ gens[i]? = some gs ∧ Bb i gens ∧ GenGo prog w A.in1 base c (env :: outer) q Lg n gs ph

section
variable {prog : Program} {w : World} {base h₀ : Heap} {c : Cfg 8} {outer : List Env} {m : Str → Option Value} {σ σ' : NS} {os os' : List (Addr × Obj)} {A : Around} {E : Value → Shared → Prop} {s : Shared} {env : Env} {q : Nat} {r : Rows2}

theorem comp_queue {x : Str} {px p1 ap pos : Pos} {iter : Expr} {scope : Scope} {Q : Value → Shared → Prop} (X : Cx w base c) (a : Amb A (env :: outer) 10 101) (S : St base c outer h₀ env m σ os s.heap) (O : Owns base c (env :: outer) h₀ (os.map Prod.fst)) (H : Rep σ r) (hq : q < 2) (hab : AllBare s.gens)
    (hit : ∀ Q' : Value → Shared → Prop, Q' (.ref (c.na q)) s → wpAny (model prog w) A (eval iter env) Q' E s)
    (hfree : ∀ x ∈ scope.names, x.2 ≠ .free) (hcell : ∀ x ∈ scope.names, x.2 ≠ .cell) (hkind : scope.kind = .function) (hnames : ∀ x ∈ scope.names, x.2 = .local → scope.names.lookup x.1 = some .local) (hx : scope.names.lookup x = some .local)
    (hd : (x == ("__debug__" : Str)) = false) (hz : (r q).length ≤ 400)
    (hQ : ∀ h' tk gens' D n', AllBare gens' → Owns base c (env :: outer) h₀ (D :: os.map Prod.fst) → St base c outer h₀ env m σ ((D, rO c (r q) n') :: os) h' → Q (.ref D) { s with heap := h', toks := tk, gens := gens' })
    (hs : ∀ x, foldedSetIterable iter env x = pure x := by intro _; rfl) :
    wpAny (model prog w) A (eval (.ListComp (.Attribute (.Name x p1) "path" ap) [⟨.Name x px, iter, [], 0⟩] scope pos) env) Q E s := by
  refine wpAny_ListComp (rest := []) hfree hkind hnames (hit _ (walk_iter X (a.mono (by decide) (by decide)) S hq fun h₂ tk₂ g Lg oL gs nm qn S₂ hLg hg F hgL go => ?_)) hs
  have O₂ : Owns base c (env :: outer) h₀ (g :: Lg :: os.map Prod.fst) := O.born2 S hLg hg hgL
  refine wpAny_newObj_type (wpAny_newFunctionEnv hcell (by intro y hy; simp at hy) (fun h₃ hns₃ hsb₃ => ?_) hkind)
  have hD : h₂.get? h₂.objs.size = none := Heap.get?_none_of_le (Nat.le_refl _)
  have S₃ := S₂.born (h' := h₂.push { cls := .type "list", data := .seq ([] : List Value).toArray }) (o := rO c [] 0) (fun _ _ e => Heap.get?_push_of_some _ e) hD (Heap.get?_push_size _ rfl)
  have O₃ := O₂.born (os := (g, gobj s.gens.size nm qn) :: (Lg, oL) :: os) S₂ hD
  generalize hH : h₂.push { cls := .type "list", data := .seq ([] : List Value).toArray } = H₂ at hns₃ hsb₃ S₃ ⊢
  dsimp only at hns₃ hsb₃ ⊢
  have hC : H₂.get? H₂.objs.size = none := Heap.get?_none_of_le (Nat.le_refl _)
  obtain ⟨oC, esC, epC, eC, dC⟩ := Ns.dictAt hns₃
  have S₄ := S₃.born (h' := h₃) (o := oC) (fun b o e => hsb₃.extBut b o (fun z => by rw [z, hC] at e; cases e) (Heap.get?_push_of_some _ e)) hC eC
  have O₄ := O₃.born (os := (h₂.objs.size, rO c [] 0) :: (g, gobj s.gens.size nm qn) :: (Lg, oL) :: os) S₃ hC
  generalize h₂.objs.size = D at S₃ O₃ S₄ O₄ ⊢
  generalize H₂.objs.size = C at hns₃ eC S₄ O₄ ⊢
  have OD : Owns base c (env :: outer) h₀ (D :: os.map Prod.fst) :=
    ⟨fun x hx => O₄.all x (.tail _ (by
      rcases List.mem_cons.mp hx with rfl | hx
      · exact .head _
      · exact .tail _ (.tail _ (.tail _ hx)))),
     List.nodup_cons.mpr ⟨fun z => O₄.tail.head_ne D (.tail _ (.tail _ z)) rfl, O.nodup⟩⟩
  have OC := O₄.all C (.head _)
  have OL := O₄.all Lg (.tail _ (.tail _ (.tail _ (.head _))))
  have hfin : ∀ h tk gens l1 l2 oC n' mC, AllBare gens → r q = l1 ++ l2 → l2.headD q = q → St base c outer h₀ env m σ ((C, oC) :: (D, rO c l1 n') :: (g, gobj s.gens.size nm qn) :: os) h → h.Ns C mC →
      ∃ mm, h.Ns C mm ∧ ∀ h', Heap.SameBut C h h' → Q (.ref D) { s with heap := h', toks := tk, gens := gens } := by
    intro h tk gens l1 l2 oC n' mC hab' e hl2 S₅ hn
    refine ⟨mC, hn, fun h' hs' => ?_⟩
    cases l2 with
    | cons x l =>
      have := H.rng q hq x (by rw [e]; simp)
      have : x = q := hl2
      omega
    | nil =>
      rw [List.append_nil] at e
      subst e
      refine hQ h' tk gens D n' hab' OD (S₅.put OC hs' fun p hp => .inl ?_)
      rcases List.mem_cons.mp hp with rfl | hp
      · exact ⟨.tail _ (.head _), O₄.head_ne D (.head _)⟩
      · exact ⟨.tail _ (.tail _ (.tail _ hp)), O₄.head_ne _ (.tail _ (.tail _ (.tail _ (List.mem_map.mpr ⟨p, hp, rfl⟩))))⟩
  have loop : ∀ (cenv : Env) (R : Result → Shared → Prop) (s' : Shared), cenv.scope = scope → cenv.locals = C →
      (∀ h tk gens, (∃ mm, h.Ns C mm ∧ ∀ h', Heap.SameBut C h h' → Q (.ref D) { s with heap := h', toks := tk, gens := gens }) → R (.ok .next) { s with heap := h, toks := tk, gens := gens }) →
      CoI prog X S a r q s.gens.size g Lg C D nm qn s (r q).length s' → codeAny (model prog w) A (.compLoop (.ListComp (.Attribute (.Name x p1) "path" ap) [⟨.Name x px, iter, [], 0⟩] scope pos) 0 (.ref g) (.ref D) cenv) R s' := by
    intro cenv R s' hsc hlo hR hI
    have hkx : cenv.kindOf x = some .local := by unfold Env.kindOf; rw [hsc]; exact hx
    refine codeAny_compLoop_list (CoI prog X S a r q s.gens.size g Lg C D nm qn s) ?_ (r q).length hI
    rintro n s₁ ⟨h₅, tk₅, gens, l1, l2, ph, gs, oL₅, oC₅, n', mC, rfl, e, rfl, S₅, hn, C₅, hgs, hbb, go⟩
    obtain ⟨k, hk, hj8, hkl⟩ := H.cur hq e
    refine gen_next (k := k) (s := { s with heap := h₅, toks := tk₅, gens := gens }) (os := (C, oC₅) :: (D, rO c l1 n') :: (g, gobj s.gens.size nm qn) :: os) X a (S₅.sub fun p hp => mem_skip hp) (.tail _ (.tail _ (.head _))) hgs OL ?_ C₅ hj8 ?_ go ?_ ?_ ?_ ?_
    · intro p hp
      rcases List.mem_cons.mp hp with rfl | hp
      · exact O₄.ne (i := 0) (j := 3) rfl rfl (by decide)
      · rcases List.mem_cons.mp hp with rfl | hp
        · exact O₄.ne (i := 1) (j := 3) rfl rfl (by decide)
        · rcases List.mem_cons.mp hp with rfl | hp
          · exact O₄.ne (i := 2) (j := 3) rfl rfl (by decide)
          · exact O₄.tail.tail.tail.head_ne _ (List.mem_map.mpr ⟨p, hp, rfl⟩)
    · exact hk
    · cases l2 with
      | nil => exact .inl rfl
      | cons y l => exact .inr (by simp)
    · exact hbb
    · intro hjq h₆ tk₆ gens₆ hab₆ S₆
      refine hR h₆ tk₆ gens₆ (hfin h₆ tk₆ gens₆ l1 l2 oC₅ n' mC hab₆ e hjq S₆ ?_)
      · have e5 := S₅.get (a := C) (.head _)
        have e6 := S₆.get (a := C) (.head _)
        exact hn.at fun o e => by rw [e5] at e; cases e; exact e6
    · intro hjq h₆ tk₆ gs₆ gens₆ oL₆ hbb₆ hgs₆ S₆ C₆ go₆
      cases l2 with
      | nil => exact absurd rfl hjq
      | cons y l =>
        have hy := H.rng q hq y (by rw [e]; simp)
        have hn₆ : h₆.Ns C mC := by
          have e5 := S₅.get (a := C) (.head _)
          have e6 := S₆.get (a := C) (.tail _ (.head _))
          exact hn.at fun o e => by rw [e5] at e; cases e; exact e6
        refine wpAny_assign_Name (wpAny_storeName_local hkx (by rw [hlo]; exact hn₆) (fun h₇ hn₇ hs₇ => ?_) (by rw [hsc, hkind]; rfl))
        rw [hlo] at hn₇ hs₇
        obtain ⟨oC₇, _, _, eC₇, _⟩ := Ns.dictAt hn₇
        have S₇ : St base c outer h₀ env m σ ((C, oC₇) :: (D, rO c l1 n') :: (g, gobj s.gens.size nm qn) :: (Lg, oL₆) :: os) h₇ := S₆.put OC hs₇ fun p hp => by
          rcases List.mem_cons.mp hp with rfl | hp
          · exact .inr ⟨rfl, eC₇⟩
          · refine .inl ⟨?_, O₄.head_ne _ (List.mem_map.mpr ⟨p, hp, rfl⟩ : p.1 ∈ ((D, rO c l1 n') :: (g, gobj s.gens.size nm qn) :: (Lg, oL₆) :: os).map Prod.fst)⟩
            simp only [List.mem_cons] at hp ⊢
            rcases hp with hp | hp | hp | hp
            · exact .inr (.inr (.inl hp))
            · exact .inr (.inr (.inr (.inl hp)))
            · exact .inl hp
            · exact .inr (.inr (.inr (.inr hp)))
        refine Attribute_Name_ (wpAny_Name (wpAny_loadName_local (by rw [hsc]; exact hkind) hkx (by rw [hlo]; exact hn₇) (if_pos rfl) ?_) hd)
        refine r_path (s := { s with heap := h₇, toks := tk₆ + 1, gens := gens₆ }) X (a.mono (by decide) (by decide)) S₇ hy.1 hy.2 fun h₈ tk₈ S₈ => ?_
        refine append_list (s := { s with heap := h₈, toks := tk₈, gens := gens₆ }) (S₈.get (.tail _ (.head _))) (by rw [List.length_map]; rw [e] at hz; simp at hz; omega) fun h₉ n₉ hs₉ e₉ => ?_
        have S₉ := S₈.write (i := 1) O₄ rfl hs₉ e₉
        have hn₉ := hn₇.at (h' := h₉) fun o e => by rw [eC₇] at e; cases e; exact S₉.get (a := C) (.head _)
        refine ⟨l.length, Nat.lt_succ_self _, h₉, tk₈, gens₆, l1 ++ [y], l, true, gs₆, oL₆, oC₇, n₉, _, rfl, by simp [e], rfl, ?_, hn₉, ?_, hgs₆, hbb₆, go₆⟩
        · have : rO c (l1 ++ [y]) n₉ = lO (l1.map (num c) ++ [num c y]) n₉ := by unfold rO; rw [List.map_append]; rfl
          rw [this]; exact S₉
        · have hkx := hkl (by simp)
          subst hkx
          unfold CurP
          rw [if_pos rfl]
          obtain ⟨m', b1, b2⟩ := C₆
          exact ⟨m', by
            have e6 := S₆.get (a := Lg) (.head _)
            have e9 := S₉.get (a := Lg) (.tail _ (.tail _ (.tail _ (.head _))))
            exact b1.at fun o e => by rw [e6] at e; cases e; exact e9, b2⟩
  have hI : CoI prog X S a r q s.gens.size g Lg C D nm qn s (r q).length { s with heap := h₃, toks := tk₂, gens := s.gens.push gs } := by
    refine ⟨h₃, tk₂, _, [], r q, false, gs, oL, oC, 0, _, rfl, rfl, rfl, S₄, hns₃, ?_, ?_, bb_push hab, go _ ?_ _⟩
    · obtain ⟨⟨m', b1, b2⟩, b3⟩ : Fst c q Lg h₂ ∧ (σ q).nx = some ((r q).headD q) := ⟨F, H.first hq⟩
      refine ⟨⟨m', ?_, b2⟩, b3⟩
      have e2 := S₂.get (a := Lg) (.tail _ (.head _))
      have e4 := S₄.get (a := Lg) (.tail _ (.tail _ (.tail _ (.head _))))
      exact b1.at fun o e => by rw [e2] at e; cases e; exact e4
    · exact Array.getElem?_push_size
    · exact a.in1
  refine codeAny_compStart_list (loop _ _ _ rfl rfl (fun h tk gens q => q) hI) (wpAny_pyIter_gen (isGen_of (S₄.get (a := g) (.tail _ (.tail _ (.head _))))) (loop _ _ _ rfl rfl (fun h tk gens q => q) hI))
end
end Mine

namespace Mine
open PySem PySem.W PySem.Calls PyProof.Rows

section
variable {base h₀ h h' : Heap} {nn : Nat} {c : Cfg nn} {outer : List Env} {m : Str → Option Value} {σ σ' σ₀ : NS} {os os' : List (Addr × Obj)} {env : Env} {a b : Addr} {o o' : Obj}

theorem frames_putE (hs : Heap.ExtBut a h h') : ∀ (l : List Env), a ∉ frs l → h.FunFrames base l → h'.FunFrames base l
  | [], _, _ => trivial
  | env :: r, hd, ⟨hk, ⟨L, o, hf, hn, e, d⟩, hr⟩ => by
    have e0 : frs (env :: r) = L :: frs r := by unfold frs; rw [List.filterMap_cons, hf]
    rw [e0] at hd
    exact ⟨hk, ⟨L, o, hf, hn, hs L o (fun q => hd (q ▸ .head _)) e, d⟩, frames_putE hs r (fun m => hd (.tail _ m)) hr⟩

theorem St.putE (S : St base c outer h₀ env m σ os h) (O : Own base c (env :: outer) h₀ a) (hs : Heap.ExtBut a h h') (ho : ∀ p ∈ os', (p ∈ os ∧ p.1 ≠ a) ∨ (p.1 = a ∧ h'.get? a = some p.2)) : St base c outer h₀ env m σ os' h' := by
  have hl : a ≠ env.locals := fun q => O.nf (by rw [S.frsEq, q]; exact .head _)
  refine ⟨⟨fun b o e n d => hs b o (fun q => (by rw [q, O.n0] at e; cases e)) (S.turn.same b o e n d), fun b o e n => ?_⟩, S.ns.at fun o e => hs _ o (Ne.symm hl) e,
    ⟨fun b o e => hs b o (fun q => (by rw [q, O.nb] at e; cases e)) (S.ok.stays b o e), frames_putE hs _ O.nf S.ok.frames, fun b hb => ?_, S.ok.apart⟩,
    ⟨fun j hj => hs _ _ (Ne.symm (O.nn j hj)) (S.nodes.inst j hj), fun j hj => (S.nodes.dict j hj).at fun o e => hs _ o (Ne.symm (O.nd j hj)) e, hs _ _ (Ne.symm O.ni) S.nodes.kind,
      S.nodes.kdict.at fun o e => hs _ o (Ne.symm O.nk) e, S.nodes.wf⟩, S.new, S.fr, fun p hp => ?_⟩
  · obtain ⟨sl, e'⟩ := S.turn.frame b o e n
    exact ⟨sl, hs b _ (fun q => (by rw [q, O.n0] at e; cases e)) e'⟩
  · obtain ⟨o, es, n, e, d⟩ := S.ok.dicts b hb
    exact ⟨o, es, n, hs b o (fun q => O.nf (q ▸ hb)) e, d⟩
  · rcases ho p hp with ⟨h1, h2⟩ | ⟨h1, h2⟩
    · exact ⟨hs _ _ h2 (S.os p h1).1, (S.os p h1).2⟩
    · rw [h1]; exact ⟨h2, O.nf, O.notD⟩

/-- what was there at the entry, and is no dict -/
theorem St.old (S : St base c outer h₀ env m σ os h) (k : Ok base c outer h₀) (N : Nodes c σ₀ h₀) (e : h₀.get? a = some o) (nd : isDict o = false) : h.get? a = some o :=
  S.turn.notDict k N.dicts e (isDict_no nd)
theorem St.oldL {vs : Array Value} (S : St base c outer h₀ env m σ os h) (k : Ok base c outer h₀) (N : Nodes c σ₀ h₀) (e : h₀.IsList a vs) : h.IsList a vs := by
  obtain ⟨o, e, hc, n, hd⟩ := e
  exact ⟨o, S.old k N e (by unfold isDict; rw [hd]), hc, n, hd⟩
theorem keeps_push (h : Heap) (o : Obj) : Keeps h (h.push o) := fun _ _ e => Heap.get?_push_of_some _ e
theorem fresh_size (h : Heap) : h.get? h.objs.size = none := Heap.get?_none_of_le (Nat.le_refl _)
end

section
variable {prog : Program} {w : World} {A : Around} {E : Value → Shared → Prop} {s : Shared} {env : Env}

theorem sub_list {value slice : Expr} {pos : Pos} {Q : Value → Shared → Prop}
    (h : wpAny (model prog w) A (eval value env) (fun o s₁ => wpAny (model prog w) A (eval slice env) (fun i s₂ => ∃ (a : Addr) (vs : List Value) (k : Nat) (t : Tok) (v : Value), o = .ref a ∧ i = .int (k : Int) t ∧ s₂.heap.IsList a vs.toArray ∧ k < 500 ∧ vs[k]? = some v ∧ Q v s₂) E s₁) E s)
    (hs : ∀ a k u, subscripted slice false (.ref a) (.int k u) = operate [.ref a, .int k u] (getItem (.ref a) (.int k u)) := by intro _ _ _; with_unfolding_all rfl) (ht : ∀ a r, letTemporaryGo value (.ref a) r = pure () := by intro _ _; with_unfolding_all rfl) :
    wpAny (model prog w) A (eval (.Subscript value slice pos) env) Q E s := by
  refine Subscript_ (wpAny_mono h (fun o s₁ h₁ => wpAny_mono h₁ (fun i s₂ h₂ => ?_) fun _ _ e => e) fun _ _ e => e)
  obtain ⟨a, vs, k, t, v, rfl, rfl, e, hk, hv, hq⟩ := h₂
  exact subscriptTail_builtin e.typeIs slot_list_getitem.lookup (wpAny_getItem_list e (by omega) (by omega) (by simpa using hv) hq) (hs _ _ _) (ht _)

/-- a for over a list that stays -/
theorem forL {R : Result → Shared → Prop} {target : Expr} {body : List Stmt} {it a : Addr} {vs : List Value} (J : Nat → Shared → Prop) (hh : A.handled = none)
    (hit : ∀ i s, J i s → i ≤ vs.length ∧ s.heap.IsListIter it a i ∧ s.heap.IsList a vs.toArray)
    (step : ∀ i v s, vs[i]? = some v → J i s → ∀ h', h'.IsListIter it a (i + 1) → Heap.SameBut it s.heap h' →
      wpAny (model prog w) A (assign target env v) (fun _ s₂ => wpAny (model prog w) A (execs body env) (fun f s₃ => match f with
          | .next | .cont => J (i + 1) s₃
          | .brk => R (.ok .next) s₃
          | .ret v => R (.ok (.ret v)) s₃) (notedBy (model prog w) A env fun e s' => R (.error e) s') s₂) (notedBy (model prog w) A env fun e s' => R (.error e) s') { s with heap := h' })
    (fin : ∀ s, J vs.length s → ∀ h', Heap.ExtBut it s.heap h' → R (.ok .next) { s with heap := h' }) (h0 : J 0 s) (ht : ∀ v, letOwnedTupleGo target (.ref it) v = pure () := by intro _; rfl) :
    codeAny (model prog w) A (.forLoop target (.ref it) body [] env) R s := by
  refine codeAny_forLoop (fun n s' => ∃ i, J i s' ∧ i + n = vs.length) ?_ vs.length ⟨0, h0, by omega⟩ ht
  rintro n s' ⟨i, hJ, hn⟩
  obtain ⟨hi, h1, h2⟩ := hit i s' hJ
  by_cases q : i < vs.length
  · have hv : vs[i]? = some vs[i] := List.getElem?_eq_getElem q
    refine wpAny_pyNext_list_item h1 h2 (x := vs[i]) (by simpa using hv) fun h' hi' hs' => ?_
    refine wpAny_mono (step i vs[i] s' hv hJ h' hi' hs') (fun _ s₂ h₂ => wpAny_mono h₂ (fun f s₃ h₃ => ?_) fun _ _ e => e) fun _ _ e => e
    cases f with
    | next => exact ⟨n - 1, by omega, i + 1, h₃, by omega⟩
    | cont => exact ⟨n - 1, by omega, i + 1, h₃, by omega⟩
    | brk => exact h₃
    | ret v => exact h₃
  · have e : i = vs.length := by omega
    subst e
    exact wpAny_pyNext_list_end hh h1 h2 (by simp) fun h' hs' => wpAny_execs_nil (fin s' hJ h' hs')

/-- a for over a range -/
theorem forR {R : Result → Shared → Prop} {target : Expr} {body : List Stmt} {it : Addr} {n : Nat} {c : Int} (J : Nat → Shared → Prop) (hh : A.handled = none)
    (hit : ∀ i s, J i s → i ≤ n ∧ IsRangeIter s.heap it (i * c) ((n : Int) - i) c)
    (step : ∀ i t s, i < n → J i s → ∀ h', IsRangeIter h' it ((i + 1 : Nat) * c) ((n : Int) - (i + 1 : Nat)) c → Heap.SameBut it s.heap h' →
      wpAny (model prog w) A (assign target env (.int (i * c) t)) (fun _ s₂ => wpAny (model prog w) A (execs body env) (fun f s₃ => match f with
          | .next | .cont => J (i + 1) s₃
          | .brk => R (.ok .next) s₃
          | .ret v => R (.ok (.ret v)) s₃) (notedBy (model prog w) A env fun e s' => R (.error e) s') s₂) (notedBy (model prog w) A env fun e s' => R (.error e) s') { s with heap := h', toks := s.toks + 1 })
    (fin : ∀ s, J n s → ∀ h', Heap.ExtBut it s.heap h' → R (.ok .next) { s with heap := h' }) (h0 : J 0 s) (ht : ∀ v, letOwnedTupleGo target (.ref it) v = pure () := by intro _; rfl) :
    codeAny (model prog w) A (.forLoop target (.ref it) body [] env) R s := by
  refine codeAny_forLoop (fun k s' => ∃ i, J i s' ∧ i + k = n) ?_ n ⟨0, h0, by omega⟩ ht
  rintro k s' ⟨i, hJ, hn⟩
  obtain ⟨hi, h1⟩ := hit i s' hJ
  by_cases q : i < n
  · refine wpAny_pyNext_range_item h1 (by omega) fun h' hi' hs' => ?_
    have e1 : (i : Int) * c + c = ((i + 1 : Nat) : Int) * c := by push_cast; rw [Int.add_mul, Int.one_mul]
    have e2 : (n : Int) - i - 1 = (n : Int) - (i + 1 : Nat) := by push_cast; omega
    rw [e1, e2] at hi'
    refine wpAny_mono (step i _ s' q hJ h' hi' hs') (fun _ s₂ h₂ => wpAny_mono h₂ (fun f s₃ h₃ => ?_) fun _ _ e => e) fun _ _ e => e
    cases f with
    | next => exact ⟨k - 1, by omega, i + 1, h₃, by omega⟩
    | cont => exact ⟨k - 1, by omega, i + 1, h₃, by omega⟩
    | brk => exact h₃
    | ret v => exact h₃
  · have e : i = n := by omega
    subst e
    exact wpAny_pyNext_range_end hh h1 (by omega) fun h' hs' => wpAny_execs_nil (fin s' hJ h' hs')
end
end Mine

namespace Mine
open PySem PySem.W PySem.Calls PyProof.Rows PySem.SeqAt
example (w : World) : hd.heap_39 w.params = hd.heap_39 w.params ∧ PySem.Challenge.rw_bi0011_01 = PySem.Challenge.rw_bi0011_01 := by
  k_fill
  exact ⟨rfl, rfl⟩
local macro_rules | `(tactic| k_is) => `(tactic| (delta KF; k_is))
local macro_rules | `(tactic| walk_at "m enter") => `(tactic| (
  (case ho => k_is)
  (case hcd => k_is)
  (case hbind => exact BindsTo.of_eq rfl)
  (case hloc => exact locs rfl)
  (case hcell => decide)
  (case hco => rfl)
  (case hgen => rfl)
  (case hk => rfl)))

def qvs (c : Cfg 8) : List Value := [.ref (c.na 0), .ref (c.na 1)]
def rvs (ro : Nat → Addr) : List Value := [.ref (ro 0), .ref (ro 1)]
def ivs (c : Cfg 8) : List Value := [.ref (c.na 2), .ref (c.na 3), .ref (c.na 4), .ref (c.na 5), .ref (c.na 6), .ref (c.na 7)]
theorem qvs_at {c : Cfg 8} {q : Nat} (hq : q < 2) : (qvs c)[q]? = some (.ref (c.na q)) := by
  have : q = 0 ∨ q = 1 := by omega
  rcases this with rfl | rfl <;> rfl
theorem rvs_at {ro : Nat → Addr} {q : Nat} (hq : q < 2) : (rvs ro)[q]? = some (.ref (ro q)) := by
  have : q = 0 ∨ q = 1 := by omega
  rcases this with rfl | rfl <;> rfl
theorem ivs_at {c : Cfg 8} {k : Nat} (hk : k < 6) : (ivs c)[k]? = some (.ref (c.na (k + 2))) := by
  have : k = 0 ∨ k = 1 ∨ k = 2 ∨ k = 3 ∨ k = 4 ∨ k = 5 := by omega
  rcases this with rfl | rfl | rfl | rfl | rfl | rfl <;> rfl

/-- the law's lists -/
structure LL (c : Cfg 8) (r : Rows2) (h : Heap) (qa ra ia : Addr) (ro : Nat → Addr) : Prop where
  q : ∃ n, h.get? qa = some (lO (qvs c) n)
  rr : h.IsList ra (rvs ro).toArray
  i : ∃ n, h.get? ia = some (lO (ivs c) n)
  row : ∀ p, p < 2 → ∃ n, h.get? (ro p) = some (rO c (r p) n)

theorem LL.old {base h₀ h : Heap} {c : Cfg 8} {outer : List Env} {m : Str → Option Value} {σ σ₀ : NS} {os : List (Addr × Obj)} {env : Env} {r : Rows2} {qa ra ia : Addr} {ro : Nat → Addr}
    (x : LL c r h₀ qa ra ia ro) (S : St base c outer h₀ env m σ os h) (k : Ok base c outer h₀) (N : Nodes c σ₀ h₀) : LL c r h qa ra ia ro :=
  ⟨let ⟨n, e⟩ := x.q; ⟨n, S.old k N e rfl⟩, S.oldL k N x.rr, let ⟨n, e⟩ := x.i; ⟨n, S.old k N e rfl⟩, fun p hp => let ⟨n, e⟩ := x.row p hp; ⟨n, S.old k N e rfl⟩⟩

theorem nodup_len : ∀ (n : Nat) (l : List Nat), l.Nodup → (∀ x ∈ l, x < n) → l.length ≤ n
  | 0, l, _, h => by
    cases l with
    | nil => exact Nat.le_refl _
    | cons x l => exact absurd (h x (.head _)) (Nat.not_lt_zero _)
  | n + 1, l, hd, h => by
    by_cases hm : n ∈ l
    · have := nodup_len n (l.erase n) (hd.erase n) fun x hx => by
        have h1 := (hd.mem_erase_iff.mp hx)
        have := h x h1.2
        have := h1.1
        omega
      rw [List.length_erase_of_mem hm] at this
      omega
    · have := nodup_len n l hd fun x hx => by
        have := h x hx
        have : x ≠ n := fun z => hm (z ▸ hx)
        omega
      omega
theorem Rep.short {σ : NS} {r : Rows2} (H : Rep σ r) {q : Nat} (hq : q < 2) : (r q).length ≤ 8 := nodup_len 8 _ (H.nd q hq) fun j hj => (H.rng q hq j hj).2

/-- a queue is being compared -/
def SmI {w : World} {base h₀ h : Heap} {c : Cfg 8} {outer : List Env} {m : Str → Option Value} {σ : NS} {os : List (Addr × Obj)} {env : Env} (_ : Cx w base c)
    (_ : St base c outer h₀ env m σ os h) (qa ra ia it : Addr) (s : Shared) (i : Nat) (s' : Shared) : Prop :=
  ∃ h tk gens m oI, s' = { s with heap := h, toks := tk, gens := gens } ∧ AllBare gens ∧ i ≤ 2 ∧ St base c outer h₀ env m σ [(it, oI)] h ∧ IsRangeIter h it (i * 1) (2 - i) 1 ∧
    m "queues" = some (.ref qa) ∧ m "rows" = some (.ref ra) ∧ m "items" = some (.ref ia)
/-- the items are being looked at -/
def SmJ {w : World} {base h₀ h : Heap} {c : Cfg 8} {outer : List Env} {m : Str → Option Value} {σ : NS} {os : List (Addr × Obj)} {env : Env} (_ : Cx w base c)
    (_ : St base c outer h₀ env m σ os h) (qa ra ia it : Addr) (s : Shared) (i : Nat) (s' : Shared) : Prop :=
  ∃ h tk gens m oI, s' = { s with heap := h, toks := tk, gens := gens } ∧ AllBare gens ∧ i ≤ 6 ∧ St base c outer h₀ env m σ [(it, oI)] h ∧ h.IsListIter it ia i ∧
    m "queues" = some (.ref qa) ∧ m "rows" = some (.ref ra) ∧ m "items" = some (.ref ia)

section
variable {w : World} {base : Heap} {c : Cfg 8} {r : Rows2} {q : Nat} {qa ra ia : Addr} {ro : Nat → Addr}

theorem same_does (X : Cx w base c) (prog : Program) (A : Around) (outer : List Env) (s : Shared) (R : Result → Shared → Prop) (σ : NS) (a : Amb A outer 14 140) (ok : Ok base c outer s.heap) (N : Nodes c σ s.heap) (H : Rep σ r) (l : LL c r s.heap qa ra ia ro) (hab : AllBare s.gens)
    (h : ∀ h' tk gens', AllBare gens' → Turn c (frs outer) s.heap h' → Nodes c σ h' → R (.ok (.ret (.bool true))) { s with heap := h', toks := tk, gens := gens' }) : codeAny (model prog w) A (.call (.ref 254) ⟨[.ref qa, .ref ra, .ref ia], []⟩) R s := by
  refine' enter0 (d := 13) (u := 137) [("queues", .ref qa), ("rows", .ref ra), ("items", .ref ia)] X a ok N ?ho ?hcd ?hbind ?hloc ?hcell ?hco ?hgen ?hk ?_
  walk_at "m enter"
  intro L h₁ tk S a'
  refine wpAny_execs_cons (wpAny_For (Call_Name1 (r_builtin X S (v := .type "range") (by simp [builtinNames]) (PySem.callWith_type1 (wpAny_Constant_int (call_range_1 ?_))))))
  refine wpAny_pyIter_range (a := 0) (b := 2) (c := 1) (Heap.get?_push_size _ rfl) (by decide) ?_
  generalize hH : h₁.push { cls := .type "range", data := .fields #[.int 0 (tk + 1), .int 2 tk, .int 1 (tk + 1 + 1)] } = H₂
  have hk₂ : Keeps h₁ H₂ := hH ▸ keeps_push _ _
  have S₂ := S.keeps hk₂
  have hit := fresh_size H₂
  have O₂ := S₂.own hit
  have S₃ := S₂.born (h' := H₂.push { cls := .type "range_iterator", data := .fields #[rawInt 0, rawInt (Builtin.Range.rangeSize 0 2 1), rawInt 1] }) (keeps_push _ _) hit (Heap.get?_push_size _ rfl)
  have hri : IsRangeIter (H₂.push { cls := .type "range_iterator", data := .fields #[rawInt 0, rawInt (Builtin.Range.rangeSize 0 2 1), rawInt 1] }) H₂.objs.size 0 2 1 := Heap.get?_push_size _ rfl
  refine forR (n := 2) (c := 1) (SmI X S qa ra ia H₂.objs.size s) a'.handled ?_ ?_ ?_ ?_
  · rintro i s' ⟨h, tk, gens, m, oI, rfl, _, hi, S', hR, _⟩
    exact ⟨hi, hR⟩
  · rintro i t s' hi ⟨h₄, tk₄, gens, m, oI, rfl, hab₄, _, S₄, hR, m1, m2, m3⟩ h₅ hR₅ hs₅
    have S₅ := S₄.putE (os' := [(H₂.objs.size, _)]) O₂ hs₅.extBut fun p hp => .inr (by rcases List.mem_singleton.mp hp with rfl; exact ⟨rfl, hR₅⟩)
    rw [Int.mul_one]
    refine wpAny_assign_Name (r_store (s := { s with heap := h₅, toks := tk₄ + 1, gens := gens }) S₅ fun h₆ S₆ => ?_)
    refine wpAny_execs_cons (wpAny_If (isTrue_or (wpAny_isTrue_Compare1 ?_)))
    have OI : Owns base c (_ :: outer) s.heap [H₂.objs.size] := ⟨fun b hb => by rcases List.mem_singleton.mp hb with rfl; exact O₂, by simp⟩
    refine comp_queue (s := { s with heap := h₆, toks := tk₄ + 1 + 1, gens := gens }) X (a'.mono (by decide) (by decide)) S₆ OI H hi hab₄ ?_ (by decide) (by decide) rfl (by decide) (by rfl) (by decide) (by have := H.short hi; omega) ?_
    · intro Q' hQ'
      refine sub_list (r_name S₆ (v := .ref qa) (by rw [if_neg (by decide)]; exact m1) (r_name (s := { s with heap := h₆, toks := tk₄ + 1 + 1, gens := gens }) S₆ (by rw [if_pos rfl]) ?_))
      obtain ⟨n, e⟩ := (l.old S₆ ok N).q
      exact ⟨qa, qvs c, i, _, _, rfl, rfl, lO_list e, by omega, qvs_at hi, hQ'⟩
    · intro h₇ tk₇ gens₇ D n₇ hab₇ O₇ S₇
      refine sub_list (r_name (s := { s with heap := h₇, toks := tk₇, gens := gens₇ }) S₇ (v := .ref ra) (by rw [if_neg (by decide)]; exact m2) (r_name (s := { s with heap := h₇, toks := tk₇, gens := gens₇ }) S₇ (by rw [if_pos rfl]) ?_))
      have e := (l.old S₇ ok N).rr
      refine ⟨ra, rvs ro, i, _, _, rfl, rfl, e, by omega, rvs_at hi, ?_⟩
      obtain ⟨n', e'⟩ := (l.old S₇ ok N).row i hi
      refine ne_rows (S₇.get (.head _)) e' (by have := a'.units; omega) (wpAny_truthy_bool (ifF rfl ?_))
      refine isTrue_or (wpAny_isTrue_Compare1 (MethodCall_ (sub_list (r_name (s := { s with heap := h₇, toks := tk₇, gens := gens₇ }) S₇ (v := .ref qa) (by rw [if_neg (by decide)]; exact m1) (r_name (s := { s with heap := h₇, toks := tk₇, gens := gens₇ }) S₇ (by rw [if_pos rfl]) ?_)))))
      obtain ⟨n, e⟩ := (l.old S₇ ok N).q
      refine ⟨qa, qvs c, i, _, _, rfl, rfl, lO_list e, by omega, qvs_at hi, ?_⟩
      refine r_hmeth (s := { s with heap := h₇, toks := tk₇, gens := gens₇ }) X S₇ hi (l_empty w) (nmap_none hi (by decide) (by decide) (by decide) (by decide)) (callWith_K0 (S₇.K X) (l_empty w).kp ?_)
      refine call_does (s := { s with heap := h₇, toks := tk₇, gens := gens₇ }) X (empty_rep X H hi) (a'.mono (by decide) (by decide)) S₇ fun h₈ tk₈ S₈ => ?_
      refine wpAny_Compare1 (sub_list (r_name (s := { s with heap := h₈, toks := tk₈, gens := gens₇ }) S₈ (v := .ref ra) (by rw [if_neg (by decide)]; exact m2) (r_name (s := { s with heap := h₈, toks := tk₈, gens := gens₇ }) S₈ (by rw [if_pos rfl]) ?_)))
      have e₈ := (l.old S₈ ok N).rr
      refine ⟨ra, rvs ro, i, _, _, rfl, rfl, e₈, by omega, rvs_at hi, ?_⟩
      refine wpAny_List (wpAny_items_nil ⟨by decide, ?_⟩)
      obtain ⟨n₉, e₉⟩ := (l.old S₈ ok N).row i hi
      refine eq_rows (l' := []) (Heap.get?_push_of_some _ e₉) (Heap.get?_push_size _ rfl) (by have := a'.units; omega) ?_
      refine RcNeAt.bool_bool _ _ prog w _ _ (wpAny_truthy_bool (ifF ?_ (isTrue_or_nil (ifF rfl (wpAny_execs_nil (wpAny_execs_nil ?_))))))
      · cases r i <;> rfl
      have S₉ := S₈.keeps (keeps_push h₈ { cls := .type "list", data := .seq ([] : List Value).toArray })
      refine ⟨_, tk₈, gens₇, _, _, rfl, hab₇, by omega, S₉.sub (fun p hp => .tail _ hp), S₉.get (.tail _ (.head _)), ?_, ?_, ?_⟩
      · rw [if_neg (by decide)]; exact m1
      · rw [if_neg (by decide)]; exact m2
      · rw [if_neg (by decide)]; exact m3
  · rintro s' ⟨h₄, tk₄, gens, m, oI, rfl, hab₄, _, S₄, hR, m1, m2, m3⟩ h₅ hs₅
    have S₅ := S₄.putE (os' := []) O₂ hs₅ fun p hp => nomatch hp
    refine wpAny_execs_cons (wpAny_For (r_name (s := { s with heap := h₅, toks := tk₄, gens := gens }) S₅ m3 ?_))
    obtain ⟨ni, ei⟩ := (l.old S₅ ok N).i
    refine wpAny_pyIter_list (lO_list ei) ?_
    have hit₆ := fresh_size h₅
    have O₆ := S₅.own hit₆
    have S₆ := S₅.born (h' := h₅.push { cls := .type "list_iterator", data := .fields #[.ref ia, .int 0 0] }) (keeps_push _ _) hit₆ (Heap.get?_push_size _ rfl)
    refine forL (a := ia) (vs := ivs c) (SmJ X S qa ra ia h₅.objs.size s) a'.handled ?_ ?_ ?_ ?_
    · rintro i s' ⟨h, tk, gens, m, oI, rfl, _, hi, S', hR, _⟩
      obtain ⟨ni, ei⟩ := (l.old S' ok N).i
      exact ⟨hi, hR, lO_list ei⟩
    · rintro k v s' hv ⟨h₇, tk₇, gens₇, m, oI, rfl, hab₇, _, S₇, hR, m1, m2, m3⟩ h₈ hi₈ hs₈
      obtain ⟨hk, _⟩ := List.getElem?_eq_some_iff.mp hv
      have hk6 : k < 6 := hk
      rw [ivs_at hk6] at hv
      cases hv
      obtain ⟨oI₈, eI₈, hI₈⟩ := id hi₈
      have S₈ := S₇.putE (os' := [(h₅.objs.size, oI₈)]) O₆ hs₈.extBut fun p hp => .inr (by rcases List.mem_singleton.mp hp with rfl; exact ⟨rfl, eI₈⟩)
      refine wpAny_assign_Name (r_store (s := { s with heap := h₈, toks := tk₇, gens := gens₇ }) S₈ fun h₉ S₉ => ?_)
      refine wpAny_execs_cons (wpAny_Assign_Name (wpAny_Compare1 (Attribute_Name_ (r_name (s := { s with heap := h₉, toks := tk₇ + 1, gens := gens₇ }) S₉ (v := .ref (c.na (k + 2))) (by rw [if_pos rfl]) ?_))))
      refine r_path (s := { s with heap := h₉, toks := tk₇ + 1, gens := gens₇ }) X (a'.mono (by decide) (by decide)) S₉ (by omega) (by omega) fun h₁₀ tk₁₀ S₁₀ => ?_
      refine wpAny_BinOp (sub_list (r_name (s := { s with heap := h₁₀, toks := tk₁₀, gens := gens₇ }) S₁₀ (v := .ref ra) (by rw [if_neg (by decide)]; exact m2) (wpAny_Constant_int ?_)))
      have er := (l.old S₁₀ ok N).rr
      refine ⟨ra, rvs ro, 0, _, _, rfl, rfl, er, by decide, rvs_at (by decide), ?_⟩
      refine sub_list (r_name (s := { s with heap := h₁₀, toks := tk₁₀ + 1, gens := gens₇ }) S₁₀ (v := .ref ra) (by rw [if_neg (by decide)]; exact m2) (wpAny_Constant_int ?_))
      refine ⟨ra, rvs ro, 1, _, _, rfl, rfl, er, by decide, rvs_at (by decide), ?_⟩
      obtain ⟨n0, e0⟩ := (l.old S₁₀ ok N).row 0 (by decide)
      obtain ⟨n1, e1⟩ := (l.old S₁₀ ok N).row 1 (by decide)
      have hs0 := H.short (q := 0) (by decide)
      have hs1 := H.short (q := 1) (by decide)
      refine add_rows (s := { s with heap := h₁₀, toks := tk₁₀ + 1 + 1, gens := gens₇ }) e0 e1 (by omega) fun h₁₁ hk₁₁ hf₁₁ e₁₁ => ?_
      have S₁₁ := S₁₀.keeps hk₁₁
      refine in_row e₁₁ (r_store (s := { s with heap := h₁₁, toks := tk₁₀ + 1 + 1, gens := gens₇ }) S₁₁ fun h₁₂ S₁₂ => ?_)
      refine wpAny_execs_cons (wpAny_If (isTrue_or (wpAny_isTrue_Compare1 (MethodCall_ (sub_list (r_name (s := { s with heap := h₁₂, toks := tk₁₀ + 1 + 1 + 1, gens := gens₇ }) S₁₂ (v := .ref qa) (by rw [if_neg (by decide), if_neg (by decide)]; exact m1) (wpAny_Constant_int ?_)))))))
      obtain ⟨nq, eq'⟩ := (l.old S₁₂ ok N).q
      refine ⟨qa, qvs c, 0, _, _, rfl, rfl, lO_list eq', by decide, qvs_at (by decide), ?_⟩
      refine r_hmeth (s := { s with heap := h₁₂, toks := tk₁₀ + 1 + 1 + 1 + 1, gens := gens₇ }) X S₁₂ (by decide) (l_on w) (nmap_none (by decide) (by decide) (by decide) (by decide) (by decide)) (callWith_K (S₁₂.K X) (l_on w).kp (r_args1 (r_name (s := { s with heap := h₁₂, toks := tk₁₀ + 1 + 1 + 1 + 1, gens := gens₇ }) S₁₂ (v := .ref (c.na (k + 2))) (by rw [if_neg (by decide), if_pos rfl]) ⟨S₁₂.K X, ?_⟩)))
      refine call_does (s := { s with heap := h₁₂, toks := tk₁₀ + 1 + 1 + 1 + 1, gens := gens₇ }) X (on_rep X H (by decide) (by omega) (by omega)) (a'.mono (by decide) (by decide)) S₁₂ fun h₁₃ tk₁₃ S₁₃ => ?_
      refine r_name (s := { s with heap := h₁₃, toks := tk₁₃, gens := gens₇ }) S₁₃ (by rw [if_pos rfl]) ?_
      refine RcNeAt.bool_bool _ _ prog w _ _ (wpAny_truthy_bool (ifF (by simp) ?_))
      refine isTrue_or (wpAny_isTrue_Compare1 (MethodCall_ (sub_list (r_name (s := { s with heap := h₁₃, toks := tk₁₃, gens := gens₇ }) S₁₃ (v := .ref qa) (by rw [if_neg (by decide), if_neg (by decide)]; exact m1) (wpAny_Constant_int ?_)))))
      obtain ⟨nq, eq'⟩ := (l.old S₁₃ ok N).q
      refine ⟨qa, qvs c, 1, _, _, rfl, rfl, lO_list eq', by decide, qvs_at (by decide), ?_⟩
      refine r_hmeth (s := { s with heap := h₁₃, toks := tk₁₃ + 1, gens := gens₇ }) X S₁₃ (by decide) (l_on w) (nmap_none (by decide) (by decide) (by decide) (by decide) (by decide)) (callWith_K (S₁₃.K X) (l_on w).kp (r_args1 (r_name (s := { s with heap := h₁₃, toks := tk₁₃ + 1, gens := gens₇ }) S₁₃ (v := .ref (c.na (k + 2))) (by rw [if_neg (by decide), if_pos rfl]) ⟨S₁₃.K X, ?_⟩)))
      refine call_does (s := { s with heap := h₁₃, toks := tk₁₃ + 1, gens := gens₇ }) X (on_rep X H (by decide) (by omega) (by omega)) (a'.mono (by decide) (by decide)) S₁₃ fun h₁₄ tk₁₄ S₁₄ => ?_
      refine r_name (s := { s with heap := h₁₄, toks := tk₁₄, gens := gens₇ }) S₁₄ (by rw [if_pos rfl]) ?_
      refine RcNeAt.bool_bool _ _ prog w _ _ (wpAny_truthy_bool (ifF (by simp) (isTrue_or_nil (ifF rfl (wpAny_execs_nil (wpAny_execs_nil ?_))))))
      refine ⟨h₁₄, tk₁₄, gens₇, _, oI₈, rfl, hab₇, by omega, S₁₄, ⟨oI₈, S₁₄.get (.head _), hI₈⟩, ?_, ?_, ?_⟩
      · rw [if_neg (by decide), if_neg (by decide)]; exact m1
      · rw [if_neg (by decide), if_neg (by decide)]; exact m2
      · rw [if_neg (by decide), if_neg (by decide)]; exact m3
    · rintro s' ⟨h₇, tk₇, gens₇, m, oI, rfl, hab₇, _, S₇, hR, m1, m2, m3⟩ h₈ hs₈
      have S₈ := S₇.putE (os' := []) O₆ hs₈ fun p hp => nomatch hp
      refine wpAny_execs_cons (wpAny_Return_some (wpAny_Constant_bool (h _ _ _ hab₇ S₈.turn S₈.nodes)))
    · exact ⟨_, _, _, _, _, rfl, hab₄, by decide, S₆, ⟨_, Heap.get?_push_size _ rfl, rfl, rfl⟩, m1, m2, m3⟩
  · exact ⟨_, _, _, _, _, rfl, hab, by decide, S₃, hri, rfl, rfl, rfl⟩
end
end Mine

namespace Mine
open PySem PySem.W PySem.Calls PyProof.Rows PySem.SeqAt
example (w : World) : hd.heap_39 w.params = hd.heap_39 w.params ∧ PySem.Challenge.rw_bi0011_01 = PySem.Challenge.rw_bi0011_01 := by
  k_fill
  exact ⟨rfl, rfl⟩
local macro_rules | `(tactic| k_is) => `(tactic| (delta KF; k_is))

/-- the law's own text -/
def LawIs (w : World) (qual : Str) (body : List Stmt) (scope : Scope) : Prop :=
  ∃ name params dV kV doc pm an cdv ct oc od osl, (KF w).lookup 259 = some ⟨oc, od, .func (fnOf name qual params body scope dV kV doc pm an cdv ct), osl⟩

theorem law_eq {w : World} {qual q' name : Str} {body b' : List Stmt} {scope s' : Scope} {params : Arguments} {dV kV doc pm cdv ct oc : Value} {an od : Option Addr} {osl : Array (Option Value)}
    (hc : (KF w).lookup 259 = some ⟨oc, od, .func (fnOf name q' params b' s' dV kV doc pm an cdv ct), osl⟩) (hb : LawIs w qual body scope) : qual = q' ∧ body = b' ∧ scope = s' := by
  obtain ⟨_, _, _, _, _, _, _, _, _, _, _, _, hb⟩ := hb
  rw [hc] at hb
  injection hb with h1
  injection h1 with _ _ h3 _
  injection h3 with h4
  have e1 := congrArg FuncData.qualname h4
  have e2 := congrArg FuncData.body h4
  have e3 := congrArg FuncData.scope h4
  dsimp only [fnOf] at e1 e2 e3
  injection e2 with e2
  exact ⟨e1.symm, e2.symm, e3.symm⟩

def sB : Stmt → List Stmt
  | .For _ _ b _ _ => b
  | .If _ b _ _ => b
  | .While _ b _ _ => b
  | _ => []
def sE : Stmt → List Stmt
  | .If _ _ e _ => e
  | _ => []
def nB (l : List Stmt) (i : Nat) : List Stmt := match l[i]? with | some x => sB x | none => []
def nE (l : List Stmt) (i : Nat) : List Stmt := match l[i]? with | some x => sE x | none => []
def turnB (body : List Stmt) : List Stmt := nB body 4
def arm1 (body : List Stmt) : List Stmt := nB (turnB body) 4
def arm2 (body : List Stmt) : List Stmt := nB (nE (turnB body) 4) 0
def arm3 (body : List Stmt) : List Stmt := nB (nE (nE (turnB body) 4) 0) 0
def arm4 (body : List Stmt) : List Stmt := nB (nE (nE (nE (turnB body) 4) 0) 0) 0
def arm5 (body : List Stmt) : List Stmt := nE (nE (nE (nE (turnB body) 4) 0) 0) 0

structure Ads where
  qa : Addr
  ra : Addr
  ia : Addr
  nu : Addr
  it : Addr
  vals : List Value

abbrev os7 (c : Cfg 8) (r : Rows2) (ro : Nat → Addr) (n : Nat → Nat) (a : Ads) (oI oR : Obj) : List (Addr × Obj) :=
  [(ro 0, rO c (r 0) (n 0)), (ro 1, rO c (r 1) (n 1)), (a.ra, oR), (a.qa, lO (qvs c) (n 3)), (a.ia, lO (ivs c) (n 4)), (a.nu, lO a.vals (n 5)), (a.it, oI)]
abbrev as7 (ro : Nat → Addr) (a : Ads) : List Addr := [ro 0, ro 1, a.ra, a.qa, a.ia, a.nu, a.it]

structure MB (a : Ads) (m : Str → Option Value) : Prop where
  mn : m "numbers" = some (.ref a.nu)
  mq : m "queues" = some (.ref a.qa)
  mr : m "rows" = some (.ref a.ra)
  mi : m "items" = some (.ref a.ia)
def mbNames : List Str := ["numbers", "queues", "rows", "items"]
theorem MB.set {a : Ads} {m : Str → Option Value} {x : Str} {v : Option Value} (h : MB a m) (hx : mbNames.all (fun y => !(y == x)) = true) : MB a (fun y => if y = x then v else m y) := by
  simp only [mbNames, List.all_cons, List.all_nil, Bool.and_true, Bool.and_eq_true, Bool.not_eq_true', beq_eq_false_iff_ne] at hx
  exact ⟨by rw [if_neg hx.1]; exact h.mn, by rw [if_neg hx.2.1]; exact h.mq, by rw [if_neg hx.2.2.1]; exact h.mr, by rw [if_neg hx.2.2.2]; exact h.mi⟩

/-- a list object of these items -/
def LstO (o : Obj) (vs : List Value) : Prop := o.cls = .type "list" ∧ ∃ n, o.data = .seq vs.toArray n
theorem LstO.list {o : Obj} {vs : List Value} {h : Heap} {a : Addr} (x : LstO o vs) (e : h.get? a = some o) : h.IsList a vs.toArray := ⟨o, e, x⟩

structure LS (base : Heap) (c : Cfg 8) (outer : List Env) (h₀ : Heap) (env : Env) (a : Ads) (oI oR : Obj) (m : Str → Option Value) (σ : NS) (r : Rows2) (ro : Nat → Addr) (n : Nat → Nat) (gens : Array GenState) (h : Heap) : Prop where
  st : St base c outer h₀ env m σ (os7 c r ro n a oI oR) h
  ow : Owns base c (env :: outer) h₀ (as7 ro a)
  rep : Rep σ r
  bare : AllBare gens
  mb : MB a m
  lr : LstO oR (rvs ro)

/-- a turn's own names -/
structure TM (c : Cfg 8) (m : Str → Option Value) (ro : Nat → Addr) (r : Rows2) (q j dd pl : Nat) (fr : Bool) : Prop where
  deed : ∃ t, m "deed" = some (.int (dd : Int) t)
  here : ∃ t, m "here" = some (.int (q : Int) t)
  item : m "item" = some (.ref (c.na j))
  place : ∃ t, m "place" = some (.int (pl : Int) t)
  queue : m "queue" = some (.ref (c.na q))
  row : m "row" = some (.ref (ro q))
  other : m "other" = some (.ref (ro (1 - q)))
  free : m "free" = some (.bool fr)
  hq : q < 2
  h2 : 2 ≤ j
  h8 : j < 8
  hf : fr = true ↔ Mine.free r j

section
variable {M : Model} {A : Around} {E : Value → Shared → Prop} {s : Shared} {env : Env}
theorem r_args3 {e e₂ e₃ : Expr} {pos : Pos} {Q : List Value → Shared → Prop} (h : wpAny M A (eval e env) (fun v s₁ => wpAny M A (eval e₂ env) (fun v₂ s₂ => wpAny M A (eval e₃ env) (fun v₃ s₃ => Q [v, v₂, v₃] s₃) E s₂) E s₁) E s)
    (he : starEach [e, e₂, e₃] env = (false, eval e env) :: starEach [e₂, e₃] env := by rfl) (he₂ : starEach [e₂, e₃] env = (false, eval e₂ env) :: starEach [e₃] env := by rfl) (he₃ : starEach [e₃] env = (false, eval e₃ env) :: starEach [] env := by rfl) :
    wpAny M A (spliced (backTo pos (starEach [e, e₂, e₃] env))) Q E s := spliced_more (wpAny_mono h (fun _ _ q => r_args2 q he₂ he₃) fun _ _ q => q) he
theorem bcall1 {id : String} {first : List Value} {e : Expr} {pos : Pos} {Q : Value → Shared → Prop} (h : wpAny M A (eval e env) (fun v s₁ => wpAny M A (call (.builtin id) (first ++ [v])) Q E s₁) E s)
    (he : starEach [e] env = (false, eval e env) :: starEach [] env := by rfl) : wpAny M A (callWith pos (.builtin id) first (backTo pos (starEach [e] env)) []) Q E s := by
  have h' := r_args1 (pos := pos) (Q := fun vs s₁ => wpAny M A (call (.builtin id) (first ++ vs)) Q E s₁) h he
  rw [he] at h' ⊢
  exact callWith_builtin rfl (evalArgs_plain h')
theorem bcall2 {id : String} {first : List Value} {e e₂ : Expr} {pos : Pos} {Q : Value → Shared → Prop} (h : wpAny M A (eval e env) (fun v s₁ => wpAny M A (eval e₂ env) (fun v₂ s₂ => wpAny M A (call (.builtin id) (first ++ [v, v₂])) Q E s₂) E s₁) E s)
    (he : starEach [e, e₂] env = (false, eval e env) :: starEach [e₂] env := by rfl) (he₂ : starEach [e₂] env = (false, eval e₂ env) :: starEach [] env := by rfl) : wpAny M A (callWith pos (.builtin id) first (backTo pos (starEach [e, e₂] env)) []) Q E s := by
  have h' := r_args2 (pos := pos) (Q := fun vs s₁ => wpAny M A (call (.builtin id) (first ++ vs)) Q E s₁) h he he₂
  rw [he, he₂] at h' ⊢
  exact callWith_builtin rfl (evalArgs_plain h')
end

section
variable {base h₀ h h' : Heap} {c : Cfg 8} {outer : List Env} {m : Str → Option Value} {σ σ' : NS} {xs : List (Addr × Obj)} {env : Env} {r : Rows2} {ro : Nat → Addr} {n : Nat → Nat} {a : Ads} {oI oR : Obj} {q : Nat}

theorem os7_row (hq : q < 2) : (ro q, rO c (r q) (n q)) ∈ os7 c r ro n a oI oR := by
  have : q = 0 ∨ q = 1 := by omega
  rcases this with rfl | rfl
  · exact .head _
  · exact .tail _ (.head _)
theorem as7_row (hq : q < 2) : ro q ∈ as7 ro a := by
  have : q = 0 ∨ q = 1 := by omega
  rcases this with rfl | rfl
  · exact .head _
  · exact .tail _ (.head _)

/-- a row is written -/
theorem St.row {l : List Nat} {n' : Nat} (S : St base c outer h₀ env m σ (xs ++ os7 c r ro n a oI oR) h) (O : Owns base c (env :: outer) h₀ (xs.map Prod.fst ++ as7 ro a)) (hq : q < 2) (hs : Heap.SameBut (ro q) h h') (e : h'.get? (ro q) = some (rO c l n')) :
    St base c outer h₀ env m σ (xs ++ os7 c (r.up q l) ro (fun k => if k = q then n' else n k) a oI oR) h' := by
  have hd := List.nodup_append.mp O.nodup
  refine S.put (O.all _ (List.mem_append_right _ (as7_row hq))) hs fun p hp => ?_
  rcases List.mem_append.mp hp with hp | hp
  · exact .inl ⟨List.mem_append_left _ hp, hd.2.2 _ (List.mem_map.mpr ⟨p, hp, rfl⟩) _ (as7_row hq)⟩
  · have h7 := hd.2.1
    have inl : ∀ {p : Addr × Obj}, p ∈ os7 c r ro n a oI oR → p.1 ≠ ro q → p ∈ xs ++ os7 c r ro n a oI oR ∧ p.1 ≠ ro q := fun h1 h2 => ⟨List.mem_append_right _ h1, h2⟩
    have ne : ∀ {i j : Nat} {x y : Addr}, (as7 ro a)[i]? = some x → (as7 ro a)[j]? = some y → i ≠ j → x ≠ y := fun {i j x y} hi hj hij z => by
      subst z
      exact hij ((List.getElem?_inj (by obtain ⟨hl, _⟩ := List.getElem?_eq_some_iff.mp hi; exact hl) h7).mp (hi.trans hj.symm))
    have hc : q = 0 ∨ q = 1 := by omega
    rcases hc with rfl | rfl
    · simp only [os7, List.mem_cons, List.not_mem_nil, or_false] at hp
      rcases hp with rfl | rfl | rfl | rfl | rfl | rfl | rfl
      · exact .inr ⟨rfl, by rw [e]; simp [Rows2.up]⟩
      · refine .inl (inl ?_ (ne (i := 1) (j := 0) rfl rfl (by decide)))
        simp [Rows2.up]
      · exact .inl (inl (by simp) (ne (i := 2) (j := 0) rfl rfl (by decide)))
      · exact .inl (inl (by simp) (ne (i := 3) (j := 0) rfl rfl (by decide)))
      · exact .inl (inl (by simp) (ne (i := 4) (j := 0) rfl rfl (by decide)))
      · exact .inl (inl (by simp) (ne (i := 5) (j := 0) rfl rfl (by decide)))
      · exact .inl (inl (by simp) (ne (i := 6) (j := 0) rfl rfl (by decide)))
    · simp only [os7, List.mem_cons, List.not_mem_nil, or_false] at hp
      rcases hp with rfl | rfl | rfl | rfl | rfl | rfl | rfl
      · refine .inl (inl ?_ (ne (i := 0) (j := 1) rfl rfl (by decide)))
        simp [Rows2.up]
      · exact .inr ⟨rfl, by rw [e]; simp [Rows2.up]⟩
      · exact .inl (inl (by simp) (ne (i := 2) (j := 1) rfl rfl (by decide)))
      · exact .inl (inl (by simp) (ne (i := 3) (j := 1) rfl rfl (by decide)))
      · exact .inl (inl (by simp) (ne (i := 4) (j := 1) rfl rfl (by decide)))
      · exact .inl (inl (by simp) (ne (i := 5) (j := 1) rfl rfl (by decide)))
      · exact .inl (inl (by simp) (ne (i := 6) (j := 1) rfl rfl (by decide)))
theorem St.row0 {l : List Nat} {n' : Nat} (S : St base c outer h₀ env m σ (os7 c r ro n a oI oR) h) (O : Owns base c (env :: outer) h₀ (as7 ro a)) (hq : q < 2) (hs : Heap.SameBut (ro q) h h') (e : h'.get? (ro q) = some (rO c l n')) :
    St base c outer h₀ env m σ (os7 c (r.up q l) ro (fun k => if k = q then n' else n k) a oI oR) h' := S.row (xs := []) O hq hs e
end
end Mine

namespace Mine
open PySem PySem.W PySem.Calls PyProof.Rows PySem.SeqAt
example (w : World) : hd.heap_39 w.params = hd.heap_39 w.params ∧ PySem.Challenge.rw_bi0011_01 = PySem.Challenge.rw_bi0011_01 := by
  k_fill
  exact ⟨rfl, rfl⟩
local macro_rules | `(tactic| k_is) => `(tactic| (delta KF; k_is))

section
variable {prog : Program} {w : World} {base h₀ : Heap} {c : Cfg 8} {outer : List Env} {m : Str → Option Value} {σ : NS} {A : Around} {E : Value → Shared → Prop} {s : Shared} {r : Rows2} {ro : Nat → Addr} {n : Nat → Nat} {ad : Ads} {oI oR : Obj} {q j dd pl : Nat} {fr : Bool}
  {qual : Str} {body : List Stmt} {scope : Scope} {L f : Addr} {cd : Value}

theorem arm_pop {Q : Flow → Shared → Prop} (hb : LawIs w qual body scope) (X : Cx w base c) (a : Amb A (envOf qual scope L f cd :: outer) 30 300) (l : LS base c outer h₀ (envOf qual scope L f cd) ad oI oR m σ r ro n s.gens s.heap) (t : TM c m ro r q j dd pl fr)
    (hQ : ∀ h' tk gens' m' σ' r' ro' n' oR', LS base c outer h₀ (envOf qual scope L f cd) ad oI oR' m' σ' r' ro' n' gens' h' → Q .next { s with heap := h', toks := tk, gens := gens' }) :
    wpAny (model prog w) A (execs (arm3 body) (envOf qual scope L f cd)) Q E s := by
  obtain ⟨rfl, rfl, rfl⟩ := law_eq (by k_is) hb
  clear hb
  have S := l.st
  have hs := l.rep.short t.hq
  refine wpAny_execs_cons (wpAny_Assign_Name (MethodCall_ (r_name S t.queue (r_hmeth X S t.hq (l_pop w) (nmap_none t.hq (by decide) (by decide) (by decide) (by decide)) (callWith_K0 (S.K X) (l_pop w).kp ?_)))))
  obtain ⟨σ', H', D⟩ := pop_rep (w := w) (base := base) X l.rep t.hq
  refine call_does X D (a.mono (by decide) (by decide)) S fun h₁ tk₁ S₁ => ?_
  refine r_store (s := { s with heap := h₁, toks := tk₁ }) S₁ fun h₂ S₂ => ?_
  refine wpAny_execs_cons (wpAny_If (wpAny_isTrue_Compare1 (r_name (s := { s with heap := h₂, toks := tk₁ + 1 }) S₂ (if_pos rfl) (IfExp_ (isTrue_plain (r_name (s := { s with heap := h₂, toks := tk₁ + 1 }) S₂ (v := .ref (ro q)) (by rw [if_neg (by decide)]; exact t.row) ?_))))))
  refine truthy_list (s := { s with heap := h₂, toks := tk₁ + 1 }) (S₂.get (os7_row t.hq)) (by rw [List.length_map]; omega) ?_
  have fin : ∀ h' tk' n' m', MB ad m' → St base c outer h₀ _ m' σ' (os7 c (r.up q (r q).tail) ro n' ad oI oR) h' → Q .next { s with heap := h', toks := tk' } := fun h' tk' n' m' mb S' =>
    hQ h' tk' s.gens m' σ' _ ro n' oR ⟨S', l.ow, H', l.bare, mb, l.lr⟩
  cases e : r q with
  | nil =>
    refine ifF (by simp) (wpAny_Constant_none (isNot_none (wpAny_truthy_bool (ifF (by rfl) (wpAny_execs_nil (wpAny_execs_nil ?_))))))
    have er : r.up q (r q).tail = r := by
      funext k
      unfold Rows2.up
      split
      · rename_i z; rw [z, e]; rfl
      · rfl
    exact fin _ _ n _ (l.mb.set (by decide)) (er ▸ S₂)
  | cons y ys =>
    have hy := l.rep.rng q t.hq y (by rw [e]; exact .head _)
    refine ifT (by simp) (sub_list (r_name (s := { s with heap := h₂, toks := tk₁ + 1 + 1 + 1 }) S₂ (v := .ref ad.ia) (by rw [if_neg (by decide)]; exact l.mb.mi) (wpAny_BinOp (MethodCall_ (r_name (s := { s with heap := h₂, toks := tk₁ + 1 + 1 + 1 }) S₂ (v := .ref (ro q)) (by rw [if_neg (by decide)]; exact t.row) (l_method (S₂.get (os7_row t.hq)) PySem.F.slot_list_pop PySem.F.type_list_pop (bcall1 (wpAny_Constant_int ?_))))))))
    have eg : h₂.get? (ro q) = some (lO (num c y :: ys.map (num c)) (n q)) := by
      have := S₂.get (os7_row t.hq)
      rw [e] at this
      exact this
    refine pop0_list (s := { s with heap := h₂, toks := tk₁ + 1 + 1 + 1 + 1 }) eg (by rw [e] at hs; simp at hs; rw [List.length_map]; omega) fun h₃ n₃ hs₃ e₃ => ?_
    have S₃ := S₂.row0 l.ow t.hq hs₃ e₃
    refine wpAny_Constant_int (sub_int ?_)
    have ek : ((y : Int) - 1 - 1) = ((y - 2 : Nat) : Int) := by omega
    rw [ek]
    refine ⟨ad.ia, ivs c, y - 2, _, .ref (c.na y), rfl, rfl, lO_list (S₃.get (.tail _ (.tail _ (.tail _ (.tail _ (.head _)))))), by omega, ?_, ?_⟩
    · have := ivs_at (c := c) (k := y - 2) (by omega)
      rw [show y - 2 + 2 = y by omega] at this
      exact this
    · refine lv_isNot (s := { s with heap := h₃, toks := _ }) X S₃.nodes (fun _ _ e => e) hy.2 hy.2 (wpAny_truthy_bool (ifF (by simp) (wpAny_execs_nil (wpAny_execs_nil ?_))))
      rw [e] at fin
      refine fin h₃ _ _ _ ?_ S₃
      exact l.mb.set (by decide)
end
end Mine

namespace Mine
open PySem PySem.W PySem.Calls PyProof.Rows PySem.SeqAt
example (w : World) : hd.heap_39 w.params = hd.heap_39 w.params ∧ PySem.Challenge.rw_bi0011_01 = PySem.Challenge.rw_bi0011_01 := by
  k_fill
  exact ⟨rfl, rfl⟩
local macro_rules | `(tactic| k_is) => `(tactic| (delta KF; k_is))

/-- the same text, at another state -/
def StAs {base h₀ h : Heap} {c : Cfg 8} {outer : List Env} {m : Str → Option Value} {σ : NS} {os : List (Addr × Obj)} {env : Env} (_ : St base c outer h₀ env m σ os h) (m' : Str → Option Value) (σ' : NS) (os' : List (Addr × Obj)) (h' : Heap) : Prop :=
  St base c outer h₀ env m' σ' os' h'

theorem put_keep (w : World) : keepIn (KF w) (.ref 249) = true := by k_is
theorem same_keep (w : World) : keepIn (KF w) (.ref 254) = true := by k_is

section
variable {prog : Program} {w : World} {base h₀ : Heap} {c : Cfg 8} {outer : List Env} {m : Str → Option Value} {σ : NS} {A : Around} {E : Value → Shared → Prop} {s : Shared} {r r' : Rows2} {ro : Nat → Addr} {n : Nat → Nat} {ad : Ads} {oI oR : Obj} {q j dd pl : Nat} {fr : Bool}
  {qual : Str} {body : List Stmt} {scope : Scope} {L f : Addr} {cd : Value} {env : Env} {os : List (Addr × Obj)}

theorem call_doesR {f : Addr} {args : List Value} {d u : Nat} {v : Value} {Q : Value → Shared → Prop} (X : Cx w base c) (D : DoesR w base c f args d u r r' v) (a : Amb A (env :: outer) d u)
    (S : St base c outer h₀ env m σ os s.heap) (H : Rep σ r) (hab : AllBare s.gens) (h : ∀ h' tk gens' σ', AllBare gens' → St base c outer h₀ env m σ' os h' → Rep σ' r' → Q v { s with heap := h', toks := tk, gens := gens' }) : wpAny (model prog w) A (call (.ref f) args) Q E s :=
  wpAny_call (D prog A (env :: outer) s _ σ a S.ok S.nodes H hab fun h' tk gens' σ' hab' T N H' => h h' tk gens' σ' hab' (S.callee X T N) H')

theorem arm_clear {Q : Flow → Shared → Prop} (hb : LawIs w qual body scope) (X : Cx w base c) (a : Amb A (envOf qual scope L f cd :: outer) 30 300) (l : LS base c outer h₀ (envOf qual scope L f cd) ad oI oR m σ r ro n s.gens s.heap) (t : TM c m ro r q j dd pl fr)
    (hQ : ∀ h' tk gens' m' σ' r' ro' n' oR', LS base c outer h₀ (envOf qual scope L f cd) ad oI oR' m' σ' r' ro' n' gens' h' → Q .next { s with heap := h', toks := tk, gens := gens' }) :
    wpAny (model prog w) A (execs (arm4 body) (envOf qual scope L f cd)) Q E s := by
  obtain ⟨rfl, rfl, rfl⟩ := law_eq (by k_is) hb
  clear hb
  have S := l.st
  refine wpAny_execs_cons (wpAny_Expr (MethodCall_ (r_name S t.queue (r_hmeth X S t.hq (l_clear w) (nmap_none t.hq (by decide) (by decide) (by decide) (by decide)) (callWith_K0 (S.K X) (l_clear w).kp ?_)))))
  refine call_doesR X (clear_does X t.hq) (a.mono (by decide) (by decide)) S l.rep l.bare fun h₁ tk₁ gens₁ σ' hab₁ S₁ H₁ => ?_
  refine wpAny_execs_cons (wpAny_Assign_Subscript (wpAny_List (wpAny_items_nil ⟨by decide, ?_⟩)))
  have hD := fresh_size h₁
  have S₂ := S₁.born (h' := h₁.push { cls := .type "list", data := .seq ([] : List Value).toArray }) (o := rO c [] 0) (keeps_push _ _) hD (Heap.get?_push_size _ rfl)
  have O₂ := l.ow.born (os := os7 c r ro n ad oI oR) S₁ hD
  obtain ⟨th, hth⟩ := t.here
  refine r_name (s := { s with heap := h₁.push { cls := .type "list", data := .seq ([] : List Value).toArray }, toks := tk₁, gens := gens₁ }) S₂ l.mb.mr (r_name (s := { s with heap := h₁.push { cls := .type "list", data := .seq ([] : List Value).toArray }, toks := tk₁, gens := gens₁ }) S₂ hth ?_)
  have hq := t.hq
  generalize h₁.objs.size = D at hD S₂ O₂ ⊢
  refine wpAny_setItem_list (l.lr.list (S₂.get (.tail _ (.tail _ (.tail _ (.head _)))))) (by omega) (by omega) (by show (q : Int) < 2; omega) fun h₃ hl₃ hs₃ => ?_
  obtain ⟨oR', e₃, hc₃, n₃, hd₃⟩ := hl₃
  refine wpAny_execs_nil (hQ h₃ tk₁ gens₁ m σ' (r.up q []) (fun k => if k = q then D else ro k) (fun k => if k = q then 0 else n k) oR' ⟨S₂.put (O₂.all ad.ra (.tail _ (.tail _ (.tail _ (.head _))))) hs₃ fun p hp => ?_, ?_, H₁, hab₁, l.mb, hc₃, n₃, ?_⟩)
  · have ne : ∀ {i : Nat} {x : Addr}, (D :: as7 ro ad)[i]? = some x → i ≠ 3 → x ≠ ad.ra := fun hi hij => O₂.ne (j := 3) hi rfl hij
    have hc : q = 0 ∨ q = 1 := by omega
    rcases hc with rfl | rfl
    · simp only [os7, List.mem_cons, List.not_mem_nil, or_false] at hp
      rcases hp with rfl | rfl | rfl | rfl | rfl | rfl | rfl
      · exact .inl ⟨by simp [Rows2.up], ne (i := 0) rfl (by decide)⟩
      · exact .inl ⟨by simp [Rows2.up], ne (i := 2) rfl (by decide)⟩
      · exact .inr ⟨rfl, e₃⟩
      · exact .inl ⟨by simp, ne (i := 4) rfl (by decide)⟩
      · exact .inl ⟨by simp, ne (i := 5) rfl (by decide)⟩
      · exact .inl ⟨by simp, ne (i := 6) rfl (by decide)⟩
      · exact .inl ⟨by simp, ne (i := 7) rfl (by decide)⟩
    · simp only [os7, List.mem_cons, List.not_mem_nil, or_false] at hp
      rcases hp with rfl | rfl | rfl | rfl | rfl | rfl | rfl
      · exact .inl ⟨by simp [Rows2.up], ne (i := 1) rfl (by decide)⟩
      · exact .inl ⟨by simp [Rows2.up], ne (i := 0) rfl (by decide)⟩
      · exact .inr ⟨rfl, e₃⟩
      · exact .inl ⟨by simp, ne (i := 4) rfl (by decide)⟩
      · exact .inl ⟨by simp, ne (i := 5) rfl (by decide)⟩
      · exact .inl ⟨by simp, ne (i := 6) rfl (by decide)⟩
      · exact .inl ⟨by simp, ne (i := 7) rfl (by decide)⟩
  · have hn := O₂.nodup
    have hc : q = 0 ∨ q = 1 := by omega
    rcases hc with rfl | rfl
    · refine ⟨fun x hx => O₂.all x ?_, ?_⟩
      · simp only [as7, os7, List.map_cons, List.map_nil, List.mem_cons, List.not_mem_nil, or_false] at hx ⊢
        rcases hx with h | h
        · exact .inl (by simpa using h)
        · exact .inr (.inr (by simpa using h))
      · simp only [as7, os7, List.map_cons, List.map_nil] at hn ⊢
        have h1 := List.nodup_cons.mp hn
        have h2 := List.nodup_cons.mp h1.2
        simp only [if_true, show ¬ (1 = 0) by decide, if_false]
        exact List.nodup_cons.mpr ⟨fun z => h1.1 (.tail _ z), h2.2⟩
    · refine ⟨fun x hx => O₂.all x ?_, ?_⟩
      · simp only [as7, os7, List.map_cons, List.map_nil, List.mem_cons, List.not_mem_nil, or_false] at hx ⊢
        rcases hx with h | h | h
        · exact .inr (.inl (by simpa using h))
        · exact .inl (by simpa using h)
        · exact .inr (.inr (.inr h))
      · simp only [as7, os7, List.map_cons, List.map_nil] at hn ⊢
        have h1 := List.nodup_cons.mp hn
        have h2 := List.nodup_cons.mp h1.2
        have h3 := List.nodup_cons.mp h2.2
        simp only [if_true, show ¬ (0 = 1) by decide, if_false]
        refine List.nodup_cons.mpr ⟨fun z => ?_, List.nodup_cons.mpr ⟨fun z => h1.1 (.tail _ (.tail _ z)), h3.2⟩⟩
        rcases List.mem_cons.mp z with z | z
        · exact h1.1 (z ▸ .head _)
        · exact h2.1 (.tail _ z)
  · rw [hd₃]
    have hc : q = 0 ∨ q = 1 := by omega
    rcases hc with rfl | rfl <;> rfl
end
end Mine

namespace Mine
open PySem PySem.W PySem.Calls PyProof.Rows PySem.SeqAt
example (w : World) : hd.heap_39 w.params = hd.heap_39 w.params ∧ PySem.Challenge.rw_bi0011_01 = PySem.Challenge.rw_bi0011_01 := by
  k_fill
  exact ⟨rfl, rfl⟩
local macro_rules | `(tactic| k_is) => `(tactic| (delta KF; k_is))

/-- the rows before i are rid of j -/
def ridTo (r : Rows2) (j i : Nat) : Rows2 := fun p => if p < i then (r p).erase j else r p
theorem ridTo_zero {r : Rows2} {j : Nat} : ridTo r j 0 = r := by funext p; unfold ridTo; rw [if_neg (Nat.not_lt_zero _)]
theorem ridTo_succ {r : Rows2} {j i : Nat} : ridTo r j (i + 1) = (ridTo r j i).up i ((r i).erase j) := by
  funext p
  unfold ridTo Rows2.up
  by_cases h1 : p = i
  · subst h1; rw [if_pos (Nat.lt_succ_self _), if_pos rfl]
  · rw [if_neg h1]
    show _ = if p < i then (r p).erase j else r p
    by_cases h2 : p < i
    · rw [if_pos h2, if_pos (by omega)]
    · rw [if_neg h2, if_neg (by omega)]
theorem ridTo_at {r : Rows2} {j i : Nat} : ridTo r j i i = r i := by unfold ridTo; rw [if_neg (Nat.lt_irrefl _)]

/-- the rows are being rid of an item -/
def RmI {w : World} {base h₀ h : Heap} {c : Cfg 8} {outer : List Env} {m : Str → Option Value} {σ : NS} {os : List (Addr × Obj)} {env : Env} (_ : Cx w base c)
    (_ : St base c outer h₀ env m σ os h) (ad : Ads) (oI oR : Obj) (r : Rows2) (ro : Nat → Addr) (j : Nat) (it : Addr) (s : Shared) (i : Nat) (s' : Shared) : Prop :=
  ∃ h tk m o n, s' = { s with heap := h, toks := tk } ∧ i ≤ 2 ∧ St base c outer h₀ env m σ ((it, o) :: os7 c (ridTo r j i) ro n ad oI oR) h ∧ h.IsListIter it ad.ra i ∧ MB ad m ∧ m "item" = some (.ref (c.na j))

section
variable {prog : Program} {w : World} {base h₀ : Heap} {c : Cfg 8} {outer : List Env} {m : Str → Option Value} {σ : NS} {A : Around} {E : Value → Shared → Prop} {s : Shared} {r r' : Rows2} {ro : Nat → Addr} {n : Nat → Nat} {ad : Ads} {oI oR : Obj} {q j dd pl : Nat} {fr : Bool}
  {qual : Str} {body : List Stmt} {scope : Scope} {L f : Addr} {cd : Value} {env : Env} {os : List (Addr × Obj)}

theorem arm_remove {Q : Flow → Shared → Prop} (hb : LawIs w qual body scope) (X : Cx w base c) (a : Amb A (envOf qual scope L f cd :: outer) 30 300) (l : LS base c outer h₀ (envOf qual scope L f cd) ad oI oR m σ r ro n s.gens s.heap) (t : TM c m ro r q j dd pl fr)
    (hQ : ∀ h' tk gens' m' σ' r' ro' n' oR', LS base c outer h₀ (envOf qual scope L f cd) ad oI oR' m' σ' r' ro' n' gens' h' → Q .next { s with heap := h', toks := tk, gens := gens' }) :
    wpAny (model prog w) A (execs (arm2 body) (envOf qual scope L f cd)) Q E s := by
  obtain ⟨rfl, rfl, rfl⟩ := law_eq (by k_is) hb
  clear hb
  have S := l.st
  have h2 := t.h2
  have h8 := t.h8
  obtain ⟨σ', H', D⟩ := remove_rep (w := w) (base := base) (q := q) X l.rep t.hq t.h2 t.h8
  refine wpAny_execs_cons (wpAny_Expr (MethodCall_ (r_name S t.queue (r_hmeth X S t.hq (l_remove w) (nmap_none t.hq (by decide) (by decide) (by decide) (by decide)) (callWith_K (S.K X) (l_remove w).kp (r_args1 (r_name S t.item ⟨S.K X, ?_⟩)))))))
  refine call_does X D (a.mono (by decide) (by decide)) S fun h₁ tk₁ S₁ => ?_
  refine wpAny_execs_cons (wpAny_For (r_name (s := { s with heap := h₁, toks := tk₁ }) S₁ l.mb.mr ?_))
  refine wpAny_pyIter_list (l.lr.list (S₁.get (.tail _ (.tail _ (.head _))))) ?_
  have hit := fresh_size h₁
  have S₂ := S₁.born (h' := h₁.push { cls := .type "list_iterator", data := .fields #[.ref ad.ra, .int 0 0] }) (keeps_push _ _) hit (Heap.get?_push_size _ rfl)
  have O₂ := l.ow.born (os := os7 c r ro n ad oI oR) S₁ hit
  generalize hI : h₁.objs.size = I at hit S₂ O₂ ⊢
  refine forL (a := ad.ra) (vs := rvs ro) (RmI X S₁ ad oI oR r ro j I s) a.handled ?_ ?_ ?_ ?_
  · rintro i s' ⟨h, tk, m', o, n', rfl, hi, S', hR, _⟩
    exact ⟨hi, hR, l.lr.list (S'.get (.tail _ (.tail _ (.tail _ (.head _)))))⟩
  · rintro i v s' hv ⟨h₃, tk₃, m₃, o₃, n₃, rfl, hi, S₃, hR, mb, mi⟩ h₄ hi₄ hs₄
    obtain ⟨hk, _⟩ := List.getElem?_eq_some_iff.mp hv
    have hi2 : i < 2 := hk
    rw [rvs_at hi2] at hv
    cases hv
    obtain ⟨o₄, e₄, hI₄⟩ := id hi₄
    have S₄ := S₃.write (i := 0) O₂ rfl hs₄ e₄
    refine wpAny_assign_Name (r_store (s := { s with heap := h₄, toks := tk₃ }) S₄ fun h₅ S₅ => ?_)
    have mi₅ : (if ("item" : Str) = "one" then some (Value.ref (ro i)) else m₃ "item") = some (.ref (c.na j)) := by rw [if_neg (by decide)]; exact mi
    have hrow : ∀ n', (ro i, rO c (ridTo r j i i) (n' i)) ∈ (I, o₄) :: os7 c (ridTo r j i) ro n' ad oI oR := fun n' => .tail _ (os7_row hi2)
    refine wpAny_execs_cons (wpAny_If (wpAny_isTrue_Compare1 (Attribute_Name_ (r_name (s := { s with heap := h₅, toks := tk₃ + 1 }) S₅ mi₅ (r_path (s := { s with heap := h₅, toks := tk₃ + 1 }) X (a.mono (by decide) (by decide)) S₅ h2 h8 fun h₆ tk₆ S₆ => ?_)))))
    refine r_name (s := { s with heap := h₆, toks := tk₆ }) S₆ (if_pos rfl) (in_row (S₆.get (hrow _)) (wpAny_truthy_bool ?_))
    rw [ridTo_at]
    have fin : ∀ h' tk' n', StAs S (fun y => if y = "one" then some (Value.ref (ro i)) else m₃ y) σ' ((I, o₄) :: os7 c (ridTo r j (i + 1)) ro n' ad oI oR) h' → RmI X S₁ ad oI oR r ro j I s (i + 1) { s with heap := h', toks := tk' } := fun h' tk' n' S' =>
      ⟨h', tk', _, o₄, n', rfl, hi2, S', ⟨o₄, S'.get (.head _), hI₄⟩, mb.set (by decide), mi₅⟩
    by_cases hm : j ∈ r i
    · refine ifT (by simp [hm]) (wpAny_execs_cons (wpAny_Expr (MethodCall_ (r_name (s := { s with heap := h₆, toks := tk₆ }) S₆ (if_pos rfl) (l_method (S₆.get (hrow _)) PySem.F.slot_list_remove PySem.F.type_list_remove (bcall1 (Attribute_Name_ (r_name (s := { s with heap := h₆, toks := tk₆ }) S₆ mi₅ (r_path (s := { s with heap := h₆, toks := tk₆ }) X (a.mono (by decide) (by decide)) S₆ h2 h8 fun h₇ tk₇ S₇ => ?_)))))))))
      have e₇ := S₇.get (hrow _)
      rw [ridTo_at] at e₇
      have hsh := l.rep.short hi2
      refine remove_row (s := { s with heap := h₇, toks := tk₇ }) e₇ hm (l.rep.nd i hi2) (by omega) fun h₈ n₈ hs₈ e₈ => ?_
      have S₈ := S₇.row (xs := [(I, o₄)]) O₂ hi2 hs₈ e₈
      rw [← ridTo_succ] at S₈
      exact wpAny_execs_nil (wpAny_execs_nil (fin _ _ (fun k => if k = i then n₈ else n₃ k) S₈))
    · refine ifF (by simp [hm]) (wpAny_execs_nil (wpAny_execs_nil (fin _ _ n₃ ?_)))
      have : ridTo r j (i + 1) = ridTo r j i := by
        rw [ridTo_succ, List.erase_of_not_mem hm]
        funext p
        unfold Rows2.up
        split
        · rename_i z; rw [z, ridTo_at]
        · rfl
      rw [this]
      exact S₆
  · rintro s' ⟨h, tk, m', o, n', rfl, hi, S', hR, mb, _⟩ h₃ hs₃
    have S₃ := S'.putE (os' := os7 c (ridTo r j 2) ro n' ad oI oR) (O₂.all I (.head _)) hs₃ fun p hp => .inl ⟨.tail _ hp, O₂.head_ne _ (List.mem_map.mpr ⟨p, hp, rfl⟩ : p.1 ∈ (os7 c (ridTo r j 2) ro n' ad oI oR).map Prod.fst)⟩
    refine wpAny_execs_nil (hQ h₃ tk s.gens m' σ' (ridTo r j 2) ro n' oR ⟨S₃, l.ow, H'.congr fun p hp => ?_, l.bare, mb, l.lr⟩)
    unfold ridTo Rows2.del
    rw [if_pos hp]
  · exact ⟨_, _, m, _, n, rfl, by decide, by rw [ridTo_zero]; exact S₂, ⟨_, S₂.get (.head _), rfl, rfl⟩, l.mb, t.item⟩
end
end Mine

namespace Mine
open PySem PySem.W PySem.Calls PyProof.Rows PySem.SeqAt
example (w : World) : hd.heap_39 w.params = hd.heap_39 w.params ∧ PySem.Challenge.rw_bi0011_01 = PySem.Challenge.rw_bi0011_01 := by
  k_fill
  exact ⟨rfl, rfl⟩
local macro_rules | `(tactic| k_is) => `(tactic| (delta KF; k_is))

section
variable {prog : Program} {w : World} {base h₀ : Heap} {c : Cfg 8} {outer : List Env} {m : Str → Option Value} {σ : NS} {A : Around} {E : Value → Shared → Prop} {s : Shared} {r r' : Rows2} {ro : Nat → Addr} {n : Nat → Nat} {ad : Ads} {oI oR : Obj} {q j dd pl : Nat} {fr : Bool}
  {qual : Str} {body : List Stmt} {scope : Scope} {L f : Addr} {cd : Value} {env : Env} {os : List (Addr × Obj)}

theorem arm_put {Q : Flow → Shared → Prop} (hb : LawIs w qual body scope) (X : Cx w base c) (a : Amb A (envOf qual scope L f cd :: outer) 30 300) (l : LS base c outer h₀ (envOf qual scope L f cd) ad oI oR m σ r ro n s.gens s.heap) (t : TM c m ro r q j dd pl fr)
    (hQ : ∀ h' tk gens' m' σ' r' ro' n' oR', LS base c outer h₀ (envOf qual scope L f cd) ad oI oR' m' σ' r' ro' n' gens' h' → Q .next { s with heap := h', toks := tk, gens := gens' }) :
    wpAny (model prog w) A (execs (arm1 body) (envOf qual scope L f cd)) Q E s := by
  obtain ⟨rfl, rfl, rfl⟩ := law_eq (by k_is) hb
  clear hb
  have S := l.st
  have h2 := t.h2
  have h8 := t.h8
  have hsh := l.rep.short t.hq
  obtain ⟨td, hdd⟩ := t.deed
  refine wpAny_execs_cons (wpAny_If (wpAny_isTrue_Compare1 (Call_Name rfl (r_global X S (v := .ref 249) (by simp [globalNames]) (callWith_K (S.K X) (put_keep w) (r_args3 (r_name S t.queue (r_name S t.item (wpAny_Compare1 (r_name S hdd (wpAny_Constant_int (eq_int ⟨S.K X, ?_⟩))))))))))))
  cases fr with
  | false =>
    have hf : ¬ free r j := fun z => by have := t.hf.mpr z; cases this
    refine call_does (s := { s with toks := s.toks + 1 }) X (puth_rep X l.rep t.hq t.h2 t.h8 hf) (a.mono (by decide) (by decide)) S fun h₁ tk₁ S₁ => ?_
    refine r_name (s := { s with heap := h₁, toks := tk₁ }) S₁ t.free (RcNeAt.bool_bool _ _ prog w _ _ (wpAny_truthy_bool (ifF rfl (wpAny_execs_nil ?_))))
    refine wpAny_execs_cons (wpAny_If (isTrue_plain (r_name (s := { s with heap := h₁, toks := tk₁ }) S₁ t.free (wpAny_truthy_bool (ifF rfl (wpAny_execs_nil (wpAny_execs_nil ?_)))))))
    exact hQ _ _ _ m σ r ro n oR ⟨S₁, l.ow, l.rep, l.bare, l.mb, l.lr⟩
  | true =>
    have hf : free r j := t.hf.mp rfl
    obtain ⟨σ', H', D⟩ := putf_rep (w := w) (base := base) (b := ((dd : Int) == 3)) X l.rep t.hq t.h2 t.h8 hf
    refine call_does (s := { s with toks := s.toks + 1 }) X D (a.mono (by decide) (by decide)) S fun h₁ tk₁ S₁ => ?_
    refine r_name (s := { s with heap := h₁, toks := tk₁ }) S₁ t.free (RcNeAt.bool_bool _ _ prog w _ _ (wpAny_truthy_bool (ifF rfl (wpAny_execs_nil ?_))))
    refine wpAny_execs_cons (wpAny_If (isTrue_plain (r_name (s := { s with heap := h₁, toks := tk₁ }) S₁ t.free (wpAny_truthy_bool (ifT rfl ?_)))))
    refine wpAny_execs_cons (wpAny_Expr (MethodCall_ (r_name (s := { s with heap := h₁, toks := tk₁ }) S₁ t.row (l_method (S₁.get (os7_row t.hq)) PySem.F.slot_list_insert PySem.F.type_list_insert (bcall2 (IfExp_ (wpAny_isTrue_Compare1 (r_name (s := { s with heap := h₁, toks := tk₁ }) S₁ hdd (wpAny_Constant_int (eq_int (wpAny_truthy_bool ?_)))))))))))
    cases hb3 : ((dd : Int) == 3) with
    | true =>
      rw [hb3] at H'
      refine ifT rfl (wpAny_Constant_int (Attribute_Name_ (r_name (s := { s with heap := h₁, toks := tk₁ + 1 + 1 }) S₁ t.item (r_path (s := { s with heap := h₁, toks := tk₁ + 1 + 1 }) X (a.mono (by decide) (by decide)) S₁ h2 h8 fun h₂ tk₂ S₂ => ?_))))
      refine insert_list (s := { s with heap := h₂, toks := tk₂ }) (i := 0) (S₂.get (os7_row t.hq)) (by rw [List.length_map]; omega) (by omega) rfl fun h₃ n₃ hs₃ e₃ => ?_
      have S₃ := S₂.row0 (l := j :: r q) l.ow t.hq hs₃ e₃
      exact wpAny_execs_nil (wpAny_execs_nil (hQ _ _ _ m σ' _ ro _ oR ⟨S₃, l.ow, H', l.bare, l.mb, l.lr⟩))
    | false =>
      rw [hb3] at H'
      refine ifF rfl (Call_Name1 (r_builtin (s := { s with heap := h₁, toks := tk₁ + 1 }) X S₁ (v := .builtin "len") (by simp [builtinNames]) (PySem.callWith_builtin1 (r_name (s := { s with heap := h₁, toks := tk₁ + 1 }) S₁ t.row (len_list (s := { s with heap := h₁, toks := tk₁ + 1 }) (S₁.get (os7_row t.hq)) (by rw [List.length_map]; omega) ?_)))))
      refine Attribute_Name_ (r_name (s := { s with heap := h₁, toks := _ }) S₁ t.item (r_path (s := { s with heap := h₁, toks := _ }) X (a.mono (by decide) (by decide)) S₁ h2 h8 fun h₂ tk₂ S₂ => ?_))
      refine insert_list (s := { s with heap := h₂, toks := tk₂ }) (i := ((r q).map (num c)).length) (S₂.get (os7_row t.hq)) (by rw [List.length_map]; omega) (by omega) rfl fun h₃ n₃ hs₃ e₃ => ?_
      have e₃' : h₃.get? (ro q) = some (rO c (r q ++ [j]) n₃) := by
        rw [e₃, List.take_length, List.drop_length, ← List.map_singleton (f := num c), ← List.map_append]
      have S₃ := S₂.row0 l.ow t.hq hs₃ e₃'
      exact wpAny_execs_nil (wpAny_execs_nil (hQ _ _ _ m σ' _ ro _ oR ⟨S₃, l.ow, H', l.bare, l.mb, l.lr⟩))
end
end Mine

namespace Mine
open PySem PySem.W PySem.Calls PyProof.Rows PySem.SeqAt

section
variable {prog : Program} {w : World} {base h₀ : Heap} {nn : Nat} {c : Cfg nn} {outer : List Env} {m : Str → Option Value} {σ : NS} {A : Around} {E : Value → Shared → Prop} {s : Shared} {os : List (Addr × Obj)}
  {qual : Str} {scope : Scope} {L f : Addr} {cd : Value}

theorem tup2 {x y : Str} {e1 e2 : Expr} {p1 p2 tp tp2 pos : Pos} {k k2 : Nat} {Q : Flow → Shared → Prop} (hh : A.handled = none)
    (h : wpAny (model prog w) A (eval e1 (envOf qual scope L f cd)) (fun v1 s₁ => wpAny (model prog w) A (eval e2 (envOf qual scope L f cd)) (fun v2 s₂ => ∃ m σ os, St base c outer h₀ (envOf qual scope L f cd) m σ os s₂.heap ∧
      ∀ h' tk, St base c outer h₀ (envOf qual scope L f cd) (fun z => if z = x then some v1 else if z = y then some v2 else m z) σ os h' → Q .next { s₂ with heap := h', toks := tk }) E s₁) E s)
    (hs : swapsWithSole [.Tuple [.Name x p1, .Name y p2] k tp] (.Tuple [e1, e2] k2 tp2) pos.line (envOf qual scope L f cd) = pure false := by rfl)
    (hw : swappedStores [.Tuple [.Name x p1, .Name y p2] k tp] (.Tuple [e1, e2] k2 tp2) (envOf qual scope L f cd) = pure (some [x, y]) := by rfl)
    (he : starEach [e1, e2] (envOf qual scope L f cd) = (false, eval e1 (envOf qual scope L f cd)) :: starEach [e2] (envOf qual scope L f cd) := by rfl)
    (he2 : starEach [e2] (envOf qual scope L f cd) = (false, eval e2 (envOf qual scope L f cd)) :: starEach [] (envOf qual scope L f cd) := by rfl)
    (hk : scope.kind = .function := by rfl) (hx : (envOf qual scope L f cd).kindOf x = some .local := by rfl) (hy : (envOf qual scope L f cd).kindOf y = some .local := by rfl) :
    wpAny (model prog w) A (exec (.Assign [.Tuple [.Name x p1, .Name y p2] k tp] (.Tuple [e1, e2] k2 tp2) pos) (envOf qual scope L f cd)) Q E s := by
  refine Assign_Tuple_swapped (names := [x, y]) (wpAny_Tuple (wpAny_items_cons (wpAny_mono h (fun v1 s₁ h₁ => wpAny_items_cons (wpAny_mono h₁ (fun v2 s₂ h₂ => wpAny_items_nil ⟨(show 2 ≤ sizeLine by decide), ?_⟩) fun _ _ e => e) he2) fun _ _ e => e) he)) hs hw
  obtain ⟨m, σ, os, S, hQ⟩ := h₂
  refine unpackItems_tuple (items := #[v1, v2]) hh ⟨_, Heap.get?_push_size _ rfl, rfl, _, rfl⟩ fun h' he => ?_
  have S₁ := S.keeps (h' := h') fun b o e => he b o (by rw [Heap.size_push]; exact Nat.ne_of_lt (Nat.lt_succ_of_lt (Heap.lt_size e))) (Heap.get?_push_of_some _ e)
  show wpAny _ _ (assignInOrder [bindName _ y, bindName _ x] [v2, v1]) _ _ _
  refine assignInOrder_cons (wpAny_bindName (r_store (s := { s₂ with heap := h' }) S₁ (fun h₂ S₂ => ?_) hk hy))
  refine assignInOrder_cons (wpAny_bindName (r_store (s := { s₂ with heap := h₂, toks := s₂.toks + 1 }) S₂ (fun h₃ S₃ => ?_) hk hx))
  exact assignInOrder_nil (hQ _ _ S₃)
theorem tup3 {x y u : Str} {e1 e2 e3 : Expr} {p1 p2 p3 tp tp2 pos : Pos} {k k2 : Nat} {Q : Flow → Shared → Prop} (hh : A.handled = none)
    (h : wpAny (model prog w) A (eval e1 (envOf qual scope L f cd)) (fun v1 s₁ => wpAny (model prog w) A (eval e2 (envOf qual scope L f cd)) (fun v2 s₂ => wpAny (model prog w) A (eval e3 (envOf qual scope L f cd)) (fun v3 s₃ => ∃ m σ os, St base c outer h₀ (envOf qual scope L f cd) m σ os s₃.heap ∧
      ∀ h' tk, St base c outer h₀ (envOf qual scope L f cd) (fun z => if z = x then some v1 else if z = y then some v2 else if z = u then some v3 else m z) σ os h' → Q .next { s₃ with heap := h', toks := tk }) E s₂) E s₁) E s)
    (hs : swapsWithSole [.Tuple [.Name x p1, .Name y p2, .Name u p3] k tp] (.Tuple [e1, e2, e3] k2 tp2) pos.line (envOf qual scope L f cd) = pure false := by rfl)
    (hw : swappedStores [.Tuple [.Name x p1, .Name y p2, .Name u p3] k tp] (.Tuple [e1, e2, e3] k2 tp2) (envOf qual scope L f cd) = pure (some [x, y, u]) := by rfl)
    (he : starEach [e1, e2, e3] (envOf qual scope L f cd) = (false, eval e1 (envOf qual scope L f cd)) :: starEach [e2, e3] (envOf qual scope L f cd) := by rfl)
    (he2 : starEach [e2, e3] (envOf qual scope L f cd) = (false, eval e2 (envOf qual scope L f cd)) :: starEach [e3] (envOf qual scope L f cd) := by rfl)
    (he3 : starEach [e3] (envOf qual scope L f cd) = (false, eval e3 (envOf qual scope L f cd)) :: starEach [] (envOf qual scope L f cd) := by rfl)
    (hk : scope.kind = .function := by rfl) (hx : (envOf qual scope L f cd).kindOf x = some .local := by rfl) (hy : (envOf qual scope L f cd).kindOf y = some .local := by rfl) (hu : (envOf qual scope L f cd).kindOf u = some .local := by rfl) :
    wpAny (model prog w) A (exec (.Assign [.Tuple [.Name x p1, .Name y p2, .Name u p3] k tp] (.Tuple [e1, e2, e3] k2 tp2) pos) (envOf qual scope L f cd)) Q E s := by
  refine Assign_Tuple_swapped (names := [x, y, u]) (wpAny_Tuple (wpAny_items_cons (wpAny_mono h (fun v1 s₁ h₁ => wpAny_items_cons (wpAny_mono h₁ (fun v2 s₂ h₂ => wpAny_items_cons (wpAny_mono h₂ (fun v3 s₃ h₃ => wpAny_items_nil ⟨(show 3 ≤ sizeLine by decide), ?_⟩) fun _ _ e => e) he3) fun _ _ e => e) he2) fun _ _ e => e) he)) hs hw
  obtain ⟨m, σ, os, S, hQ⟩ := h₃
  refine unpackItems_tuple (items := #[v1, v2, v3]) hh ⟨_, Heap.get?_push_size _ rfl, rfl, _, rfl⟩ fun h' he => ?_
  have S₁ := S.keeps (h' := h') fun b o e => he b o (by rw [Heap.size_push]; exact Nat.ne_of_lt (Nat.lt_succ_of_lt (Heap.lt_size e))) (Heap.get?_push_of_some _ e)
  show wpAny _ _ (assignInOrder [bindName _ u, bindName _ y, bindName _ x] [v3, v2, v1]) _ _ _
  refine assignInOrder_cons (wpAny_bindName (r_store (s := { s₃ with heap := h' }) S₁ (fun h₂ S₂ => ?_) hk hu))
  refine assignInOrder_cons (wpAny_bindName (r_store (s := { s₃ with heap := h₂, toks := s₃.toks + 1 }) S₂ (fun h₃ S₃ => ?_) hk hy))
  refine assignInOrder_cons (wpAny_bindName (r_store (s := { s₃ with heap := h₃, toks := s₃.toks + 1 + 1 }) S₃ (fun h₄ S₄ => ?_) hk hx))
  exact assignInOrder_nil (hQ _ _ S₄)
end

/-- the rows behind a walk's deed at x -/
def deedR (q j dd : Nat) (fr : Bool) (r : Rows2) (x : Nat) : Rows2 :=
  if dd = 11 then (if fr = true then r.up q (r q ++ [j]) else r)
  else if 8 < dd then (r.up q ((r q).erase x)).up (if dd = 10 then q else 1 - q) ((r.up q ((r q).erase x)) (if dd = 10 then q else 1 - q) ++ [x])
  else r.up q ((r q).erase x)

def nextIn (q x : Nat) : List Nat → Nat
  | [] => q
  | y :: t => if y = x then t.headD q else nextIn q x t
theorem nextIn_split {q x : Nat} {l2 : List Nat} : ∀ {l1 : List Nat}, x ∉ l1 → nextIn q x (l1 ++ x :: l2) = l2.headD q
  | [], _ => if_pos rfl
  | y :: t, h => by
    have e : nextIn q x ((y :: t) ++ x :: l2) = nextIn q x (t ++ x :: l2) := if_neg (fun (z : y = x) => h (z ▸ .head _))
    rw [e]
    exact nextIn_split fun z => h (.tail _ z)

/-- a walk of n more tellings -/
def WkN (q j dd pl : Nat) (fr : Bool) : Nat → Rows2 → List Nat → Nat → Rows2 → List Nat → Prop
  | 0, r, told, cur, R, T => cur = q ∧ R = r ∧ T = told
  | n + 1, r, told, cur, R, T => cur ≠ q ∧ WkN q j dd pl fr n (if told.length = pl then deedR q j dd fr r cur else r) (told ++ [cur]) (nextIn q cur (r q)) R T

def RowsOk (r : Rows2) : Prop := ∃ σ, Rep σ r

section
variable {q j dd pl x : Nat} {fr : Bool} {r : Rows2} {l1 l2 : List Nat}

theorem up_same {l : List Nat} : (r.up q l) q = l := if_pos rfl
theorem up_other {l : List Nat} {p : Nat} (h : p ≠ q) : (r.up q l) p = r p := if_neg h

theorem cut_ok (hok : RowsOk r) (hq : q < 2) (e : r q = l1 ++ x :: l2) : RowsOk (r.up q ((r q).erase x)) ∧ (r q).erase x = l1 ++ l2 ∧ free (r.up q ((r q).erase x)) x := by
  obtain ⟨σ, H⟩ := hok
  have hd := H.nd q hq
  have hm : x ∈ r q := by rw [e]; simp
  have he : (r q).erase x = l1 ++ l2 := by rw [e] at hd ⊢; exact erase_split hd
  have hn : x ∉ (r q).erase x := fun z => (hd.mem_erase_iff.mp z).1 rfl
  refine ⟨⟨_, he ▸ H.remove hq e⟩, he, ?_⟩
  have hc : q = 0 ∨ q = 1 := by omega
  rcases hc with rfl | rfl
  · exact ⟨by rw [up_same]; exact hn, by rw [up_other (by decide)]; exact H.dj x hm⟩
  · exact ⟨by rw [up_other (by decide)]; exact fun z => H.dj x z hm, by rw [up_same]; exact hn⟩

theorem app_ok (hok : RowsOk r) (hq : q < 2) (h2 : 2 ≤ x) (h8 : x < 8) (hf : free r x) : RowsOk (r.up q (r q ++ [x])) := by
  obtain ⟨σ, H⟩ := hok
  exact ⟨_, H.append hq h2 h8 hf⟩

theorem tail_more {y : Nat} (e : r q = l1 ++ l2 ++ [y]) : ∃ l1' l2', r q = l1' ++ l2' ∧ l2'.headD q = l2.headD q ∧ l2'.length ≤ l2.length + 1 := by
  cases l2 with
  | nil => exact ⟨r q, [], (List.append_nil _).symm, rfl, Nat.zero_le _⟩
  | cons z t => exact ⟨l1, z :: t ++ [y], by rw [e, List.append_assoc], rfl, by simp⟩

theorem deed_ok (hok : RowsOk r) (hq : q < 2) (h2 : 2 ≤ j) (h8 : j < 8) (hfr : fr = true → free r j) (e : r q = l1 ++ x :: l2) :
    RowsOk (deedR q j dd fr r x) ∧ ∃ l1' l2', deedR q j dd fr r x q = l1' ++ l2' ∧ l2'.headD q = l2.headD q ∧ l2'.length ≤ l2.length + 1 := by
  unfold deedR
  have hx : 2 ≤ x ∧ x < 8 := by
    obtain ⟨σ, H⟩ := hok
    exact H.rng q hq x (by rw [e]; simp)
  by_cases h11 : dd = 11
  · rw [if_pos h11]
    cases fr with
    | true =>
      rw [if_pos rfl]
      exact ⟨app_ok hok hq h2 h8 (hfr rfl), tail_more (l1 := l1 ++ [x]) (y := j) (by rw [up_same, e]; simp)⟩
    | false =>
      rw [if_neg (by decide)]
      exact ⟨hok, l1 ++ [x], l2, by rw [e]; simp, rfl, Nat.le_succ _⟩
  · rw [if_neg h11]
    obtain ⟨hok', he, hf⟩ := cut_ok hok hq e
    by_cases h9 : 8 < dd
    · rw [if_pos h9]
      by_cases h10 : dd = 10
      · rw [if_pos h10]
        exact ⟨app_ok hok' hq hx.1 hx.2 hf, tail_more (l1 := l1) (y := x) (by rw [up_same, up_same, he])⟩
      · rw [if_neg h10]
        refine ⟨app_ok hok' (by omega) hx.1 hx.2 hf, l1, l2, ?_, rfl, Nat.le_succ _⟩
        rw [up_other (by omega), up_same, he]
    · rw [if_neg h9]
      exact ⟨hok', l1, l2, by rw [up_same, he], rfl, Nat.le_succ _⟩

theorem wk_exists (hq : q < 2) (h2 : 2 ≤ j) (h8 : j < 8) : ∀ (N : Nat) (r : Rows2) (told l1 l2 : List Nat), RowsOk r → r q = l1 ++ l2 → (told.length ≤ pl → fr = true → free r j) → l2.length + (if told.length ≤ pl then 1 else 0) ≤ N →
    ∃ n R T, n ≤ N ∧ WkN q j dd pl fr n r told (l2.headD q) R T := by
  intro N
  induction N with
  | zero =>
    intro r told l1 l2 hok e hfr hN
    have : l2 = [] := List.length_eq_zero_iff.mp (by omega)
    subst this
    exact ⟨0, r, told, Nat.le_refl _, rfl, rfl, rfl⟩
  | succ N ih =>
    intro r told l1 l2 hok e hfr hN
    cases l2 with
    | nil => exact ⟨0, r, told, Nat.zero_le _, rfl, rfl, rfl⟩
    | cons x l2 =>
      have hd : x ≠ q ∧ x ∉ l1 := by
        obtain ⟨σ, H⟩ := hok
        have := H.rng q hq x (by rw [e]; simp)
        have hn := H.nd q hq
        rw [e] at hn
        exact ⟨by omega, fun z => (List.nodup_append.mp hn).2.2 x z x (.head _) rfl⟩
      have hnx : nextIn q x (r q) = l2.headD q := by rw [e]; exact nextIn_split hd.2
      simp only [List.length_cons] at hN
      by_cases hp : told.length = pl
      · obtain ⟨hok', l1', l2', e', hh, hl⟩ := deed_ok (dd := dd) hok hq h2 h8 (hfr (by omega)) e
        rw [if_pos (by omega)] at hN
        obtain ⟨n, R, T, hn, W⟩ := ih (deedR q j dd fr r x) (told ++ [x]) l1' l2' hok' e' (fun z => by simp at z; omega) (by rw [if_neg (by simp; omega)]; omega)
        rw [hh] at W
        refine ⟨n + 1, R, T, by omega, hd.1, ?_⟩
        show WkN q j dd pl fr n (if told.length = pl then deedR q j dd fr r x else r) (told ++ [x]) (nextIn q x (r q)) R T
        rw [if_pos hp, hnx]; exact W
      · obtain ⟨n, R, T, hn, W⟩ := ih r (told ++ [x]) (l1 ++ [x]) l2 hok (by rw [e]; simp) (fun z => hfr (by simp at z; omega)) (by
          by_cases h3 : told.length ≤ pl
          · rw [if_pos h3] at hN
            rw [if_pos (by simp; omega)]; omega
          · rw [if_neg h3] at hN
            rw [if_neg (by simp; omega)]; omega)
        refine ⟨n + 1, R, T, by omega, hd.1, ?_⟩
        show WkN q j dd pl fr n (if told.length = pl then deedR q j dd fr r x else r) (told ++ [x]) (nextIn q x (r q)) R T
        rw [if_neg hp, hnx]; exact W

theorem WkN.len : ∀ {n : Nat} {r R : Rows2} {told T : List Nat} {cur : Nat}, WkN q j dd pl fr n r told cur R T → T.length = told.length + n
  | 0, _, _, _, _, _, h => by rw [h.2.2]; rfl
  | n + 1, _, _, _, _, _, h => by
    have := WkN.len h.2
    simp at this
    omega
end
end Mine

namespace Mine
open PySem PySem.W PySem.Calls PyProof.Rows PySem.SeqAt
example (w : World) : hd.heap_39 w.params = hd.heap_39 w.params ∧ PySem.Challenge.rw_bi0011_01 = PySem.Challenge.rw_bi0011_01 := by
  k_fill
  exact ⟨rfl, rfl⟩
local macro_rules | `(tactic| k_is) => `(tactic| (delta KF; k_is))

def stN (l : List Stmt) (i : Nat) : Stmt := match l[i]? with | some x => x | none => .Pass { line := 0, col := 0, endLine := 0, endCol := 0 }

def tmNames : List Str := ["deed", "here", "item", "place", "queue", "row", "other", "free"]
theorem TM.set {c : Cfg 8} {m : Str → Option Value} {ro : Nat → Addr} {r : Rows2} {q j dd pl : Nat} {fr : Bool} {x : Str} {v : Option Value} (h : TM c m ro r q j dd pl fr) (hx : tmNames.all (fun y => !(y == x)) = true) :
    TM c (fun y => if y = x then v else m y) ro r q j dd pl fr := by
  simp only [tmNames, List.all_cons, List.all_nil, Bool.and_true, Bool.and_eq_true, Bool.not_eq_true', beq_eq_false_iff_ne] at hx
  obtain ⟨h1, h2, h3, h4, h5, h6, h7, h8⟩ := hx
  exact ⟨by rw [if_neg h1]; exact h.deed, by rw [if_neg h2]; exact h.here, by rw [if_neg h3]; exact h.item, by rw [if_neg h4]; exact h.place, by rw [if_neg h5]; exact h.queue, by rw [if_neg h6]; exact h.row,
    by rw [if_neg h7]; exact h.other, by rw [if_neg h8]; exact h.free, h.hq, h.h2, h.h8, h.hf⟩

/-- what the walk's names say -/
structure WM (c : Cfg 8) (ad : Ads) (m : Str → Option Value) (ro : Nat → Addr) (r : Rows2) (q j dd pl : Nat) (fr : Bool) (ta da : Addr) : Prop where
  mb : MB ad m
  tm : TM c m ro r q j dd pl fr
  told : m "told" = some (.ref ta)
  due : m "due" = some (.ref da)
def wmNames : List Str := ["numbers", "queues", "rows", "items", "deed", "here", "item", "place", "queue", "row", "other", "free", "told", "due"]
theorem WM.set {c : Cfg 8} {ad : Ads} {m : Str → Option Value} {ro : Nat → Addr} {r : Rows2} {q j dd pl : Nat} {fr : Bool} {ta da : Addr} {x : Str} {v : Option Value} (h : WM c ad m ro r q j dd pl fr ta da)
    (hx : (mbNames.all (fun y => !(y == x)) && tmNames.all (fun y => !(y == x)) && !(("told" : Str) == x) && !(("due" : Str) == x)) = true) :
    WM c ad (fun y => if y = x then v else m y) ro r q j dd pl fr ta da := by
  simp only [Bool.and_eq_true, Bool.not_eq_true', beq_eq_false_iff_ne] at hx
  exact ⟨h.mb.set hx.1.1.1, h.tm.set hx.1.1.2, by rw [if_neg hx.1.2]; exact h.told, by rw [if_neg hx.2]; exact h.due⟩

/-- a queue is being walked -/
def FoI (prog : Program) {w : World} {A : Around} {base h₀ h : Heap} {c : Cfg 8} {outer : List Env} {m : Str → Option Value} {σ : NS} {os : List (Addr × Obj)} {env : Env} {d u : Nat} (_ : Cx w base c)
    (_ : St base c outer h₀ env m σ os h) (_ : Amb A (env :: outer) d u) (ad : Ads) (oI oR : Obj) (r R : Rows2) (ro : Nat → Addr) (n : Nat → Nat) (q j dd pl : Nat) (fr : Bool) (T : List Nat) (i : Nat) (g Lg ta da : Addr) (nd : Nat) (nm qn : Value) (s : Shared) (N : Nat) (s' : Shared) : Prop :=
  ∃ h tk gens m' σ' r' told nt ph gs oL l1 l2, s' = { s with heap := h, toks := tk, gens := gens } ∧
    St base c outer h₀ env m' σ' ((Lg, oL) :: (g, gobj i nm qn) :: (da, rO c [] nd) :: (ta, rO c told nt) :: os7 c r ro n ad oI oR) h ∧ WM c ad m' ro r q j dd pl fr ta da ∧ Rep σ' r' ∧ (told.length ≤ pl → r' = r) ∧
    CurP c q Lg ph σ' h (l2.headD q) ∧ r' q = l1 ++ l2 ∧ WkN q j dd pl fr N r' told (l2.headD q) R T ∧ gens[i]? = some gs ∧ Bb i gens ∧ GenGo prog w A.in1 base c (env :: outer) q Lg N gs ph

section
variable {prog : Program} {w : World} {base h₀ : Heap} {c : Cfg 8} {outer : List Env} {m : Str → Option Value} {σ : NS} {A : Around} {E : Value → Shared → Prop} {s : Shared} {r R : Rows2} {ro : Nat → Addr} {n : Nat → Nat} {ad : Ads} {oI oR : Obj} {q j dd pl N nd nt : Nat} {fr : Bool} {T : List Nat}
  {qual : Str} {body : List Stmt} {scope : Scope} {L f : Addr} {cd : Value} {ta da : Addr}

theorem walk_for {Q : Flow → Shared → Prop} (hb : LawIs w qual body scope) (X : Cx w base c) (a : Amb A (envOf qual scope L f cd :: outer) 30 300)
    (S : St base c outer h₀ (envOf qual scope L f cd) m σ ((da, rO c [] nd) :: (ta, rO c [] nt) :: os7 c r ro n ad oI oR) s.heap) (O : Owns base c (envOf qual scope L f cd :: outer) h₀ (da :: ta :: as7 ro ad)) (H : Rep σ r) (hab : AllBare s.gens) (wm : WM c ad m ro r q j dd pl fr ta da)
    (W : WkN q j dd pl fr N r [] ((r q).headD q) R T) (hT : T.length ≤ 20) (hdd : 7 < dd)
    (hQ : ∀ h' tk gens' m' σ' nt', AllBare gens' → St base c outer h₀ (envOf qual scope L f cd) m' σ' ((da, rO c [] nd) :: (ta, rO c T nt') :: os7 c r ro n ad oI oR) h' → Rep σ' R → WM c ad m' ro r q j dd pl fr ta da → Q .next { s with heap := h', toks := tk, gens := gens' }) :
    wpAny (model prog w) A (exec (stN (arm5 body) 1) (envOf qual scope L f cd)) Q E s := by
  obtain ⟨rfl, rfl, rfl⟩ := law_eq (by k_is) hb
  clear hb
  have hq := wm.tm.hq
  refine wpAny_For (r_name S wm.tm.queue (walk_iter X (a.mono (by decide) (by decide)) S hq fun h₂ tk₂ g Lg oL gs nm qn S₂ hLg hg F hgL go => ?_))
  have O₂ := Owns.born2 (os := (da, rO c [] nd) :: (ta, rO c [] nt) :: os7 c r ro n ad oI oR) O S hg hLg (Ne.symm hgL)
  refine codeAny_forLoop (FoI prog X S a ad oI oR r R ro n q j dd pl fr T s.gens.size g Lg ta da nd nm qn s) ?_ N ?_
  · rintro N' s' ⟨h₃, tk₃, gens, m₃, σ₃, r₃, told, nt₃, ph, gs₃, oL₃, l1, l2, rfl, S₃, wm₃, H₃, hr₃, C₃, e₃, W₃, hgs, hbb, go₃⟩
    obtain ⟨k, hk, hj8, hkl⟩ := H₃.cur hq e₃
    refine gen_next (k := k) (s := { s with heap := h₃, toks := tk₃, gens := gens }) (os := (g, gobj s.gens.size nm qn) :: (da, rO c [] nd) :: (ta, rO c told nt₃) :: os7 c r ro n ad oI oR) X (a.mono (by decide) (by decide)) (S₃.sub fun p hp => .tail _ hp) (.head _) hgs (O₂.all Lg (.head _)) ?_ C₃ hj8 hk go₃ ?_ hbb ?_ ?_
    · exact fun p hp => O₂.head_ne _ (List.mem_map.mpr ⟨p, hp, rfl⟩ : p.1 ∈ ((g, gobj s.gens.size nm qn) :: (da, rO c [] nd) :: (ta, rO c told nt₃) :: os7 c r ro n ad oI oR).map Prod.fst)
    · cases N' with
      | zero => exact .inl W₃.1
      | succ N' => exact .inr (by omega)
    · intro hjq h₄ tk₄ gens₄ hab₄ S₄
      cases N' with
      | succ N' => exact absurd hjq W₃.1
      | zero =>
        obtain ⟨_, rfl, rfl⟩ := W₃
        exact wpAny_execs_nil (hQ h₄ tk₄ gens₄ m₃ σ₃ nt₃ hab₄ (S₄.sub fun p hp => .tail _ hp) H₃ wm₃)
    · intro hjq h₄ tk₄ gs₄ gens₄ oL₄ hbb₄ hgs₄ S₄ C₄ go₄
      cases N' with
      | zero => exact absurd W₃.1 hjq
      | succ N' =>
        cases l2 with
        | nil => exact absurd rfl hjq
        | cons x l2 =>
          have W₄ : WkN q j dd pl fr N' (if told.length = pl then deedR q j dd fr r₃ x else r₃) (told ++ [x]) (nextIn q x (r₃ q)) R T := W₃.2
          have hx := H₃.rng q hq x (by rw [e₃]; simp)
          have hnx : nextIn q x (r₃ q) = l2.headD q := by
            have hn := H₃.nd q hq
            rw [e₃] at hn ⊢
            exact nextIn_split fun z => (List.nodup_append.mp hn).2.2 x z x (.head _) rfl
          have hTl := W₄.len
          simp only [List.length_append, List.length_cons, List.length_nil] at hTl
          have hk' := hkl (by simp)
          have fin : ∀ h₅ tk₅ σ₅ m₅ nt₅, StAs S m₅ σ₅ ((Lg, oL₄) :: (g, gobj s.gens.size nm qn) :: (da, rO c [] nd) :: (ta, rO c (told ++ [x]) nt₅) :: os7 c r ro n ad oI oR) h₅ → WM c ad m₅ ro r q j dd pl fr ta da →
              Rep σ₅ (if told.length = pl then deedR q j dd fr r₃ x else r₃) → ∃ M', M' < N' + 1 ∧ FoI prog X S a ad oI oR r R ro n q j dd pl fr T s.gens.size g Lg ta da nd nm qn s M' { s with heap := h₅, toks := tk₅, gens := gens₄ } := by
            intro h₅ tk₅ σ₅ m₅ nt₅ S₅ wm₅ H₅
            have hsp : ∃ l1' l2', (if told.length = pl then deedR q j dd fr r₃ x else r₃) q = l1' ++ l2' ∧ l2'.headD q = l2.headD q := by
              by_cases hp : told.length = pl
              · rw [if_pos hp]
                obtain ⟨_, l1', l2', h1, h2, _⟩ := deed_ok (dd := dd) ⟨σ₃, H₃⟩ hq wm.tm.h2 wm.tm.h8 (fun z => by rw [hr₃ (by omega)]; exact wm.tm.hf.mp z) e₃
                exact ⟨l1', l2', h1, h2⟩
              · rw [if_neg hp]
                exact ⟨l1 ++ [x], l2, by rw [e₃]; simp, rfl⟩
            obtain ⟨l1', l2', h1, h2⟩ := hsp
            refine ⟨N', Nat.lt_succ_self _, h₅, tk₅, gens₄, m₅, σ₅, _, told ++ [x], nt₅, true, gs₄, oL₄, l1', l2', rfl, S₅, wm₅, H₅, fun z => ?_, ?_, h1, ?_, hgs₄, hbb₄, go₄⟩
            · simp only [List.length_append, List.length_cons, List.length_nil] at z
              rw [if_neg (by omega)]
              exact hr₃ (by omega)
            · unfold CurP
              rw [if_pos rfl, h2]
              rw [hk'] at C₄
              obtain ⟨m', b1, b2⟩ := C₄
              refine ⟨m', ?_, b2⟩
              have e4 := S₄.get (a := Lg) (.head _)
              have e5 := St.get (a := Lg) S₅ (.head _)
              exact b1.at fun o e => by rw [e4] at e; cases e; exact e5
            · rw [h2, ← hnx]; exact W₄
          refine wpAny_assign_Name (r_store (s := { s with heap := h₄, toks := tk₄, gens := gens₄ }) S₄ fun h₅ S₅ => ?_)
          have wm₅ : WM c ad (fun y => if y = "one" then some (Value.ref (c.na x)) else m₃ y) ro r q j dd pl fr ta da := wm₃.set (by decide)
          refine wpAny_execs_cons (wpAny_Expr (MethodCall_ (r_name (s := { s with heap := h₅, toks := tk₄ + 1, gens := gens₄ }) S₅ wm₅.told (l_method (S₅.get (.tail _ (.tail _ (.tail _ (.head _))))) PySem.F.slot_list_append PySem.F.type_list_append (bcall1 (Attribute_Name_ (r_name (s := { s with heap := h₅, toks := tk₄ + 1, gens := gens₄ }) S₅ (if_pos rfl) (r_path (s := { s with heap := h₅, toks := tk₄ + 1, gens := gens₄ }) X (a.mono (by decide) (by decide)) S₅ hx.1 hx.2 fun h₆ tk₆ S₆ => ?_))))))))
          refine append_list (s := { s with heap := h₆, toks := tk₆, gens := gens₄ }) (S₆.get (.tail _ (.tail _ (.tail _ (.head _))))) (by rw [List.length_map]; omega) fun h₇ n₇ hs₇ e₇ => ?_
          have e₇' : h₇.get? ta = some (rO c (told ++ [x]) n₇) := by
            rw [e₇, ← List.map_singleton (f := num c), ← List.map_append]
          have S₇ := S₆.write (i := 3) O₂ rfl hs₇ e₇'
          refine wpAny_execs_cons (wpAny_If (wpAny_isTrue_Compare1 (Call_Name1 (r_builtin (s := { s with heap := h₇, toks := tk₆, gens := gens₄ }) X S₇ (v := .builtin "len") (by simp [builtinNames]) (PySem.callWith_builtin1 (r_name (s := { s with heap := h₇, toks := tk₆, gens := gens₄ }) S₇ wm₅.told (len_list (s := { s with heap := h₇, toks := tk₆, gens := gens₄ }) (S₇.get (.tail _ (.tail _ (.tail _ (.head _))))) (by rw [List.length_map]; simp; omega) ?_)))))))
          refine wpAny_Constant_int (gt_int (wpAny_truthy_bool (ifF (by simp; omega) (wpAny_execs_nil ?_))))
          obtain ⟨tp, hpl⟩ := wm₅.tm.place
          refine wpAny_execs_cons (wpAny_If (wpAny_isTrue_Compare1 (Call_Name1 (r_builtin (s := { s with heap := h₇, toks := _, gens := gens₄ }) X S₇ (v := .builtin "len") (by simp [builtinNames]) (PySem.callWith_builtin1 (r_name (s := { s with heap := h₇, toks := _, gens := gens₄ }) S₇ wm₅.told (len_list (s := { s with heap := h₇, toks := _, gens := gens₄ }) (S₇.get (.tail _ (.tail _ (.tail _ (.head _))))) (by rw [List.length_map]; simp; omega) ?_)))))))
          refine wpAny_BinOp (r_name (s := { s with heap := h₇, toks := _, gens := gens₄ }) S₇ hpl (wpAny_Constant_int (add_int (ne_int (wpAny_truthy_bool ?_)))))
          by_cases hp : told.length = pl
          · refine ifF (by simp; omega) (wpAny_execs_nil ?_)
            rw [if_pos hp] at fin
            have hrr := hr₃ (by omega)
            subst hrr
            obtain ⟨td, hdd'⟩ := wm₅.tm.deed
            obtain ⟨th, hth⟩ := wm₅.tm.here
            refine wpAny_execs_cons (wpAny_If (wpAny_isTrue_Compare1 (r_name (s := { s with heap := h₇, toks := _, gens := gens₄ }) S₇ hdd' (wpAny_Constant_int (eq_int (wpAny_truthy_bool ?_))))))
            by_cases h11 : dd = 11
            · refine ifT (by simp [h11]) (wpAny_execs_cons (wpAny_If (wpAny_isTrue_Compare1 (Call_Name rfl (r_global (s := { s with heap := h₇, toks := _, gens := gens₄ }) X S₇ (v := .ref 249) (by simp [globalNames]) (callWith_K (S₇.K X) (put_keep w) (r_args3 (r_name (s := { s with heap := h₇, toks := _, gens := gens₄ }) S₇ wm₅.tm.queue (r_name (s := { s with heap := h₇, toks := _, gens := gens₄ }) S₇ wm₅.tm.item (wpAny_Constant_bool ⟨S₇.K X, ?_⟩))))))))))
              cases fr with
              | true =>
                obtain ⟨σ', H', D⟩ := putf_rep (w := w) (base := base) (b := false) X H₃ hq wm.tm.h2 wm.tm.h8 (wm.tm.hf.mp rfl)
                refine call_does (s := { s with heap := h₇, toks := _, gens := gens₄ }) X D (a.mono (by decide) (by decide)) S₇ fun h₈ tk₈ S₈ => ?_
                refine r_name (s := { s with heap := h₈, toks := tk₈, gens := gens₄ }) S₈ wm₅.tm.free (RcNeAt.bool_bool _ _ prog w _ _ (wpAny_truthy_bool (ifF rfl (wpAny_execs_nil (wpAny_execs_nil (wpAny_execs_nil ?_))))))
                refine fin _ _ _ _ _ S₈ wm₅ ?_
                unfold deedR
                rw [if_pos h11, if_pos rfl]
                exact H'
              | false =>
                refine call_does (s := { s with heap := h₇, toks := _, gens := gens₄ }) X (puth_rep X H₃ hq wm.tm.h2 wm.tm.h8 (fun z => by have := wm.tm.hf.mpr z; cases this)) (a.mono (by decide) (by decide)) S₇ fun h₈ tk₈ S₈ => ?_
                refine r_name (s := { s with heap := h₈, toks := tk₈, gens := gens₄ }) S₈ wm₅.tm.free (RcNeAt.bool_bool _ _ prog w _ _ (wpAny_truthy_bool (ifF rfl (wpAny_execs_nil (wpAny_execs_nil (wpAny_execs_nil ?_))))))
                refine fin _ _ _ _ _ S₈ wm₅ ?_
                unfold deedR
                rw [if_pos h11, if_neg (by decide)]
                exact H₃
            · refine ifF (by simp; omega) (wpAny_execs_cons (wpAny_Expr (MethodCall_ (r_name (s := { s with heap := h₇, toks := _, gens := gens₄ }) S₇ wm₅.tm.queue (r_hmeth (s := { s with heap := h₇, toks := _, gens := gens₄ }) X S₇ hq (l_remove w) (nmap_none hq (by decide) (by decide) (by decide) (by decide)) (callWith_K (S₇.K X) (l_remove w).kp (r_args1 (r_name (s := { s with heap := h₇, toks := _, gens := gens₄ }) S₇ (if_pos rfl) ⟨S₇.K X, ?_⟩))))))))
              obtain ⟨σ', H', D⟩ := remove_rep (w := w) (base := base) X H₃ hq hx.1 hx.2
              have H'' : Rep σ' (r₃.up q ((r₃ q).erase x)) := H'.congr fun p hp' => by
                unfold Rows2.up Rows2.del
                split
                · rename_i z; rw [z]
                · rename_i z
                  exact (List.erase_of_not_mem (H₃.djq hq hp' (Ne.symm z) (by rw [e₃]; simp))).symm
              refine call_does (s := { s with heap := h₇, toks := _, gens := gens₄ }) X D (a.mono (by decide) (by decide)) S₇ fun h₈ tk₈ S₈ => ?_
              refine wpAny_execs_cons (wpAny_If (wpAny_isTrue_Compare1 (r_name (s := { s with heap := h₈, toks := tk₈, gens := gens₄ }) S₈ hdd' (wpAny_Constant_int (gt_int (wpAny_truthy_bool ?_))))))
              by_cases h9 : 8 < dd
              · refine ifT (by simp; omega) (wpAny_execs_cons (wpAny_Expr (MethodCall_ (sub_list (r_name (s := { s with heap := h₈, toks := tk₈ + 1, gens := gens₄ }) S₈ wm₅.mb.mq (wpAny_mono (Q := fun i s' => ∃ t tk, i = .int (((if dd = 10 then q else 1 - q : Nat)) : Int) t ∧ s' = { s with heap := h₈, toks := tk, gens := gens₄ }) ?_ ?_ fun _ _ e => e))))))
                · refine IfExp_ (wpAny_isTrue_Compare1 (r_name (s := { s with heap := h₈, toks := tk₈ + 1, gens := gens₄ }) S₈ hdd' (wpAny_Constant_int (eq_int (wpAny_truthy_bool ?_)))))
                  by_cases h10 : dd = 10
                  · rw [if_pos h10]
                    exact ifT (by simp [h10]) (r_name (s := { s with heap := h₈, toks := tk₈ + 1 + 1, gens := gens₄ }) S₈ hth ⟨_, _, rfl, rfl⟩)
                  · rw [if_neg h10]
                    have : (1 : Int) - (q : Int) = ((1 - q : Nat) : Int) := by omega
                    rw [← this]
                    exact ifF (by simp; omega) (wpAny_BinOp (wpAny_Constant_int (r_name (s := { s with heap := h₈, toks := tk₈ + 1 + 1 + 1, gens := gens₄ }) S₈ hth (sub_int ⟨_, _, rfl, rfl⟩))))
                · rintro i s' ⟨t', tk', rfl, rfl⟩
                  have hp2 : (if dd = 10 then q else 1 - q) < 2 := by split <;> omega
                  refine ⟨ad.qa, qvs c, _, _, _, rfl, rfl, lO_list (S₈.get (.tail _ (.tail _ (.tail _ (.tail _ (.tail _ (.tail _ (.tail _ (.head _))))))))), by omega, qvs_at hp2, ?_⟩
                  obtain ⟨_, _, hfx⟩ := cut_ok ⟨σ₃, H₃⟩ hq e₃
                  obtain ⟨σ'', H₉, D₉⟩ := append_rep (w := w) (base := base) X H'' hp2 hx.1 hx.2 hfx
                  refine r_hmeth (s := { s with heap := h₈, toks := tk', gens := gens₄ }) X S₈ hp2 (l_append w) (nmap_none hp2 (by decide) (by decide) (by decide) (by decide)) (callWith_K (S₈.K X) (l_append w).kp (r_args1 (r_name (s := { s with heap := h₈, toks := tk', gens := gens₄ }) S₈ (if_pos rfl) ⟨S₈.K X, ?_⟩)))
                  refine call_does (s := { s with heap := h₈, toks := tk', gens := gens₄ }) X D₉ (a.mono (by decide) (by decide)) S₈ fun h₉ tk₉ S₉ => ?_
                  refine wpAny_execs_nil (wpAny_execs_nil (wpAny_execs_nil (fin _ _ _ _ _ S₉ wm₅ ?_)))
                  unfold deedR
                  rw [if_neg h11, if_pos h9]
                  exact H₉
              · refine ifF (by simp; omega) (wpAny_execs_nil (wpAny_execs_nil (wpAny_execs_nil (fin _ _ _ _ _ S₈ wm₅ ?_))))
                unfold deedR
                rw [if_neg h11, if_neg h9]
                exact H''
          · refine ifT (by simp; omega) (wpAny_execs_cons (wpAny_Continue ?_))
            rw [if_neg hp] at fin
            exact fin _ _ _ _ _ S₇ wm₅ H₃
  · refine ⟨h₂, tk₂, _, m, σ, r, [], nt, false, gs, oL, [], r q, rfl, S₂.sub fun p hp => ?_, wm, H, fun _ => rfl, ⟨F, H.first hq⟩, rfl, W, Array.getElem?_push_size, bb_push hab, go _ (a.mono (by decide) (by decide) : Amb _ _ 10 101).in1 _⟩
    rcases List.mem_cons.mp hp with rfl | hp
    · exact .tail _ (.head _)
    · rcases List.mem_cons.mp hp with rfl | hp
      · exact .head _
      · exact .tail _ (.tail _ hp)
end
end Mine

namespace Mine
open PySem PySem.W PySem.Calls PyProof.Rows PySem.SeqAt
example (w : World) : hd.heap_39 w.params = hd.heap_39 w.params ∧ PySem.Challenge.rw_bi0011_01 = PySem.Challenge.rw_bi0011_01 := by
  k_fill
  exact ⟨rfl, rfl⟩
local macro_rules | `(tactic| k_is) => `(tactic| (delta KF; k_is))

/-- the plain list is being walked -/
def WhI {w : World} {base h₀ h : Heap} {c : Cfg 8} {outer : List Env} {m : Str → Option Value} {σ : NS} {os : List (Addr × Obj)} {env : Env} (_ : Cx w base c)
    (_ : St base c outer h₀ env m σ os h) (ad : Ads) (oI oR : Obj) (r R : Rows2) (ro : Nat → Addr) (q j dd pl : Nat) (fr : Bool) (T : List Nat) (ta da : Addr) (nt : Nat) (s : Shared) (N : Nat) (s' : Shared) : Prop :=
  ∃ h tk m' r' due nd n l1 l2 v, s' = { s with heap := h, toks := tk } ∧
    St base c outer h₀ env m' σ ((da, rO c due nd) :: (ta, rO c T nt) :: os7 c r' ro n ad oI oR) h ∧ WM c ad m' ro r q j dd pl fr ta da ∧ RowsOk r' ∧ (due.length ≤ pl → r' = r) ∧
    r' q = l1 ++ l2 ∧ WkN q j dd pl fr N r' due (l2.headD q) R T ∧ m' "at" = some v ∧ (l2.headD q = q → ∃ t, v = .int 0 t) ∧ (l2.headD q ≠ q → v = num c (l2.headD q))

section
variable {prog : Program} {w : World} {base h₀ : Heap} {c : Cfg 8} {outer : List Env} {m : Str → Option Value} {σ : NS} {A : Around} {E : Value → Shared → Prop} {s : Shared} {r R : Rows2} {ro : Nat → Addr} {n : Nat → Nat} {ad : Ads} {oI oR : Obj} {q j dd pl N nd nt : Nat} {fr : Bool} {T : List Nat}
  {qual : Str} {body : List Stmt} {scope : Scope} {L f : Addr} {cd : Value} {ta da : Addr}

theorem walk_while {Q : Flow → Shared → Prop} (hb : LawIs w qual body scope) (X : Cx w base c) (a : Amb A (envOf qual scope L f cd :: outer) 30 300)
    (O : Owns base c (envOf qual scope L f cd :: outer) h₀ (da :: ta :: as7 ro ad)) (hdd : 7 < dd) (hT : T.length ≤ 20)
    (S : St base c outer h₀ (envOf qual scope L f cd) m σ ((da, rO c [] nd) :: (ta, rO c T nt) :: os7 c r ro n ad oI oR) s.heap) (hI : WhI X S ad oI oR r R ro q j dd pl fr T ta da nt s N s)
    (hQ : ∀ h' tk m' nd' n', St base c outer h₀ (envOf qual scope L f cd) m' σ ((da, rO c T nd') :: (ta, rO c T nt) :: os7 c R ro n' ad oI oR) h' → WM c ad m' ro r q j dd pl fr ta da → Q .next { s with heap := h', toks := tk }) :
    wpAny (model prog w) A (exec (stN (arm5 body) 3) (envOf qual scope L f cd)) Q E s := by
  obtain ⟨rfl, rfl, rfl⟩ := law_eq (by k_is) hb
  clear hb
  refine wpAny_While (codeAny_whileLoop (WhI X S ad oI oR r R ro q j dd pl fr T ta da nt s) ?_ N hI)
  rintro N' s' ⟨h₁, tk₁, m₁, r₁, due, nd₁, n₁, l1, l2, v, rfl, S₁, wm, hok, hr₁, e₁, W₁, hat, hv0, hv1⟩
  have hq := wm.tm.hq
  cases l2 with
  | nil =>
    obtain ⟨t0, rfl⟩ := hv0 rfl
    refine wpAny_isTrue_Compare1 (r_name (s := { s with heap := h₁, toks := tk₁ }) S₁ hat (wpAny_Constant_int (ne_int (wpAny_truthy_bool (ifF (by decide) ?_)))))
    cases N' with
    | succ N' => exact absurd rfl W₁.1
    | zero =>
      obtain ⟨_, rfl, rfl⟩ := W₁
      exact wpAny_execs_nil (hQ _ _ _ _ _ S₁ wm)
  | cons x l2 =>
    obtain ⟨σr, Hr⟩ := id hok
    have hx := Hr.rng q hq x (by rw [e₁]; simp)
    have hd := Hr.nd q hq
    have hsh := Hr.short hq
    have hn : x ∉ l1 := fun z => by rw [e₁] at hd; exact (List.nodup_append.mp hd).2.2 x z x (.head _) rfl
    have hnx : nextIn q x (r₁ q) = l2.headD q := by rw [e₁]; exact nextIn_split hn
    have hxq : x ≠ q := by omega
    have hvx : v = num c x := hv1 hxq
    subst hvx
    cases N' with
    | zero => exact absurd W₁.1 hxq
    | succ N' =>
      have W₂ : WkN q j dd pl fr N' (if due.length = pl then deedR q j dd fr r₁ x else r₁) (due ++ [x]) (nextIn q x (r₁ q)) R T := W₁.2
      have hTl := W₂.len
      simp only [List.length_append, List.length_cons, List.length_nil] at hTl
      refine wpAny_isTrue_Compare1 (r_name (s := { s with heap := h₁, toks := tk₁ }) S₁ hat (wpAny_Constant_int (ne_int (wpAny_truthy_bool (ifT (by simp; omega) ?_)))))
      refine wpAny_execs_cons (wpAny_Expr (MethodCall_ (r_name (s := { s with heap := h₁, toks := tk₁ + 1 }) S₁ wm.due (l_method (S₁.get (.head _)) PySem.F.slot_list_append PySem.F.type_list_append (bcall1 (r_name (s := { s with heap := h₁, toks := tk₁ + 1 }) S₁ hat ?_))))))
      refine append_list (s := { s with heap := h₁, toks := tk₁ + 1 }) (S₁.get (.head _)) (by rw [List.length_map]; omega) fun h₂ n₂ hs₂ e₂ => ?_
      have e₂' : h₂.get? da = some (rO c (due ++ [x]) n₂) := by
        rw [e₂, ← List.map_singleton (f := num c), ← List.map_append]
      have S₂ := S₁.write (i := 0) O rfl hs₂ e₂'
      have hrow : ∀ n' , (ro q, rO c (r₁ q) (n' q)) ∈ (da, rO c (due ++ [x]) n₂) :: (ta, rO c T nt) :: os7 c r₁ ro n' ad oI oR := fun n' => .tail _ (.tail _ (os7_row hq))
      refine wpAny_execs_cons (wpAny_Assign_Name (slice_row (i := l1.length + 1) (r_name (s := { s with heap := h₂, toks := tk₁ + 1 }) S₂ wm.tm.row ?_)))
      show wpAny _ _ (eval _ _) _ _ _
      refine wpAny_BinOp (MethodCall_ (r_name (s := { s with heap := h₂, toks := tk₁ + 1 }) S₂ wm.tm.row (l_method (S₂.get (hrow _)) PySem.F.slot_list_index PySem.F.type_list_index (bcall1 (r_name (s := { s with heap := h₂, toks := tk₁ + 1 }) S₂ hat ?_)))))
      refine index_row (s := { s with heap := h₂, toks := tk₁ + 1 }) (S₂.get (hrow _)) e₁ hn (by omega) (wpAny_Constant_int (add_int ?_))
      refine ⟨ro q, (r₁ q).map (num c), n₁ q, _, rfl, S₂.get (hrow n₁), by rw [List.length_map]; omega, rfl, by rw [List.length_map, e₁]; simp, ?_⟩
      intro h₃ b hk₃ hb₃ eb₃
      have eb : h₃.get? b = some (rO c l2 0) := by
        have : ((r₁ q).map (num c)).drop (l1.length + 1) = l2.map (num c) := by
          rw [e₁, show l1 ++ x :: l2 = (l1 ++ [x]) ++ l2 by simp, List.map_append]
          exact List.drop_left' (by simp)
        rw [eb₃, this]
      have S₃ := S₂.born hk₃ hb₃ eb
      have O₃ := O.born (os := (da, rO c (due ++ [x]) n₂) :: (ta, rO c T nt) :: os7 c r₁ ro n₁ ad oI oR) S₂ hb₃
      refine r_store (s := { s with heap := h₃, toks := _ }) S₃ fun h₄ S₄ => ?_
      have wm₄ : WM c ad (fun y => if y = "behind" then some (Value.ref b) else m₁ y) ro r q j dd pl fr ta da := wm.set (by decide)
      have hat₄ : (if ("at" : Str) = "behind" then some (Value.ref b) else m₁ "at") = some (num c x) := by rw [if_neg (by decide)]; exact hat
      obtain ⟨tp, hpl⟩ := wm₄.tm.place
      obtain ⟨td, hdd'⟩ := wm₄.tm.deed
      refine wpAny_execs_cons (wpAny_mono (Q := fun fl s' => fl = .next ∧ ∃ h₅ tk₅ n₅, s' = { s with heap := h₅, toks := tk₅ } ∧ StAs S (fun y => if y = "behind" then some (Value.ref b) else m₁ y) σ ((b, rO c l2 0) :: (da, rO c (due ++ [x]) n₂) :: (ta, rO c T nt) :: os7 c (if due.length = pl then deedR q j dd fr r₁ x else r₁) ro n₅ ad oI oR) h₅) ?_ ?_ fun _ _ e => e)
      · refine wpAny_If (wpAny_isTrue_Compare1 (Call_Name1 (r_builtin (s := { s with heap := h₄, toks := _ }) X S₄ (v := .builtin "len") (by simp [builtinNames]) (PySem.callWith_builtin1 (r_name (s := { s with heap := h₄, toks := _ }) S₄ wm₄.due (len_list (s := { s with heap := h₄, toks := _ }) (S₄.get (.tail _ (.head _))) (by rw [List.length_map]; simp; omega) ?_))))))
        refine wpAny_BinOp (r_name (s := { s with heap := h₄, toks := _ }) S₄ hpl (wpAny_Constant_int (add_int (eq_int (wpAny_truthy_bool ?_)))))
        by_cases hp : due.length = pl
        · refine ifT (by simp; omega) ?_
          rw [if_pos hp]
          have hrr := hr₁ (by omega)
          subst hrr
          have hrow₄ : ∀ n', (ro q, rO c (r₁ q) (n' q)) ∈ (b, rO c l2 0) :: (da, rO c (due ++ [x]) n₂) :: (ta, rO c T nt) :: os7 c r₁ ro n' ad oI oR := fun n' => .tail _ (.tail _ (.tail _ (os7_row hq)))
          refine wpAny_execs_cons (wpAny_If (wpAny_isTrue_Compare1 (r_name (s := { s with heap := h₄, toks := _ }) S₄ hdd' (wpAny_Constant_int (eq_int (wpAny_truthy_bool ?_))))))
          by_cases h11 : dd = 11
          · refine ifT (by simp [h11]) (wpAny_execs_cons (wpAny_If (isTrue_plain (r_name (s := { s with heap := h₄, toks := _ }) S₄ wm₄.tm.free (wpAny_truthy_bool ?_)))))
            cases fr with
            | false =>
              refine ifF rfl (wpAny_execs_nil (wpAny_execs_nil (wpAny_execs_nil ⟨rfl, _, _, n₁, rfl, ?_⟩)))
              rw [show deedR q j dd false r₁ x = r₁ by unfold deedR; rw [if_pos h11, if_neg (by decide)]]
              exact S₄
            | true =>
              refine ifT rfl (wpAny_execs_cons (wpAny_Expr (MethodCall_ (r_name (s := { s with heap := h₄, toks := _ }) S₄ wm₄.tm.row (l_method (S₄.get (hrow₄ _)) PySem.F.slot_list_append PySem.F.type_list_append (bcall1 (Attribute_Name_ (r_name (s := { s with heap := h₄, toks := _ }) S₄ wm₄.tm.item (r_path (s := { s with heap := h₄, toks := _ }) X (a.mono (by decide) (by decide)) S₄ wm.tm.h2 wm.tm.h8 fun h₆ tk₆ S₆ => ?_)))))))))
              refine append_list (s := { s with heap := h₆, toks := tk₆ }) (S₆.get (hrow₄ _)) (by rw [List.length_map]; omega) fun h₇ n₇ hs₇ e₇ => ?_
              have e₇' : h₇.get? (ro q) = some (rO c (r₁ q ++ [j]) n₇) := by
                rw [e₇, ← List.map_singleton (f := num c), ← List.map_append]
              have S₇ := S₆.row (xs := [(b, rO c l2 0), (da, rO c (due ++ [x]) n₂), (ta, rO c T nt)]) O₃ hq hs₇ e₇'
              refine wpAny_execs_nil (wpAny_execs_nil (wpAny_execs_nil ⟨rfl, _, _, (fun k => if k = q then n₇ else n₁ k), rfl, ?_⟩))
              rw [show deedR q j dd true r₁ x = r₁.up q (r₁ q ++ [j]) by unfold deedR; rw [if_pos h11, if_pos rfl]]
              exact S₇
          · refine ifF (by simp; omega) (wpAny_execs_cons (wpAny_Expr (MethodCall_ (r_name (s := { s with heap := h₄, toks := _ }) S₄ wm₄.tm.row (l_method (S₄.get (hrow₄ _)) PySem.F.slot_list_remove PySem.F.type_list_remove (bcall1 (r_name (s := { s with heap := h₄, toks := _ }) S₄ hat₄ ?_)))))))
            refine remove_row (s := { s with heap := h₄, toks := _ }) (S₄.get (hrow₄ _)) (by rw [e₁]; simp) hd (by omega) fun h₆ n₆ hs₆ e₆ => ?_
            have S₆ := S₄.row (xs := [(b, rO c l2 0), (da, rO c (due ++ [x]) n₂), (ta, rO c T nt)]) O₃ hq hs₆ e₆
            refine wpAny_execs_cons (wpAny_If (wpAny_isTrue_Compare1 (r_name (s := { s with heap := h₆, toks := _ }) S₆ hdd' (wpAny_Constant_int (gt_int (wpAny_truthy_bool ?_))))))
            by_cases h9 : 8 < dd
            · have hp2 : (if dd = 10 then q else 1 - q) < 2 := by split <;> omega
              refine ifT (by simp; omega) (wpAny_execs_cons (wpAny_Expr (MethodCall_ (wpAny_mono (Q := fun v s' => ∃ tk, v = .ref (ro (if dd = 10 then q else 1 - q)) ∧ s' = { s with heap := h₆, toks := tk }) ?_ ?_ fun _ _ e => e))))
              · refine IfExp_ (wpAny_isTrue_Compare1 (r_name (s := { s with heap := h₆, toks := _ }) S₆ hdd' (wpAny_Constant_int (eq_int (wpAny_truthy_bool ?_)))))
                by_cases h10 : dd = 10
                · rw [if_pos h10]
                  exact ifT (by simp [h10]) (r_name (s := { s with heap := h₆, toks := _ }) S₆ wm₄.tm.row ⟨_, rfl, rfl⟩)
                · rw [if_neg h10]
                  exact ifF (by simp; omega) (r_name (s := { s with heap := h₆, toks := _ }) S₆ wm₄.tm.other ⟨_, rfl, rfl⟩)
              · rintro v s' ⟨tk', rfl, rfl⟩
                have hrow₆ : ∀ n', (ro (if dd = 10 then q else 1 - q), rO c ((r₁.up q ((r₁ q).erase x)) (if dd = 10 then q else 1 - q)) (n' (if dd = 10 then q else 1 - q))) ∈ [(b, rO c l2 0), (da, rO c (due ++ [x]) n₂), (ta, rO c T nt)] ++ os7 c (r₁.up q ((r₁ q).erase x)) ro n' ad oI oR := fun n' => List.mem_append_right _ (os7_row hp2)
                refine l_method (s := { s with heap := h₆, toks := tk' }) (S₆.get (hrow₆ _)) PySem.F.slot_list_append PySem.F.type_list_append (bcall1 (r_name (s := { s with heap := h₆, toks := tk' }) S₆ hat₄ ?_))
                have hszp : ∀ p, p < 2 → ((r₁.up q ((r₁ q).erase x)) p).length ≤ 8 := fun p hp2 => by
                  unfold Rows2.up
                  split
                  · exact Nat.le_trans (List.length_erase_le ..) hsh
                  · exact Hr.short hp2
                have hsz := hszp _ hp2
                refine append_list (s := { s with heap := h₆, toks := tk' }) (S₆.get (hrow₆ _)) (by rw [List.length_map]; omega) fun h₇ n₇ hs₇ e₇ => ?_
                have e₇' : h₇.get? (ro (if dd = 10 then q else 1 - q)) = some (rO c ((r₁.up q ((r₁ q).erase x)) (if dd = 10 then q else 1 - q) ++ [x]) n₇) := by
                  rw [e₇, ← List.map_singleton (f := num c), ← List.map_append]
                have S₇ := S₆.row (xs := [(b, rO c l2 0), (da, rO c (due ++ [x]) n₂), (ta, rO c T nt)]) O₃ hp2 hs₇ e₇'
                refine wpAny_execs_nil (wpAny_execs_nil (wpAny_execs_nil ⟨rfl, _, _, (fun k => if k = (if dd = 10 then q else 1 - q) then n₇ else (fun k => if k = q then n₆ else n₁ k) k), rfl, ?_⟩))
                rw [show deedR q j dd fr r₁ x = (r₁.up q ((r₁ q).erase x)).up (if dd = 10 then q else 1 - q) ((r₁.up q ((r₁ q).erase x)) (if dd = 10 then q else 1 - q) ++ [x]) by unfold deedR; rw [if_neg h11, if_pos h9]]
                exact S₇
            · refine ifF (by simp; omega) (wpAny_execs_nil (wpAny_execs_nil (wpAny_execs_nil ⟨rfl, _, _, (fun k => if k = q then n₆ else n₁ k), rfl, ?_⟩)))
              rw [show deedR q j dd fr r₁ x = r₁.up q ((r₁ q).erase x) by unfold deedR; rw [if_neg h11, if_neg h9]]
              exact S₆
        · refine ifF (by simp; omega) (wpAny_execs_nil ⟨rfl, _, _, n₁, rfl, ?_⟩)
          rw [if_neg hp]
          exact S₄
      · rintro fl s' ⟨rfl, h₅, tk₅, n₅, rfl, S₅⟩
        unfold StAs at S₅
        have hsp : RowsOk (if due.length = pl then deedR q j dd fr r₁ x else r₁) ∧ ∃ l1' l2', (if due.length = pl then deedR q j dd fr r₁ x else r₁) q = l1' ++ l2' ∧ l2'.headD q = l2.headD q := by
          by_cases hp : due.length = pl
          · rw [if_pos hp]
            obtain ⟨h0, l1', l2', h1, h2, _⟩ := deed_ok (dd := dd) hok hq wm.tm.h2 wm.tm.h8 (fun z => by rw [hr₁ (by omega)]; exact wm.tm.hf.mp z) e₁
            exact ⟨h0, l1', l2', h1, h2⟩
          · rw [if_neg hp]
            exact ⟨hok, l1 ++ [x], l2, by rw [e₁]; simp, rfl⟩
        obtain ⟨hok', l1', l2', h1, h2⟩ := hsp
        have fin : ∀ h₆ tk₆ v, StAs S (fun y => if y = "at" then some v else if y = "behind" then some (Value.ref b) else m₁ y) σ ((b, rO c l2 0) :: (da, rO c (due ++ [x]) n₂) :: (ta, rO c T nt) :: os7 c (if due.length = pl then deedR q j dd fr r₁ x else r₁) ro n₅ ad oI oR) h₆ →
            (l2.headD q = q → ∃ t, v = .int 0 t) → (l2.headD q ≠ q → v = num c (l2.headD q)) → ∃ M', M' < N' + 1 ∧ WhI X S ad oI oR r R ro q j dd pl fr T ta da nt s M' { s with heap := h₆, toks := tk₆ } := by
          intro h₆ tk₆ v S₆ c0 c1
          refine ⟨N', Nat.lt_succ_self _, h₆, tk₆, _, _, due ++ [x], n₂, n₅, l1', l2', v, rfl, St.sub S₆ fun p hp => .tail _ hp, wm₄.set (by decide), hok', fun z => ?_, h1, ?_, if_pos rfl, ?_, ?_⟩
          · simp only [List.length_append, List.length_cons, List.length_nil] at z
            rw [if_neg (by omega)]
            exact hr₁ (by omega)
          · rw [h2, ← hnx]; exact W₂
          · rw [h2]; exact c0
          · rw [h2]; exact c1
        refine wpAny_execs_cons (wpAny_Assign_Name (IfExp_ (isTrue_plain (r_name (s := { s with heap := h₅, toks := tk₅ }) S₅ (if_pos rfl) (truthy_list (s := { s with heap := h₅, toks := tk₅ }) (S₅.get (.head _)) ?_ ?_)))))
        · rw [List.length_map]
          have := congrArg List.length e₁
          simp only [List.length_append, List.length_cons] at this
          omega
        cases l2 with
        | nil =>
          refine ifF rfl (wpAny_Constant_int (r_store (s := { s with heap := h₅, toks := _ }) S₅ fun h₆ S₆ => ?_))
          exact wpAny_execs_nil (fin _ _ _ S₆ (fun _ => ⟨_, rfl⟩) fun z => absurd rfl z)
        | cons y ys =>
          have hy := Hr.rng q hq y (by rw [e₁]; simp)
          refine ifT rfl (sub_list (r_name (s := { s with heap := h₅, toks := _ }) S₅ (if_pos rfl) (wpAny_Constant_int ⟨b, _, 0, _, num c y, rfl, rfl, lO_list (S₅.get (.head _)), by decide, rfl, ?_⟩)))
          refine r_store (s := { s with heap := h₅, toks := _ }) S₅ fun h₆ S₆ => ?_
          refine wpAny_execs_nil (fin _ _ _ S₆ (fun z => ?_) fun _ => rfl)
          have : y = q := z
          omega
end
end Mine

namespace Mine
open PySem PySem.W PySem.Calls PyProof.Rows PySem.SeqAt
example (w : World) : hd.heap_39 w.params = hd.heap_39 w.params ∧ PySem.Challenge.rw_bi0011_01 = PySem.Challenge.rw_bi0011_01 := by
  k_fill
  exact ⟨rfl, rfl⟩
local macro_rules | `(tactic| k_is) => `(tactic| (delta KF; k_is))

section
variable {prog : Program} {w : World} {base h₀ : Heap} {c : Cfg 8} {outer : List Env} {m : Str → Option Value} {σ : NS} {A : Around} {E : Value → Shared → Prop} {s : Shared} {r R : Rows2} {ro : Nat → Addr} {n : Nat → Nat} {ad : Ads} {oI oR : Obj} {q j dd pl N nd nt : Nat} {fr : Bool} {T : List Nat}
  {qual : Str} {body : List Stmt} {scope : Scope} {L f : Addr} {cd : Value} {ta da : Addr}

theorem arm_walk {Q : Flow → Shared → Prop} (hb : LawIs w qual body scope) (X : Cx w base c) (a : Amb A (envOf qual scope L f cd :: outer) 30 300) (l : LS base c outer h₀ (envOf qual scope L f cd) ad oI oR m σ r ro n s.gens s.heap) (t : TM c m ro r q j dd pl fr) (hdd : 7 < dd)
    (hQ : ∀ h' tk gens' m' σ' r' ro' n' oR', LS base c outer h₀ (envOf qual scope L f cd) ad oI oR' m' σ' r' ro' n' gens' h' → Q .next { s with heap := h', toks := tk, gens := gens' }) :
    wpAny (model prog w) A (execs (arm5 body) (envOf qual scope L f cd)) Q E s := by
  have hb' := hb
  obtain ⟨rfl, rfl, rfl⟩ := law_eq (by k_is) hb
  clear hb
  have hq := t.hq
  have hsh := l.rep.short hq
  obtain ⟨N, R, T, hN, W⟩ := wk_exists (q := q) (j := j) (dd := dd) (pl := pl) (fr := fr) t.hq t.h2 t.h8 9 r [] [] (r q) ⟨σ, l.rep⟩ rfl (fun _ => t.hf.mp) (by split <;> omega)
  have hTl := W.len
  have hT : T.length ≤ 20 := by simp at hTl; omega
  have S := l.st
  have hta := fresh_size s.heap
  have S₁ := S.born (h' := s.heap.push { cls := .type "list", data := .seq ([] : List Value).toArray }) (o := rO c [] 0) (keeps_push _ _) hta (Heap.get?_push_size _ rfl)
  have O₁ := l.ow.born (os := os7 c r ro n ad oI oR) S hta
  refine wpAny_execs_cons (tup2 (base := base) (h₀ := h₀) (c := c) (outer := outer) a.handled (wpAny_List (wpAny_items_nil ⟨by decide, wpAny_List (wpAny_items_nil ⟨by decide, ?_⟩)⟩)))
  generalize hH : s.heap.push { cls := .type "list", data := .seq ([] : List Value).toArray } = H₁ at S₁ ⊢
  have hda := fresh_size H₁
  have S₂ := S₁.born (h' := H₁.push { cls := .type "list", data := .seq ([] : List Value).toArray }) (o := rO c [] 0) (keeps_push _ _) hda (Heap.get?_push_size _ rfl)
  have O₂ := O₁.born (os := (s.heap.objs.size, rO c [] 0) :: os7 c r ro n ad oI oR) S₁ hda
  refine ⟨m, σ, _, S₂, fun h₃ tk₃ S₃ => ?_⟩
  generalize s.heap.objs.size = ta at O₂ S₃
  generalize H₁.objs.size = da at O₂ S₃
  have wm : WM c ad (fun z => if z = "told" then some (Value.ref ta) else if z = "due" then some (Value.ref da) else m z) ro r q j dd pl fr ta da :=
    ⟨(l.mb.set (x := "due") (v := some (Value.ref da)) (by decide)).set (by decide), (t.set (x := "due") (v := some (Value.ref da)) (by decide)).set (by decide), if_pos rfl, by rw [if_neg (by decide), if_pos rfl]⟩
  refine wpAny_execs_cons (walk_for (s := { s with heap := h₃, toks := tk₃ }) hb' X a S₃ O₂ l.rep l.bare wm W hT hdd fun h₄ tk₄ gens₄ m₄ σ₄ nt₄ hab₄ S₄ H₄ wm₄ => ?_)
  refine wpAny_execs_cons (wpAny_mono (Q := fun fl s' => fl = .next ∧ ∃ h₅ tk₅ v, s' = { s with heap := h₅, toks := tk₅, gens := gens₄ } ∧ StAs S₄ (fun y => if y = "at" then some v else m₄ y) σ₄ ((da, rO c [] 0) :: (ta, rO c T nt₄) :: os7 c r ro n ad oI oR) h₅ ∧ ((r q).headD q = q → ∃ t, v = .int 0 t) ∧ ((r q).headD q ≠ q → v = num c ((r q).headD q))) ?_ ?_ fun _ _ e => e)
  · refine wpAny_Assign_Name (IfExp_ (isTrue_plain (r_name (s := { s with heap := h₄, toks := tk₄, gens := gens₄ }) S₄ wm₄.tm.row (truthy_list (s := { s with heap := h₄, toks := tk₄, gens := gens₄ }) (S₄.get (.tail _ (.tail _ (os7_row hq)))) (by rw [List.length_map]; omega) ?_))))
    cases e : r q with
    | nil =>
      refine ifF rfl (wpAny_Constant_int (r_store (s := { s with heap := h₄, toks := _, gens := gens₄ }) S₄ fun h₅ S₅ => ?_))
      exact ⟨rfl, _, _, _, rfl, S₅, fun _ => ⟨_, rfl⟩, fun z => absurd rfl z⟩
    | cons y ys =>
      have hy := l.rep.rng q hq y (by rw [e]; simp)
      refine ifT rfl (sub_list (r_name (s := { s with heap := h₄, toks := _, gens := gens₄ }) S₄ wm₄.tm.row (wpAny_Constant_int ⟨ro q, _, 0, _, num c y, rfl, rfl, lO_list (S₄.get (.tail _ (.tail _ (os7_row hq)))), by decide, by rw [e]; rfl, ?_⟩)))
      refine r_store (s := { s with heap := h₄, toks := _, gens := gens₄ }) S₄ fun h₅ S₅ => ?_
      refine ⟨rfl, _, _, _, rfl, S₅, fun z => ?_, fun _ => rfl⟩
      have : y = q := z
      omega
  · rintro fl s' ⟨rfl, h₅, tk₅, v, rfl, S₅, c0, c1⟩
    unfold StAs at S₅
    refine wpAny_execs_cons (walk_while (s := { s with heap := h₅, toks := tk₅, gens := gens₄ }) (N := N) hb' X a O₂ hdd hT S₅ ⟨h₅, tk₅, _, r, [], 0, n, [], r q, v, rfl, S₅, wm₄.set (by decide), ⟨σ, l.rep⟩, fun _ => rfl, rfl, W, if_pos rfl, c0, c1⟩ fun h₆ tk₆ m₆ nd₆ n₆ S₆ wm₆ => ?_)
    refine wpAny_execs_cons (wpAny_If (wpAny_isTrue_Compare1 (r_name (s := { s with heap := h₆, toks := tk₆, gens := gens₄ }) S₆ wm₆.told (r_name (s := { s with heap := h₆, toks := tk₆, gens := gens₄ }) S₆ wm₆.due (ne_rows (S₆.get (.tail _ (.head _))) (S₆.get (.head _)) (by have := a.units; omega) (wpAny_truthy_bool (ifF rfl (wpAny_execs_nil (wpAny_execs_nil ?_)))))))))
    exact hQ h₆ tk₆ gens₄ m₆ σ₄ R ro n₆ oR ⟨S₆.sub fun p hp => .tail _ (.tail _ hp), l.ow, H₄, hab₄, wm₆.mb, l.lr⟩
end
end Mine

namespace Mine
open PySem PySem.W PySem.Calls PyProof.Rows PySem.SeqAt
example (w : World) : hd.heap_39 w.params = hd.heap_39 w.params ∧ PySem.Challenge.rw_bi0011_01 = PySem.Challenge.rw_bi0011_01 := by
  k_fill
  exact ⟨rfl, rfl⟩
local macro_rules | `(tactic| k_is) => `(tactic| (delta KF; k_is))

theorem fm (x : Int) (b : Nat) (hb : 0 < b) : ∃ k : Nat, x.fmod (b : Int) = (k : Int) ∧ k < b := by
  have h0 : 0 ≤ x.fmod (b : Int) := Int.fmod_nonneg_of_pos x (by omega)
  have h1 : x.fmod (b : Int) < b := Int.fmod_lt_of_pos x (by omega)
  exact ⟨(x.fmod b).toNat, by omega, by omega⟩

section
variable {base h₀ h : Heap} {nn : Nat} {c : Cfg nn} {outer : List Env} {m : Str → Option Value} {σ : NS} {os : List (Addr × Obj)} {env : Env} {x y z : Str} {v1 v2 v3 : Value}
theorem St.one (S : St base c outer h₀ env (fun u => if u = x then some v1 else m u) σ os h) :
    ∃ m', St base c outer h₀ env m' σ os h ∧ m' x = some v1 ∧ ∀ u, (u == x) = false → m' u = m u :=
  ⟨_, S, if_pos rfl, fun u hu => if_neg (beq_eq_false_iff_ne.mp hu)⟩
theorem St.two (S : St base c outer h₀ env (fun u => if u = x then some v1 else if u = y then some v2 else m u) σ os h) (hxy : (y == x) = false) :
    ∃ m', St base c outer h₀ env m' σ os h ∧ m' x = some v1 ∧ m' y = some v2 ∧ ∀ u, (u == x || u == y) = false → m' u = m u :=
  ⟨_, S, if_pos rfl, (if_neg (beq_eq_false_iff_ne.mp hxy)).trans (if_pos rfl), fun u hu => by
    simp only [Bool.or_eq_false_iff, beq_eq_false_iff_ne] at hu
    exact (if_neg hu.1).trans (if_neg hu.2)⟩
theorem St.three (S : St base c outer h₀ env (fun u => if u = x then some v1 else if u = y then some v2 else if u = z then some v3 else m u) σ os h) (hxy : (y == x) = false) (hzx : (z == x) = false) (hzy : (z == y) = false) :
    ∃ m', St base c outer h₀ env m' σ os h ∧ m' x = some v1 ∧ m' y = some v2 ∧ m' z = some v3 ∧ ∀ u, (u == x || u == y || u == z) = false → m' u = m u :=
  ⟨_, S, if_pos rfl, (if_neg (beq_eq_false_iff_ne.mp hxy)).trans (if_pos rfl), (if_neg (beq_eq_false_iff_ne.mp hzx)).trans ((if_neg (beq_eq_false_iff_ne.mp hzy)).trans (if_pos rfl)), fun u hu => by
    simp only [Bool.or_eq_false_iff, beq_eq_false_iff_ne] at hu
    exact (if_neg hu.1.1).trans ((if_neg hu.1.2).trans (if_neg hu.2))⟩
end
theorem MB.of {a : Ads} {m m' : Str → Option Value} {p : Str → Bool} (h : MB a m) (e : ∀ u, p u = false → m' u = m u) (hp : mbNames.all (fun y => !p y) = true) : MB a m' := by
  simp only [mbNames, List.all_cons, List.all_nil, Bool.and_true, Bool.and_eq_true, Bool.not_eq_true'] at hp
  exact ⟨(e _ hp.1).trans h.mn, (e _ hp.2.1).trans h.mq, (e _ hp.2.2.1).trans h.mr, (e _ hp.2.2.2).trans h.mi⟩

theorem LS.ll {base h₀ h : Heap} {c : Cfg 8} {outer : List Env} {m : Str → Option Value} {σ : NS} {env : Env} {r : Rows2} {ro : Nat → Addr} {n : Nat → Nat} {ad : Ads} {oI oR : Obj} {gens : Array GenState} (l : LS base c outer h₀ env ad oI oR m σ r ro n gens h) :
    LL c r h ad.qa ad.ra ad.ia ro :=
  ⟨⟨_, l.st.get (.tail _ (.tail _ (.tail _ (.head _))))⟩, l.lr.list (l.st.get (.tail _ (.tail _ (.head _)))), ⟨_, l.st.get (.tail _ (.tail _ (.tail _ (.tail _ (.head _)))))⟩, fun p hp => ⟨_, l.st.get (os7_row hp)⟩⟩

/-- what a deed leaves -/
def TE {base h₀ h : Heap} {c : Cfg 8} {outer : List Env} {m : Str → Option Value} {σ : NS} {env : Env} {r : Rows2} {ro : Nat → Addr} {n : Nat → Nat} {ad : Ads} {oI oR : Obj} {gens : Array GenState} (_ : LS base c outer h₀ env ad oI oR m σ r ro n gens h) (s s' : Shared) : Prop :=
  ∃ h' tk gens' m' σ' r' ro' n' oR', s' = { s with heap := h', toks := tk, gens := gens' } ∧ LS base c outer h₀ env ad oI oR' m' σ' r' ro' n' gens' h'

section
variable {prog : Program} {w : World} {base h₀ : Heap} {c : Cfg 8} {outer : List Env} {m : Str → Option Value} {σ : NS} {A : Around} {E : Value → Shared → Prop} {s : Shared} {r R : Rows2} {ro : Nat → Addr} {n : Nat → Nat} {ad : Ads} {oI oR : Obj}
  {qual : Str} {body : List Stmt} {scope : Scope} {L f : Addr} {cd : Value} {i : Nat} {ns : List Int}

theorem turn_tail {q j dd pl : Nat} {fr : Bool} {Q : Flow → Shared → Prop} (hb : LawIs w qual body scope) (X : Cx w base c) (a : Amb A (envOf qual scope L f cd :: outer) 30 300) (l : LS base c outer h₀ (envOf qual scope L f cd) ad oI oR m σ r ro n s.gens s.heap)
    (t : TM c m ro r q j dd pl fr)
    (hQ : ∀ h' tk gens' m' σ' r' ro' n' oR', LS base c outer h₀ (envOf qual scope L f cd) ad oI oR' m' σ' r' ro' n' gens' h' → Q .next { s with heap := h', toks := tk, gens := gens' }) :
    wpAny (model prog w) A (execs ((turnB body).drop 4) (envOf qual scope L f cd)) Q E s := by
  have hb' := hb
  obtain ⟨rfl, rfl, rfl⟩ := law_eq (by k_is) hb
  clear hb
  obtain ⟨td, hdd⟩ := t.deed
  have S := l.st
  refine wpAny_execs_cons (wpAny_mono (Q := fun fl s' => fl = .next ∧ TE l s s') ?_ ?_ fun _ _ e => e)
  · refine wpAny_If (wpAny_isTrue_Compare1 (r_name S hdd (wpAny_Constant_int (lt_int (wpAny_truthy_bool ?_)))))
    by_cases h4 : dd < 4
    · refine ifT (by simp; omega) ?_
      exact arm_put (s := { s with toks := s.toks + 1 }) hb' X a l t fun h' tk gens' m' σ' r' ro' n' oR' l' => ⟨rfl, h', tk, gens', m', σ', r', ro', n', oR', rfl, l'⟩
    · refine ifF (by simp; omega) (wpAny_execs_cons (wpAny_If (wpAny_isTrue_Compare1 (r_name (s := { s with toks := s.toks + 1 }) S hdd (wpAny_Constant_int (lt_int (wpAny_truthy_bool ?_)))))))
      by_cases h6 : dd < 6
      · refine ifT (by simp; omega) ?_
        exact arm_remove (s := { s with toks := s.toks + 1 + 1 }) hb' X a l t fun h' tk gens' m' σ' r' ro' n' oR' l' => wpAny_execs_nil ⟨rfl, h', tk, gens', m', σ', r', ro', n', oR', rfl, l'⟩
      · refine ifF (by simp; omega) (wpAny_execs_cons (wpAny_If (wpAny_isTrue_Compare1 (r_name (s := { s with toks := s.toks + 1 + 1 }) S hdd (wpAny_Constant_int (eq_int (wpAny_truthy_bool ?_)))))))
        by_cases h7 : dd = 6
        · refine ifT (by simp [h7]) ?_
          exact arm_pop (s := { s with toks := s.toks + 1 + 1 + 1 }) hb' X a l t fun h' tk gens' m' σ' r' ro' n' oR' l' => wpAny_execs_nil (wpAny_execs_nil ⟨rfl, h', tk, gens', m', σ', r', ro', n', oR', rfl, l'⟩)
        · refine ifF (by simp; omega) (wpAny_execs_cons (wpAny_If (wpAny_isTrue_Compare1 (r_name (s := { s with toks := s.toks + 1 + 1 + 1 }) S hdd (wpAny_Constant_int (eq_int (wpAny_truthy_bool ?_)))))))
          by_cases h8 : dd = 7
          · refine ifT (by simp [h8]) ?_
            exact arm_clear (s := { s with toks := s.toks + 1 + 1 + 1 + 1 }) hb' X a l t fun h' tk gens' m' σ' r' ro' n' oR' l' => wpAny_execs_nil (wpAny_execs_nil (wpAny_execs_nil ⟨rfl, h', tk, gens', m', σ', r', ro', n', oR', rfl, l'⟩))
          · refine ifF (by simp; omega) ?_
            exact arm_walk (s := { s with toks := s.toks + 1 + 1 + 1 + 1 }) hb' X a l t (by omega) fun h' tk gens' m' σ' r' ro' n' oR' l' => wpAny_execs_nil (wpAny_execs_nil (wpAny_execs_nil ⟨rfl, h', tk, gens', m', σ', r', ro', n', oR', rfl, l'⟩))
  · rintro fl s' ⟨rfl, h₁, tk₁, gens₁, m₁, σ₁, r₁, ro₁, n₁, oR₁, rfl, l₁⟩
    have S₁ := l₁.st
    refine wpAny_execs_cons (wpAny_If (wpAny_isTrue_Not (isTrue_plain (Call_Name rfl (r_global (s := { s with heap := h₁, toks := tk₁, gens := gens₁ }) X S₁ (v := .ref 254) (by simp [globalNames]) (callWith_K (S₁.K X) (same_keep w) (r_args3 (r_name (s := { s with heap := h₁, toks := tk₁, gens := gens₁ }) S₁ l₁.mb.mq (r_name (s := { s with heap := h₁, toks := tk₁, gens := gens₁ }) S₁ l₁.mb.mr (r_name (s := { s with heap := h₁, toks := tk₁, gens := gens₁ }) S₁ l₁.mb.mi ⟨S₁.K X, ?_⟩))))))))))
    refine wpAny_call (same_does X prog A _ { s with heap := h₁, toks := tk₁, gens := gens₁ } _ σ₁ (a.mono (by decide) (by decide)) S₁.ok S₁.nodes l₁.rep l₁.ll l₁.bare fun h₂ tk₂ gens₂ hab₂ T₂ N₂ => ?_)
    refine wpAny_truthy_bool (ifF rfl (wpAny_execs_nil (wpAny_execs_nil ?_)))
    exact hQ _ _ _ m₁ σ₁ r₁ ro₁ n₁ oR₁ ⟨S₁.callee X T₂ N₂, l₁.ow, l₁.rep, hab₂, l₁.mb, l₁.lr⟩

theorem turn_mid {q jj dd pl : Nat} {Q : Flow → Shared → Prop} (hb : LawIs w qual body scope) (X : Cx w base c) (a : Amb A (envOf qual scope L f cd :: outer) 30 300) (l : LS base c outer h₀ (envOf qual scope L f cd) ad oI oR m σ r ro n s.gens s.heap)
    (d1 : ∃ t, m "deed" = some (.int (dd : Int) t)) (d2 : ∃ t, m "here" = some (.int (q : Int) t)) (d3 : m "item" = some (.ref (c.na (jj + 2)))) (d4 : ∃ t, m "place" = some (.int (pl : Int) t)) (hql : q < 2) (hjl : jj < 6)
    (hQ : ∀ h' tk m' fr, LS base c outer h₀ (envOf qual scope L f cd) ad oI oR m' σ r ro n s.gens h' → TM c m' ro r q (jj + 2) dd pl fr → wpAny (model prog w) A (execs ((turnB body).drop 4) (envOf qual scope L f cd)) Q E { s with heap := h', toks := tk }) :
    wpAny (model prog w) A (execs ((turnB body).drop 2) (envOf qual scope L f cd)) Q E s := by
  have hb' := hb
  obtain ⟨rfl, rfl, rfl⟩ := law_eq (by k_is) hb
  clear hb
  obtain ⟨td, d1⟩ := d1
  obtain ⟨th, d2⟩ := d2
  obtain ⟨tp, d4⟩ := d4
  have S₂ := l.st
  have mb₂ := l.mb
  -- queue, row, other
  refine wpAny_execs_cons (tup3 (base := base) (h₀ := h₀) (c := c) (outer := outer) a.handled (sub_list (r_name S₂ mb₂.mq (r_name S₂ d2 ?_))))
  refine ⟨ad.qa, qvs c, q, _, _, rfl, rfl, lO_list (S₂.get (.tail _ (.tail _ (.tail _ (.head _))))), by omega, qvs_at hql, ?_⟩
  refine sub_list (r_name S₂ mb₂.mr (r_name S₂ d2 ?_))
  refine ⟨ad.ra, rvs ro, q, _, _, rfl, rfl, l.lr.list (S₂.get (.tail _ (.tail _ (.head _)))), by omega, rvs_at hql, ?_⟩
  refine sub_list (r_name S₂ mb₂.mr (wpAny_BinOp (wpAny_Constant_int (r_name (s := { s with toks := s.toks + 1 }) S₂ d2 (sub_int ?_)))))
  rw [show (1 : Int) - (q : Int) = ((1 - q : Nat) : Int) by omega]
  refine ⟨ad.ra, rvs ro, 1 - q, _, _, rfl, rfl, l.lr.list (S₂.get (.tail _ (.tail _ (.head _)))), by omega, rvs_at (by omega), ?_⟩
  refine ⟨_, σ, _, S₂, fun h₃ tk₃ S₃ => ?_⟩
  obtain ⟨m₃, S₃, d5, d6, d7, k₃⟩ := S₃.three (by decide) (by decide) (by decide)
  have mb₃ := mb₂.of k₃ (by decide)
  have d1 := (k₃ "deed" (by decide)).trans d1
  have d2 := (k₃ "here" (by decide)).trans d2
  have d3 := (k₃ "item" (by decide)).trans d3
  have d4 := (k₃ "place" (by decide)).trans d4
  -- free
  refine wpAny_execs_cons (wpAny_Assign_Name (wpAny_Compare1 (Attribute_Name_ (r_name (s := { s with heap := h₃, toks := tk₃ }) S₃ d3 (r_path (s := { s with heap := h₃, toks := tk₃ }) X (a.mono (by decide) (by decide)) S₃ (by omega) (by omega) fun h₄ tk₄ S₄ => ?_)))))
  refine wpAny_BinOp (r_name (s := { s with heap := h₄, toks := tk₄ }) S₄ d6 (r_name (s := { s with heap := h₄, toks := tk₄ }) S₄ d7 ?_))
  have hs0 := l.rep.short hql
  have hs1 := l.rep.short (q := 1 - q) (by omega)
  refine add_rows (s := { s with heap := h₄, toks := tk₄ }) (S₄.get (os7_row hql)) (S₄.get (os7_row (by omega))) (by omega) fun h₅ hk₅ hf₅ e₅ => ?_
  have S₅ := S₄.keeps hk₅
  refine notIn_row e₅ (r_store (s := { s with heap := h₅, toks := tk₄ }) S₅ fun h₆ S₆ => ?_)
  obtain ⟨m₆, S₆, d8, k₆⟩ := S₆.one
  have mb₆ := mb₃.of k₆ (by decide)
  have tm : TM c m₆ ro r q (jj + 2) dd pl (!decide ((jj + 2) ∈ r q ++ r (1 - q))) := by
    refine ⟨⟨_, (k₆ _ (by decide)).trans d1⟩, ⟨_, (k₆ _ (by decide)).trans d2⟩, (k₆ _ (by decide)).trans d3, ⟨_, (k₆ _ (by decide)).trans d4⟩, (k₆ _ (by decide)).trans d5, (k₆ _ (by decide)).trans d6, (k₆ _ (by decide)).trans d7, d8, hql, by omega, by omega, ?_⟩
    unfold free
    have hc : q = 0 ∨ q = 1 := by omega
    rcases hc with rfl | rfl
    · simp
    · simp [and_comm]
  exact hQ h₆ _ m₆ _ ⟨S₆, l.ow, l.rep, l.bare, mb₆, l.lr⟩ tm

theorem turn_does {Q : Flow → Shared → Prop} (hb : LawIs w qual body scope) (X : Cx w base c) (a : Amb A (envOf qual scope L f cd :: outer) 30 300) (l : LS base c outer h₀ (envOf qual scope L f cd) ad oI oR m σ r ro n s.gens s.heap)
    (hI : IntsAre ad.vals ns) (hlen : i * 2 + 1 < ad.vals.length) (hle : ad.vals.length ≤ 100) (hk : ∃ t, m "k" = some (.int ((i * 2 : Nat) : Int) t)) (room : ∀ s' : Shared, base.StaysIn s'.heap → PylongRoom (model prog w) A s')
    (hQ : ∀ h' tk gens' m' σ' r' ro' n' oR', LS base c outer h₀ (envOf qual scope L f cd) ad oI oR' m' σ' r' ro' n' gens' h' → Q .next { s with heap := h', toks := tk, gens := gens' }) :
    wpAny (model prog w) A (execs (turnB body) (envOf qual scope L f cd)) Q E s := by
  have hb' := hb
  obtain ⟨rfl, rfl, rfl⟩ := law_eq (by k_is) hb
  clear hb
  obtain ⟨tk0, hk⟩ := hk
  have S := l.st
  have hv0 : ad.vals[i * 2]? = some ad.vals[i * 2] := List.getElem?_eq_getElem (by omega)
  have hv1 : ad.vals[i * 2 + 1]? = some ad.vals[i * 2 + 1] := List.getElem?_eq_getElem hlen
  obtain ⟨x0, t0, h0, _⟩ := hI.at _ _ hv0
  obtain ⟨x1, t1, h1, _⟩ := hI.at _ _ hv1
  rw [h0] at hv0
  rw [h1] at hv1
  obtain ⟨dd, hdd, hdl⟩ := fm x0 12 (by decide)
  obtain ⟨q, hq, hql⟩ := fm x1 2 (by decide)
  obtain ⟨jj, hjj, hjl⟩ := fm (x1.fdiv 2) 6 (by decide)
  obtain ⟨pl, hpl, hpll⟩ := fm (x1.fdiv 12) 6 (by decide)
  have hnu : ∀ {h : Heap} {m' : Str → Option Value} {σ' : NS}, StAs S m' σ' (os7 c r ro n ad oI oR) h → h.IsList ad.nu ad.vals.toArray := fun S' => lO_list (St.get S' (.tail _ (.tail _ (.tail _ (.tail _ (.tail _ (.head _)))))))
  -- deed, here
  refine wpAny_execs_cons (tup2 (base := base) (h₀ := h₀) (c := c) (outer := outer) a.handled (wpAny_BinOp (sub_list (r_name S l.mb.mn (r_name S hk ?_)))))
  refine ⟨ad.nu, ad.vals, i * 2, _, .int x0 t0, rfl, rfl, hnu S, by omega, hv0, wpAny_Constant_int (mod_int' (by decide) ?_)⟩
  rw [show x0.fmod 12 = (dd : Int) from hdd]
  refine wpAny_BinOp (sub_list (r_name (s := { s with toks := s.toks + 1 + 1 }) S l.mb.mn (wpAny_BinOp (r_name (s := { s with toks := s.toks + 1 + 1 }) S hk (wpAny_Constant_int (add_int ?_))))))
  refine ⟨ad.nu, ad.vals, i * 2 + 1, _, .int x1 t1, rfl, rfl, hnu S, by omega, hv1, wpAny_Constant_int (mod_int' (by decide) ?_)⟩
  rw [show x1.fmod 2 = (q : Int) from hq]
  refine ⟨m, σ, _, S, fun h₁ tk₁ S₁ => ?_⟩
  obtain ⟨m₁, S₁, d1, d2, k₁⟩ := S₁.two (by decide)
  have mb₁ := l.mb.of k₁ (by decide)
  have hk₁ := (k₁ "k" (by decide)).trans hk
  -- item, place
  refine wpAny_execs_cons (tup2 (base := base) (h₀ := h₀) (c := c) (outer := outer) a.handled (sub_list (r_name (s := { s with heap := h₁, toks := tk₁ }) S₁ mb₁.mi (wpAny_BinOp (wpAny_BinOp (sub_list (r_name (s := { s with heap := h₁, toks := tk₁ }) S₁ mb₁.mn (wpAny_BinOp (r_name (s := { s with heap := h₁, toks := tk₁ }) S₁ hk₁ (wpAny_Constant_int (add_int ?_)))))))))))
  refine ⟨ad.nu, ad.vals, i * 2 + 1, _, .int x1 t1, rfl, rfl, hnu S₁, by omega, hv1, wpAny_Constant_int (floordiv_int (by decide) (wpAny_Constant_int (mod_int' (by decide) ?_)) (.inr (room _ S₁.ok.stays)))⟩
  rw [show (x1.fdiv 2).fmod 6 = (jj : Int) from hjj]
  refine ⟨ad.ia, ivs c, jj, _, _, rfl, rfl, lO_list (S₁.get (.tail _ (.tail _ (.tail _ (.tail _ (.head _)))))), by omega, ivs_at hjl, ?_⟩
  refine wpAny_BinOp (wpAny_BinOp (sub_list (r_name (s := { s with heap := h₁, toks := tk₁ + 1 + 1 + 1 + 1 + 1 + 1 }) S₁ mb₁.mn (wpAny_BinOp (r_name (s := { s with heap := h₁, toks := tk₁ + 1 + 1 + 1 + 1 + 1 + 1 }) S₁ hk₁ (wpAny_Constant_int (add_int ?_)))))))
  refine ⟨ad.nu, ad.vals, i * 2 + 1, _, .int x1 t1, rfl, rfl, hnu S₁, by omega, hv1, wpAny_Constant_int (floordiv_int (by decide) (wpAny_Constant_int (mod_int' (by decide) ?_)) (.inr (room _ S₁.ok.stays)))⟩
  rw [show (x1.fdiv 12).fmod 6 = (pl : Int) from hpl]
  refine ⟨_, σ, _, S₁, fun h₂ tk₂ S₂ => ?_⟩
  obtain ⟨m₂, S₂, d3, d4, k₂⟩ := S₂.two (by decide)
  have mb₂ := mb₁.of k₂ (by decide)
  have d1 := (k₂ "deed" (by decide)).trans d1
  have d2 := (k₂ "here" (by decide)).trans d2
  refine turn_mid (s := { s with heap := h₂, toks := tk₂ }) hb' X a ⟨S₂, l.ow, l.rep, l.bare, mb₂, l.lr⟩ ⟨_, d1⟩ ⟨_, d2⟩ d3 ⟨_, d4⟩ hql hjl fun h₆ tk₆ m₆ fr l₆ tm => ?_
  exact turn_tail (s := { s with heap := h₆, toks := tk₆ }) hb' X a l₆ tm hQ
end
end Mine

namespace Mine
open PySem PySem.W PySem.Calls PyProof.Rows PySem.SeqAt
example (w : World) : hd.heap_39 w.params = hd.heap_39 w.params ∧ PySem.Challenge.rw_bi0011_01 = PySem.Challenge.rw_bi0011_01 := by
  k_fill
  exact ⟨rfl, rfl⟩
local macro_rules | `(tactic| k_is) => `(tactic| (delta KF; k_is))

abbrev os6 (c : Cfg 8) (r : Rows2) (ro : Nat → Addr) (n : Nat → Nat) (a : Ads) (oR : Obj) : List (Addr × Obj) :=
  [(ro 0, rO c (r 0) (n 0)), (ro 1, rO c (r 1) (n 1)), (a.ra, oR), (a.qa, lO (qvs c) (n 3)), (a.ia, lO (ivs c) (n 4)), (a.nu, lO a.vals (n 5))]

theorem Owns.rot {base h₀ : Heap} {c : Cfg 8} {outer : List Env} {a : Addr} {as : List Addr} (O : Owns base c outer h₀ (a :: as)) : Owns base c outer h₀ (as ++ [a]) :=
  ⟨fun b hb => O.all b (by
    rcases List.mem_append.mp hb with hb | hb
    · exact .tail _ hb
    · rw [List.mem_singleton.mp hb]; exact .head _),
   List.nodup_append.mpr ⟨(List.nodup_cons.mp O.nodup).2, by simp, fun x hx y hy => by
    rw [List.mem_singleton.mp hy]
    exact fun z => (List.nodup_cons.mp O.nodup).1 (z ▸ hx)⟩⟩

/-- the turns -/
def LwI {w : World} {base h₀ h : Heap} {c : Cfg 8} {outer : List Env} {m : Str → Option Value} {σ : NS} {os : List (Addr × Obj)} {env : Env} (_ : Cx w base c)
    (_ : St base c outer h₀ env m σ os h) (ad : Ads) (N : Nat) (s : Shared) (i : Nat) (s' : Shared) : Prop :=
  ∃ h tk gens m σ r ro n oI oR, s' = { s with heap := h, toks := tk, gens := gens } ∧ i ≤ N ∧ LS base c outer h₀ env ad oI oR m σ r ro n gens h ∧ IsRangeIter h ad.it (i * 2) ((N : Int) - i) 2

section
variable {prog : Program} {w : World} {base h₀ : Heap} {c : Cfg 8} {outer : List Env} {m : Str → Option Value} {σ : NS} {A : Around} {E : Value → Shared → Prop} {s : Shared} {r R : Rows2} {ro : Nat → Addr} {n : Nat → Nat} {ad : Ads} {oI oR : Obj}
  {qual : Str} {body : List Stmt} {scope : Scope} {L f : Addr} {cd : Value} {i : Nat} {ns : List Int}

theorem law_rest {Q : Flow → Shared → Prop} (hb : LawIs w qual body scope) (X : Cx w base c) (a : Amb A (envOf qual scope L f cd :: outer) 30 300)
    (S : St base c outer h₀ (envOf qual scope L f cd) m σ (os6 c r ro n ad oR) s.heap) (O : Owns base c (envOf qual scope L f cd :: outer) h₀ [ro 0, ro 1, ad.ra, ad.qa, ad.ia, ad.nu]) (H : Rep σ r) (hab : AllBare s.gens) (mb : MB ad m) (lr : LstO oR (rvs ro))
    (hI : IntsAre ad.vals ns) (hle : ad.vals.length ≤ 100) (room : ∀ s' : Shared, base.StaysIn s'.heap → PylongRoom (model prog w) A s')
    (hQ : ∀ h' tk gens', AllBare gens' → Turn c (frs outer) h₀ h' → Q (.ret (.bool true)) { s with heap := h', toks := tk, gens := gens' }) :
    wpAny (model prog w) A (execs (body.drop 4) (envOf qual scope L f cd)) Q E s := by
  have hb' := hb
  obtain ⟨rfl, rfl, rfl⟩ := law_eq (by k_is) hb
  clear hb
  refine wpAny_execs_cons (wpAny_For (Call_Name rfl (r_builtin X S (v := .type "range") (by simp [builtinNames]) (PyProof.Rows.callWith_type1 (r_args3 (wpAny_Constant_int (wpAny_BinOp (Call_Name1 (r_builtin (s := { s with toks := s.toks + 1 }) X S (v := .builtin "len") (by simp [builtinNames]) (PySem.callWith_builtin1 (r_name (s := { s with toks := s.toks + 1 }) S mb.mn (len_list (s := { s with toks := s.toks + 1 }) (S.get (.tail _ (.tail _ (.tail _ (.tail _ (.tail _ (.head _))))))) (by omega) ?_))))))))))))
  refine wpAny_Constant_int (sub_int (wpAny_Constant_int (call_range_3 (by decide) ?_ (.inr (room _ S.ok.stays)))))
  have hsz : Builtin.Range.rangeSize 0 ((ad.vals.length : Int) - 1) 2 = ((ad.vals.length / 2 : Nat) : Int) := by
    unfold Builtin.Range.rangeSize
    rw [if_pos (by decide)]
    split <;> omega
  refine wpAny_pyIter_range (a := 0) (b := (ad.vals.length : Int) - 1) (c := 2) (Heap.get?_push_size _ rfl) ?_ ?_
  · have f : ∀ x : Int, -1000 < x → x < 1000 → Builtin.Range.rangeFitsLong x = true := fun x h1 h2 => by
      unfold Builtin.Range.rangeFitsLong
      simp only [Bool.and_eq_true, decide_eq_true_eq]
      omega
    unfold Builtin.Range.small
    rw [hsz, f 0 (by decide) (by decide), f 2 (by decide) (by decide), f _ (by omega) (by omega), f _ (by omega) (by omega), if_pos (by decide), f _ (by omega) (by omega)]
    simp
  · rw [hsz]
    generalize hH : s.heap.push _ = H₁
    have S₁ := S.keeps (h' := H₁) (hH ▸ keeps_push _ _)
    have hit := fresh_size H₁
    have S₂ := S₁.born (h' := H₁.push { cls := .type "range_iterator", data := .fields #[rawInt 0, rawInt ((ad.vals.length / 2 : Nat) : Int), rawInt 2] }) (keeps_push _ _) hit (Heap.get?_push_size _ rfl)
    have O₂ := O.born (os := os6 c r ro n ad oR) S₁ hit
    generalize H₁.objs.size = I at S₂ O₂ ⊢
    have O₃ : Owns base c _ h₀ (as7 ro { ad with it := I }) := O₂.rot
    refine forR (it := I) (n := ad.vals.length / 2) (c := 2) (LwI X S { ad with it := I } (ad.vals.length / 2) s) a.handled ?_ ?_ ?_ ?_
    · rintro i s' ⟨h, tk, gens, m, σ, r, ro, n, oI, oR, rfl, hi, l, hR⟩
      exact ⟨hi, hR⟩
    · rintro i t s' hi ⟨h₃, tk₃, gens₃, m₃, σ₃, r₃, ro₃, n₃, oI₃, oR₃, rfl, _, l₃, hR₃⟩ h₄ hR₄ hs₄
      have S₄ := l₃.st.write (i := 6) l₃.ow rfl hs₄ hR₄
      have e2 : (i : Int) * 2 = ((i * 2 : Nat) : Int) := by omega
      rw [e2]
      refine wpAny_assign_Name (r_store (s := { s with heap := h₄, toks := tk₃ + 1, gens := gens₃ }) S₄ fun h₅ S₅ => ?_)
      refine turn_does (s := { s with heap := h₅, toks := tk₃ + 1 + 1, gens := gens₃ }) (ad := { ad with it := I }) (i := i) hb' X a ⟨S₅, l₃.ow, l₃.rep, l₃.bare, l₃.mb.set (by decide), l₃.lr⟩ hI (show i * 2 + 1 < ad.vals.length by omega) hle ⟨_, if_pos rfl⟩ room fun h₆ tk₆ gens₆ m₆ σ₆ r₆ ro₆ n₆ oR₆ l₆ => ?_
      exact ⟨h₆, tk₆, gens₆, m₆, σ₆, r₆, ro₆, n₆, _, oR₆, rfl, hi, l₆, l₆.st.get (.tail _ (.tail _ (.tail _ (.tail _ (.tail _ (.tail _ (.head _)))))))⟩
    · rintro s' ⟨h₃, tk₃, gens₃, m₃, σ₃, r₃, ro₃, n₃, oI₃, oR₃, rfl, _, l₃, hR₃⟩ h₄ hs₄
      have hnd : ∀ p ∈ os6 c r₃ ro₃ n₃ { ad with it := I } oR₃, p.1 ≠ I := fun p hp z => by
        have hn := l₃.ow.nodup
        have : as7 ro₃ { ad with it := I } = (os6 c r₃ ro₃ n₃ { ad with it := I } oR₃).map Prod.fst ++ [I] := rfl
        rw [this] at hn
        exact (List.nodup_append.mp hn).2.2 p.1 (List.mem_map.mpr ⟨p, hp, rfl⟩) I (.head _) z
      have S₄ := l₃.st.putE (os' := os6 c r₃ ro₃ n₃ { ad with it := I } oR₃) (l₃.ow.all I (by simp)) hs₄ fun p hp => .inl ⟨List.mem_append_left [(I, oI₃)] hp, hnd p hp⟩
      refine wpAny_execs_cons (wpAny_Return_some (Call_Name rfl (r_global (s := { s with heap := h₄, toks := tk₃, gens := gens₃ }) X S₄ (v := .ref 254) (by simp [globalNames]) (callWith_K (S₄.K X) (same_keep w) (r_args3 (r_name (s := { s with heap := h₄, toks := tk₃, gens := gens₃ }) S₄ l₃.mb.mq (r_name (s := { s with heap := h₄, toks := tk₃, gens := gens₃ }) S₄ l₃.mb.mr (r_name (s := { s with heap := h₄, toks := tk₃, gens := gens₃ }) S₄ l₃.mb.mi ⟨S₄.K X, ?_⟩))))))))
      refine wpAny_call (same_does (r := r₃) (ro := ro₃) X prog A _ { s with heap := h₄, toks := tk₃, gens := gens₃ } _ σ₃ (a.mono (by decide) (by decide)) S₄.ok S₄.nodes l₃.rep ⟨⟨_, S₄.get (.tail _ (.tail _ (.tail _ (.head _))))⟩, l₃.lr.list (S₄.get (.tail _ (.tail _ (.head _)))), ⟨_, S₄.get (.tail _ (.tail _ (.tail _ (.tail _ (.head _)))))⟩, fun p hp => ⟨n₃ p, S₄.get ?_⟩⟩ l₃.bare fun h₅ tk₅ gens₅ hab₅ T₅ N₅ => ?_)
      · have : p = 0 ∨ p = 1 := by omega
        rcases this with rfl | rfl
        · exact .head _
        · exact .tail _ (.head _)
      · exact hQ _ _ _ hab₅ (S₄.callee X T₅ N₅).turn
    · exact ⟨_, _, s.gens, m, σ, r, ro, n, _, oR, rfl, Nat.zero_le _, ⟨S₂.sub fun p hp => (by
        rcases List.mem_append.mp (show p ∈ os6 c r ro n ad oR ++ [(I, _)] from hp) with hp | hp
        · exact .tail _ hp
        · rw [List.mem_singleton.mp hp]; exact .head _), O₃, H, hab, ⟨mb.mn, mb.mq, mb.mr, mb.mi⟩, lr⟩, by
          have e : ((ad.vals.length / 2 : Nat) : Int) - ((0 : Nat) : Int) = ((ad.vals.length / 2 : Nat) : Int) := by omega
          show IsRangeIter _ I _ (((ad.vals.length / 2 : Nat) : Int) - ((0 : Nat) : Int)) 2
          rw [e]
          exact S₂.get (.head _)⟩
end
end Mine

namespace Mine
open PySem PySem.W PySem.Calls PyProof.Rows PySem.SeqAt
example (w : World) : hd.heap_39 w.params = hd.heap_39 w.params ∧ PySem.Challenge.rw_bi0011_01 = PySem.Challenge.rw_bi0011_01 := by
  k_fill
  exact ⟨rfl, rfl⟩
local macro_rules | `(tactic| k_is) => `(tactic| (delta KF; k_is))
local macro_rules | `(tactic| walk_at "m enter") => `(tactic| (
  (case ho => k_is)
  (case hcd => k_is)
  (case hbind => exact BindsTo.of_eq rfl)
  (case hloc => exact locs rfl)
  (case hcell => decide)
  (case hco => rfl)
  (case hgen => rfl)
  (case hk => rfl)))

/-- one node more -/
def Cfg.grow {nn : Nat} (c : Cfg nn) (x dx : Addr) (t : Tok) : Cfg (nn + 1) :=
  ⟨fun j => if j = nn then x else c.na j, fun j => if j = nn then dx else c.da j, fun j => if j = nn then t else c.tk j, c.ka, c.kd⟩
def NS.fresh (σ : NS) (n : Nat) : NS := fun i => if i = n then ⟨none, none⟩ else σ i

section
variable {w : World} {base h₀ h h' : Heap} {nn : Nat} {c : Cfg nn} {outer : List Env} {env : Env} {m : Str → Option Value} {σ σ' : NS} {os os' : List (Addr × Obj)} {x dx : Addr} {t : Tok}

theorem grow_na {j : Nat} (hj : j < nn) : (c.grow x dx t).na j = c.na j := if_neg (Nat.ne_of_lt hj)
theorem grow_da {j : Nat} (hj : j < nn) : (c.grow x dx t).da j = c.da j := if_neg (Nat.ne_of_lt hj)
theorem grow_tk {j : Nat} (hj : j < nn) : (c.grow x dx t).tk j = c.tk j := if_neg (Nat.ne_of_lt hj)
theorem grow_nan : (c.grow x dx t).na nn = x := if_pos rfl
theorem grow_dan : (c.grow x dx t).da nn = dx := if_pos rfl
theorem grow_tkn : (c.grow x dx t).tk nn = t := if_pos rfl

theorem grow_nmap {j : Nat} (hj : j < nn) (wf : ∀ k, (σ j).nx = some k ∨ (σ j).pv = some k → k < nn) (e : σ' j = σ j) : nmap (c.grow x dx t) σ' j = nmap c σ j := by
  have hn : nref (c.grow x dx t) (σ j).nx = nref c (σ j).nx := by
    unfold nref
    cases q : (σ j).nx with
    | none => rfl
    | some k => rw [Option.map_some, Option.map_some, grow_na (wf k (.inl q))]
  have hp : nref (c.grow x dx t) (σ j).pv = nref c (σ j).pv := by
    unfold nref
    cases q : (σ j).pv with
    | none => rfl
    | some k => rw [Option.map_some, Option.map_some, grow_na (wf k (.inr q))]
  unfold nmap
  rw [e, hn, hp, grow_na hj, grow_tk hj]
  rfl

theorem Nodes.grow (N : Nodes c σ h) (hx : h.get? x = some (instObj (ncls nn) dx)) (hd : h.Ns1 dx (nmap (c.grow x dx t) (σ.fresh nn) nn)) : Nodes (c.grow x dx t) (σ.fresh nn) h := by
  have old : ∀ {j}, j < nn → (σ.fresh nn) j = σ j := fun hj => if_neg (Nat.ne_of_lt hj)
  have cs : ∀ {j}, j < nn + 1 → j < nn ∨ j = nn := fun h => by omega
  refine ⟨fun j hj => ?_, fun j hj => ?_, N.kind, N.kdict, fun j hj k hk => ?_⟩
  · rcases cs hj with hj | rfl
    · rw [grow_na hj, grow_da hj]; exact N.inst j hj
    · rw [grow_nan, grow_dan]; exact hx
  · rcases cs hj with hj | rfl
    · rw [grow_da hj, grow_nmap hj (N.wf j hj) (old hj)]; exact N.dict j hj
    · rw [grow_dan]; exact hd
  · rcases cs hj with hj | rfl
    · rw [old hj] at hk
      exact Nat.lt_succ_of_lt (N.wf j hj k hk)
    · have e : (σ.fresh j) j = ⟨none, none⟩ := if_pos rfl
      rw [e] at hk
      rcases hk with hk | hk <;> cases hk

theorem Cx.grow (X : Cx w base c) (N : Nodes c σ h) (hdx : h.get? dx = none) (hb : base.get? dx = none) : Cx w base (c.grow x dx t) := by
  have cs : ∀ {j}, j < nn + 1 → j < nn ∨ j = nn := fun h => by omega
  have ne : ∀ j, j < nn → c.da j ≠ dx := fun j hj z => by
    obtain ⟨o, e⟩ := N.daThere j hj
    rw [z, hdx] at e; cases e
  refine ⟨X.K, X.names, X.lim, fun i j hi hj e => ?_, fun j hj => ?_, fun j hj => ?_⟩
  · rcases cs hi with hi | rfl <;> rcases cs hj with hj | rfl
    · rw [grow_da hi, grow_da hj] at e; exact X.inj i j hi hj e
    · rw [grow_da hi, grow_dan] at e; exact absurd e (ne i hi)
    · rw [grow_dan, grow_da hj] at e; exact absurd e.symm (ne j hj)
    · rfl
  · rcases cs hj with hj | rfl
    · rw [grow_da hj]; exact X.kd j hj
    · rw [grow_dan]
      intro z
      obtain ⟨o, e⟩ := N.kdThere
      have z' : dx = c.kd := z
      rw [← z', hdx] at e; cases e
  · rcases cs hj with hj | rfl
    · rw [grow_da hj]; exact X.fresh j hj
    · rw [grow_dan]; exact hb

theorem grow_D {b : Addr} (h : ¬ (c.grow x dx t).D b) : ¬ c.D b := fun ⟨j, hj, e⟩ => h ⟨j, Nat.lt_succ_of_lt hj, by rw [grow_da hj]; exact e⟩
theorem not_grow_D {b : Addr} (h : ¬ c.D b) (hb : b ≠ dx) : ¬ (c.grow x dx t).D b := fun ⟨j, hj, e⟩ => by
  rcases (show j < nn ∨ j = nn by omega) with hj | rfl
  · rw [grow_da hj] at e; exact h ⟨j, hj, e⟩
  · rw [grow_dan] at e; exact hb e
theorem Turn.grow {fs : List Addr} (T : Turn c fs h h') : Turn (c.grow x dx t) fs h h' := ⟨fun b o e n d => T.same b o e n (grow_D d), T.frame⟩
theorem Ok.grow (k : Ok base c outer h) (hd : dx ∉ frs outer) : Ok base (c.grow x dx t) outer h :=
  ⟨k.stays, k.frames, k.dicts, fun b hb => ⟨(k.apart b hb).1, fun j hj => by
    rcases (show j < nn ∨ j = nn by omega) with hj | rfl
    · rw [grow_da hj]; exact (k.apart b hb).2 j hj
    · rw [grow_dan]; exact fun z => hd (z ▸ hb)⟩⟩

theorem St.grow (S : St base c outer h₀ env m σ os h) (O : Own base c (env :: outer) h₀ dx) (N : Nodes (c.grow x dx t) σ' h) (ho : ∀ p ∈ os', p ∈ os ∧ p.1 ≠ dx) : St base (c.grow x dx t) outer h₀ env m σ' os' h :=
  ⟨S.turn.grow, S.ns, S.ok.grow O.nf, N, S.new, S.fr, fun p hp => ⟨(S.os p (ho p hp).1).1, (S.os p (ho p hp).1).2.1, not_grow_D (S.os p (ho p hp).1).2.2 (ho p hp).2⟩⟩

theorem St.calleeG (X : Cx w base (c.grow x dx t)) (S : St base c outer h₀ env m σ os h) (hdx : h.get? dx = none) (T : Turn (c.grow x dx t) (frs (env :: outer)) h h') (N : Nodes (c.grow x dx t) σ' h') : St base (c.grow x dx t) outer h₀ env m σ' os h' := by
  have hnf : dx ∉ frs (env :: outer) := fun hm => by
    obtain ⟨o, es, n, e, d⟩ := S.ok.dicts dx hm
    rw [hdx] at e; cases e
  refine ⟨S.turn.grow.next S.new (S.frsEq ▸ T), T.ns (by rw [S.frsEq]; exact .head _) S.ns, (S.ok.grow hnf).turn X T, N, S.new, S.fr, fun p hp => ?_⟩
  have hne : p.1 ≠ dx := fun z => by have := (S.os p hp).1; rw [z, hdx] at this; cases this
  have hD := not_grow_D (x := x) (t := t) (S.os p hp).2.2 hne
  exact ⟨T.same _ _ (S.os p hp).1 (S.os p hp).2.1 hD, (S.os p hp).2.1, hD⟩

/-- the entry taken earlier -/
theorem St.since (S : St base c outer h env m σ os h') (k : Keeps h₀ h) (hn : h₀.get? env.locals = none) : St base c outer h₀ env m σ os h' :=
  ⟨⟨fun b o e n d => S.turn.same b o (k b o e) n d, fun b o e n => S.turn.frame b o (k b o e) n⟩, S.ns, S.ok, S.nodes, hn, S.fr, S.os⟩
end

section
variable {w : World} {base : Heap} {nn : Nat} {c : Cfg nn} {σ : NS} {j : Nat}
theorem init_does (X : Cx w base c) (hj : j < nn) (hw : Wf σ j) (hoff : onL σ j = false) : Does w base c 134 [.ref c.ka, .ref (c.na j)] 4 40 σ ((σ.setN j j).setP j j) .none := by
  intro prog A outer s R a ok N h
  refine' enter0 (d := 3) (u := 37) [("self", .ref c.ka), ("node", .ref (c.na j))] X a ok N ?ho ?hcd ?hbind ?hloc ?hcell ?hco ?hgen ?hk ?_
  walk_at "m enter"
  intro L h₁ tk S a'
  refine wpAny_execs_cons (wpAny_Assert_holds (wpAny_isTrue_Not (isTrue_plain (r_self1 X S (m_on w) (by rfl) (r_name S (v := .ref (c.na j)) (by rfl) ⟨S.K X, ?_⟩)))))
  refine call_does X (on_does X hj hw) (a'.mono (by decide) (by decide)) S fun h₂ tk₂ S₂ => ?_
  rw [hoff]
  refine wpAny_truthy_bool ⟨rfl, ?_⟩
  refine wpAny_execs_cons (wpAny_Expr (r_self2 (s := { s with heap := h₂, toks := tk₂ }) X S₂ (m_setn w) (by rfl) (r_name (s := { s with heap := h₂, toks := tk₂ }) S₂ (v := .ref (c.na j)) (by rfl) (r_name (s := { s with heap := h₂, toks := tk₂ }) S₂ (v := .ref (c.na j)) (by rfl) ⟨S₂.K X, ?_⟩))))
  refine call_does (s := { s with heap := h₂, toks := tk₂ }) X (set_next_does X hj hj) (a'.mono (by decide) (by decide)) S₂ fun h₃ tk₃ S₃ => ?_
  refine wpAny_execs_cons (wpAny_Expr (r_self2 (s := { s with heap := h₃, toks := tk₃ }) X S₃ (m_setp w) (by rfl) (r_name (s := { s with heap := h₃, toks := tk₃ }) S₃ (v := .ref (c.na j)) (by rfl) (r_name (s := { s with heap := h₃, toks := tk₃ }) S₃ (v := .ref (c.na j)) (by rfl) ⟨S₃.K X, ?_⟩))))
  refine call_does (s := { s with heap := h₃, toks := tk₃ }) X (set_prev_does X hj hj) (a'.mono (by decide) (by decide)) S₃ fun h₄ tk₄ S₄ => ?_
  exact wpAny_execs_nil (fin_next (h _ _ S₄.turn S₄.nodes))
end
end Mine

namespace Mine
open PySem PySem.W PySem.Calls PyProof.Rows PySem.SeqAt
example (w : World) : hd.heap_39 w.params = hd.heap_39 w.params ∧ PySem.Challenge.rw_bi0011_01 = PySem.Challenge.rw_bi0011_01 := by
  k_fill
  exact ⟨rfl, rfl⟩
local macro_rules | `(tactic| k_is) => `(tactic| (delta KF; k_is))
local macro_rules | `(tactic| walk_at "m enter") => `(tactic| (
  (case ho => k_is)
  (case hcd => k_is)
  (case hbind => exact BindsTo.of_eq rfl)
  (case hloc => exact locs rfl)
  (case hcell => decide)
  (case hco => rfl)
  (case hgen => rfl)
  (case hk => rfl)))

theorem Amb.under {A : Around} {outer : List Env} {d u : Nat} {C : Addr} {vals : List Value} {kw : List (Str × Value)} (a : Amb A outer (d + 1) (u + 9)) : Amb (A.under (.builtin "type.__call__" ⟨.ref C :: vals, kw⟩)) outer d u :=
  ⟨a.handled, a.frames, by have := a.depth; have e : (A.under (.builtin "type.__call__" ⟨.ref C :: vals, kw⟩)).depth = A.depth + 1 := rfl; rw [e]; omega,
   by have := a.units; have e : (A.under (.builtin "type.__call__" ⟨.ref C :: vals, kw⟩)).units = A.units + 1 := rfl; rw [e]; omega⟩

theorem mk_list (w : World) : makesIn (KF w) 101 = true := by k_is
theorem mk_route (w : World) : makesIn (KF w) 238 = true := by k_is
theorem mk_kind (w : World) : makesIn (KF w) 193 = true := by k_is
theorem in_list (w : World) : findIn (KF w) (.ref 101) "__init__" = some (some (.ref 35)) := by k_is
theorem in_route (w : World) : findIn (KF w) (.ref 238) "__init__" = some (some (.ref 212)) := by k_is
theorem in_kind (w : World) : findIn (KF w) (.ref 193) "__init__" = some (some (.ref 113)) := by k_is
theorem fn_list (w : World) : typeIn (KF w) (.ref 35) = some (.type "function") := by k_is
theorem fn_route (w : World) : typeIn (KF w) (.ref 212) = some (.type "function") := by k_is
theorem fn_kind (w : World) : typeIn (KF w) (.ref 113) = some (.type "function") := by k_is
theorem setOk_lt (w : World) : SetOk w 101 "list_type" := by constructor <;> k_is
theorem setOk_head (w : World) : SetOk w 101 "head" := by constructor <;> k_is
theorem setOk_sink (w : World) : SetOk w 238 "sink" := by constructor <;> k_is
theorem setOk_path (w : World) : SetOk w 238 "_path" := by constructor <;> k_is
theorem setOk_ref (w : World) : SetOk w 238 "_for_route_refresh" := by constructor <;> k_is

section
variable {w : World} {base h h' : Heap} {nn : Nat} {c : Cfg nn} {outer : List Env} {env : Env} {σ : NS} {a : Addr}
theorem Own.fresh (ok : Ok base c outer h) (N : Nodes c σ h) (e : h.get? a = none) (hl : a ≠ env.locals) (hf : env.frame = some env.locals) : Own base c (env :: outer) h a := by
  refine ⟨?_, e, fun hm => ?_, fun z => ?_, fun z => ?_, fun j hj z => ?_, fun j hj z => ?_⟩
  · cases q : base.get? a with
    | none => rfl
    | some o => rw [ok.stays a o q] at e; cases e
  · have hfr : frs (env :: outer) = env.locals :: frs outer := by unfold frs; rw [List.filterMap_cons, hf]
    rw [hfr] at hm
    rcases List.mem_cons.mp hm with z | hm
    · exact hl z
    · obtain ⟨o, es, n, e', d⟩ := ok.dicts a hm
      rw [e] at e'; cases e'
  · obtain ⟨o, e'⟩ := N.kdThere
    rw [← z, e] at e'; cases e'
  · have e' := N.kind
    rw [← z, e] at e'; cases e'
  · obtain ⟨o, e'⟩ := N.daThere j hj
    rw [← z, e] at e'; cases e'
  · have e' := N.inst j hj
    rw [← z, e] at e'; cases e'
theorem ns1_empty (e : h.get? a = some emptyDict) : h.Ns1 a fun _ => none :=
  Heap.Ns1.of_empty ⟨_, #[], 0, e, rfl, fun _ hx => by simp at hx, fun _ => rfl⟩
end

def Grows (w : World) (base : Heap) {nn : Nat} (c : Cfg nn) (f : Addr) (args : List Value) (d u : Nat) (t : Tok) (σ σ' : NS) : Prop :=
  ∀ (prog : Program) (A : Around) (outer : List Env) (s : Shared) (R : Result → Shared → Prop), Amb A outer d u → Ok base c outer s.heap → Nodes c σ s.heap →
    (∀ x dx h' tk, s.heap.get? x = none → s.heap.get? dx = none → Turn (c.grow x dx t) (frs outer) s.heap h' → Nodes (c.grow x dx t) σ' h' → R (.ok (.ret (.ref x))) { s with heap := h', toks := tk }) →
    codeAny (model prog w) A (.call (.ref f) ⟨args, []⟩) R s

section
variable {w : World} {base : Heap} {nn : Nat} {c : Cfg nn} {σ : NS} {t : Tok}
theorem list_grows (X : Cx w base c) (hn : nn < 2) : Grows w base c 101 [.ref c.ka] 7 70 t σ (((σ.fresh nn).setN nn nn).setP nn nn) := by
  intro prog A outer s R a ok N h
  obtain ⟨hp, g, d, tk, os⟩ := s
  have K := X.K.keeps ok.stays
  refine make_core (makes_of K (mk_list w)) (looks_findIn K (in_list w)) (fun self => bind_fn K self (fn_list w)) (.inl rfl) ?_
  have hdx := fresh_size hp
  have hxx : hp.get? (hp.objs.size + 1) = none := Heap.get?_none_of_le (Nat.le_succ _)
  have kH : Keeps hp ((hp.push emptyDict).push (instObj 101 hp.objs.size)) := (keeps_push _ _).trans (keeps_push _ _)
  have eD : ((hp.push emptyDict).push (instObj 101 hp.objs.size)).get? hp.objs.size = some emptyDict := Heap.get?_push_of_some _ (Heap.get?_push_size _ rfl)
  have eX : ((hp.push emptyDict).push (instObj 101 hp.objs.size)).get? (hp.objs.size + 1) = some (instObj 101 hp.objs.size) := by
    have := Heap.get?_push_size (hp.push emptyDict) (o := instObj 101 hp.objs.size) rfl
    rwa [Heap.size_push] at this
  generalize (hp.push emptyDict).push (instObj 101 hp.objs.size) = H at kH eD eX ⊢
  generalize hp.objs.size + 1 = x at hxx eX ⊢
  generalize hp.objs.size = dx at hdx eD eX ⊢
  refine' enter0 (s := ⟨H, g, d, tk, os⟩) (d := 5) (u := 58) [("self", .ref x), ("list_type", .ref c.ka)] X a.under (ok.keeps kH) (N.keeps kH) ?ho ?hcd ?hbind ?hloc ?hcell ?hco ?hgen ?hk ?_
  walk_at "m enter"
  intro L h₁ tk₁ S a'
  have hL : dx ≠ L := fun z => by have := S.new; rw [show (envOf _ _ L 35 _ : Env).locals = L from rfl, ← z, eD] at this; cases this
  have S0 := S.since kH (by
    cases q : hp.get? L with
    | none => exact q
    | some o => have := S.new; rw [show (envOf _ _ L 35 _ : Env).locals = L from rfl, kH _ _ q] at this; cases this)
  have O : Own base c (_ :: outer) hp dx := Own.fresh (env := envOf _ _ L 35 _) ok N hdx hL S0.fr
  have nD : ∀ {b : Addr}, hp.get? b = none → ¬ c.D b := fun e ⟨j, hj, z⟩ => by
    obtain ⟨o, e'⟩ := N.daThere j hj
    rw [← z, e] at e'; cases e'
  have nF : ∀ {b : Addr}, hp.get? b = none → b ∉ frs outer := fun e hm => by
    obtain ⟨o, es, n, e', _⟩ := ok.dicts _ hm
    rw [e] at e'; cases e'
  have hx₁ := S.turn.same _ _ eX (nF hxx) (nD hxx)
  have hd₁ := ns1_empty (S.turn.same _ _ eD (nF hdx) (nD hdx))
  have hxd : x ≠ dx := fun z => by rw [z, eD] at eX; cases eX
  have F1 := setOk_lt w
  have F2 := setOk_head w
  refine wpAny_execs_cons (plainObj_wpAny_Assign_Attribute (r_name (s := ⟨h₁, g, d, tk₁, os⟩) S0 (v := .ref c.ka) (by rfl) (r_name (s := ⟨h₁, g, d, tk₁, os⟩) S0 (v := .ref x) (by rfl) ?_)))
  refine inst_set (ns := []) (S0.K X) hx₁ hd₁ F1.s F1.p F1.t F1.h (fun y hy => absurd rfl hy) (by decide) fun h₂ hd₂ hs₂ => ?_
  have S2 := S0.putE (os' := []) O hs₂.extBut fun p hp => nomatch hp
  have hx₂ := hs₂.extBut _ _ hxd hx₁
  refine wpAny_execs_cons (plainObj_wpAny_Assign_Attribute (r_name (s := ⟨h₂, g, d, tk₁ + 2, os⟩) S2 (v := .ref x) (by rfl) (r_name (s := ⟨h₂, g, d, tk₁ + 2, os⟩) S2 (v := .ref x) (by rfl) ?_)))
  refine inst_set (ns := ["list_type"]) (S2.K X) hx₂ hd₂ F2.s F2.p F2.t F2.h (fun y hy => ?_) (by decide) fun h₃ hd₃ hs₃ => ?_
  · by_cases q : y = "list_type"
    · rw [q]; exact .head _
    · rw [if_neg q] at hy; exact absurd rfl hy
  have S3 := S2.putE (os' := []) O hs₃.extBut fun p hp => nomatch hp
  have hx₃ := hs₃.extBut _ _ hxd hx₂
  have em : nmap (c.grow x dx t) (σ.fresh nn) nn = fun (y : Str) => if y = "head" then some (Value.ref x) else if y = "list_type" then some (.ref c.ka) else none := by
    have e0 : (σ.fresh nn) nn = ⟨none, none⟩ := if_pos rfl
    funext y
    unfold nmap
    rw [e0, grow_nan]
    by_cases q1 : y = "next_on_list"
    · rw [if_pos q1, if_neg (by rw [q1]; decide), if_neg (by rw [q1]; decide)]; rfl
    · rw [if_neg q1]
      by_cases q2 : y = "prev_on_list"
      · rw [if_pos q2, if_neg (by rw [q2]; decide), if_neg (by rw [q2]; decide)]; rfl
      · rw [if_neg q2, if_pos hn]
        by_cases q3 : y = "list_type"
        · rw [if_pos q3, if_neg (by rw [q3]; decide), if_pos q3]; rfl
        · rw [if_neg q3, if_neg q3]
  have N3 : Nodes (c.grow x dx t) (σ.fresh nn) h₃ := S3.nodes.grow (by unfold ncls; rw [if_pos hn]; exact hx₃) (by rw [em]; exact hd₃)
  have X' : Cx w base (c.grow x dx t) := X.grow N hdx O.nb
  have S4 := S3.grow (os' := []) O N3 fun p hp => nomatch hp
  have hlt : nn < nn + 1 := Nat.lt_succ_self _
  have e0 : (σ.fresh nn) nn = ⟨none, none⟩ := if_pos rfl
  have nl : nmap (c.grow x dx t) (σ.fresh nn) nn "list_type" = some (.ref c.ka) := by rw [em]; rfl
  have nh : nmap (c.grow x dx t) (σ.fresh nn) nn "head" = some (.ref ((c.grow x dx t).na nn)) := by rw [em, grow_nan]; rfl
  have hnc : ncls nn = 101 := ncls_head hn
  have ex : (Value.ref x) = .ref ((c.grow x dx t).na nn) := by rw [grow_nan]
  refine wpAny_execs_cons (wpAny_Expr (MethodCall_ (Attribute_Name_ (r_name (s := ⟨h₃, g, d, tk₁ + 2 + 2, os⟩) S4 (v := .ref ((c.grow x dx t).na nn)) (by rw [← ex]; rfl) (r_node (s := ⟨h₃, g, d, tk₁ + 2 + 2, os⟩) X' S4 hlt nl (by rw [hnc]; exact (g_lt w).g) (by rw [hnc]; exact (g_lt w).h) (by rw [hnc]; exact (g_lt w).f) rfl rfl ?_)))))
  refine r_kind (c := c.grow x dx t) (s := ⟨h₃, g, d, tk₁ + 2 + 2 + 1, os⟩) X' S4 (m_init w).gt (m_init w).fn (m_init w).ty (callWith_K (S4.K X') (m_init w).kp (r_args1 (Attribute_Name_ (r_name (s := ⟨h₃, g, d, tk₁ + 2 + 2 + 1, os⟩) S4 (v := .ref ((c.grow x dx t).na nn)) (by rw [← ex]; rfl) (r_node (s := ⟨h₃, g, d, tk₁ + 2 + 2 + 1, os⟩) X' S4 hlt nh (by rw [hnc]; exact (g_head w).g) (by rw [hnc]; exact (g_head w).h) (by rw [hnc]; exact (g_head w).f) rfl rfl ⟨S4.K X', ?_⟩)))))
  refine call_does (s := ⟨h₃, g, d, tk₁ + 2 + 2 + 1 + 1, os⟩) X' (init_does X' hlt (fun _ => by rw [e0]) (by unfold onL; rw [e0])) (a'.mono (by decide) (by decide)) S4 fun h₅ tk₅ S5 => ?_
  refine wpAny_execs_nil (fin_next ⟨rfl, ?_⟩)
  exact h x dx h₅ tk₅ hxx hdx S5.turn S5.nodes
end
end Mine

namespace Mine
open PySem PySem.W PySem.Calls PyProof.Rows PySem.SeqAt
example (w : World) : hd.heap_39 w.params = hd.heap_39 w.params ∧ PySem.Challenge.rw_bi0011_01 = PySem.Challenge.rw_bi0011_01 := by
  k_fill
  exact ⟨rfl, rfl⟩
local macro_rules | `(tactic| k_is) => `(tactic| (delta KF; k_is))
local macro_rules | `(tactic| walk_at "m enter") => `(tactic| (
  (case ho => k_is)
  (case hcd => k_is)
  (case hbind => exact BindsTo.of_eq rfl)
  (case hloc => exact locs rfl)
  (case hcell => decide)
  (case hco => rfl)
  (case hgen => rfl)
  (case hk => rfl)))

structure ClsOk (w : World) : Prop where
  g : specialIn (KF w) (.ref 193) "__getattribute__" = some (some (.builtin "type.__getattribute__"))
  r : readsIn (KF w) 193 (.type "type") = true
  f : findCls (KF w) (.ref 193) (.type "type") "List" = some (.val (.ref 101))
theorem clsOk (w : World) : ClsOk w := by constructor <;> k_is
theorem keep_list (w : World) : keepIn (KF w) (.ref 101) = true := by k_is
theorem keep_route (w : World) : keepIn (KF w) (.ref 238) = true := by k_is
theorem keep_kind (w : World) : keepIn (KF w) (.ref 193) = true := by k_is
theorem m_create (w : World) : MethOk w 193 "create" 120 := by constructor <;> k_is

section
variable {prog : Program} {w : World} {base h₀ : Heap} {nn : Nat} {c : Cfg nn} {outer : List Env} {m : Str → Option Value} {σ σ' : NS} {os : List (Addr × Obj)} {A : Around} {E : Value → Shared → Prop} {s : Shared} {env : Env} {t : Tok}

theorem grown {h h' : Heap} {x dx : Addr} (X : Cx w base c) (S : St base c outer h₀ env m σ os h) (hdx : h.get? dx = none) (T : Turn (c.grow x dx t) (frs (env :: outer)) h h') (N : Nodes (c.grow x dx t) σ' h') :
    Cx w base (c.grow x dx t) ∧ St base (c.grow x dx t) outer h₀ env m σ' os h' := by
  have hb : base.get? dx = none := by
    cases q : base.get? dx with
    | none => rfl
    | some o => rw [S.ok.stays dx o q] at hdx; cases hdx
  have X' := X.grow (x := x) (t := t) S.nodes hdx hb
  exact ⟨X', S.calleeG X' hdx T N⟩

theorem call_grows {f : Addr} {args : List Value} {d u : Nat} {Q : Value → Shared → Prop} (X : Cx w base c) (D : Grows w base c f args d u t σ σ') (a : Amb A (env :: outer) d u)
    (S : St base c outer h₀ env m σ os s.heap) (h : ∀ x dx h' tk, Cx w base (c.grow x dx t) → St base (c.grow x dx t) outer h₀ env m σ' os h' → s.heap.get? x = none → s.heap.get? dx = none → Q (.ref x) { s with heap := h', toks := tk }) :
    wpAny (model prog w) A (call (.ref f) args) Q E s :=
  wpAny_call (D prog A (env :: outer) s _ a S.ok S.nodes fun x dx h' tk hx hdx T N => h x dx h' tk (grown X S hdx T N).1 (grown X S hdx T N).2 hx hdx)
end

section
variable {w : World} {base : Heap} {nn : Nat} {c : Cfg nn} {σ σ' : NS} {t : Tok}

theorem create_grows (X : Cx w base c) (D : Grows w base c 101 [.ref c.ka] 7 70 t σ σ') : Grows w base c 120 [.ref c.ka] 8 80 t σ σ' := by
  intro prog A outer s R a ok N h
  refine' enter0 (d := 7) (u := 77) [("self", .ref c.ka)] X a ok N ?ho ?hcd ?hbind ?hloc ?hcell ?hco ?hgen ?hk ?_
  walk_at "m enter"
  intro L h₁ tk S a'
  have F := clsOk w
  refine wpAny_execs_cons (wpAny_Return_some (MethodCall_ (r_global X S (v := .ref 193) (by simp [globalNames]) (method_cls (S.K X) F.g (cls_value (S.K X) F.r F.f rfl (callWith_K (S.K X) (keep_list w) (r_args1 (r_name S (v := .ref c.ka) (by rfl) ⟨S.K X, ?_⟩))))))))
  refine call_grows X D (a'.mono (by decide) (by decide)) S fun x dx h₂ tk₂ X₂ S₂ hx hdx => ?_
  exact h x dx h₂ tk₂ (S.notYet hx) (S.notYet hdx) S₂.turn S₂.nodes
theorem call_kind (X : Cx w base c) (D : Grows w base c 101 [.ref c.ka] 7 70 t σ σ') : Grows w base c 127 [.ref c.ka] 9 90 t σ σ' := by
  intro prog A outer s R a ok N h
  refine' enter0 (d := 8) (u := 87) [("self", .ref c.ka)] X a ok N ?ho ?hcd ?hbind ?hloc ?hcell ?hco ?hgen ?hk ?_
  walk_at "m enter"
  intro L h₁ tk S a'
  have F := m_create w
  refine wpAny_execs_cons (wpAny_Return_some (MethodCall_ (r_name S (v := .ref c.ka) (by rfl) (r_kind X S F.gt F.fn F.ty (callWith_K0 (S.K X) F.kp ?_)))))
  refine call_grows X (create_grows X D) (a'.mono (by decide) (by decide)) S fun x dx h₂ tk₂ X₂ S₂ hx hdx => ?_
  exact h x dx h₂ tk₂ (S.notYet hx) (S.notYet hdx) S₂.turn S₂.nodes
end
end Mine

namespace Mine
open PySem PySem.W PySem.Calls PyProof.Rows PySem.SeqAt
example (w : World) : hd.heap_39 w.params = hd.heap_39 w.params ∧ PySem.Challenge.rw_bi0011_01 = PySem.Challenge.rw_bi0011_01 := by
  k_fill
  exact ⟨rfl, rfl⟩
local macro_rules | `(tactic| k_is) => `(tactic| (delta KF; k_is))
local macro_rules | `(tactic| walk_at "m enter") => `(tactic| (
  (case ho => k_is)
  (case hcd => k_is)
  (case hbind => first | exact BindsTo.of_eq rfl | exact binds_K (by assumption) rfl (by k_is) rfl rfl rfl)
  (case hloc => exact locs rfl)
  (case hcell => decide)
  (case hco => rfl)
  (case hgen => rfl)
  (case hk => rfl)))

section
variable {w : World} {base : Heap} {nn : Nat} {c : Cfg nn} {σ : NS} {t : Tok}
theorem route_grows (X : Cx w base c) (hn : 2 ≤ nn) : Grows w base c 238 [.int ((nn : Int) - 1) t] 7 70 t σ (σ.fresh nn) := by
  intro prog A outer s R a ok N h
  obtain ⟨hp, g, d, tk, os⟩ := s
  have K := X.K.keeps ok.stays
  refine make_core (makes_of K (mk_route w)) (looks_findIn K (in_route w)) (fun self => bind_fn K self (fn_route w)) (.inl rfl) ?_
  have hdx := fresh_size hp
  have hxx : hp.get? (hp.objs.size + 1) = none := Heap.get?_none_of_le (Nat.le_succ _)
  have kH : Keeps hp ((hp.push emptyDict).push (instObj 238 hp.objs.size)) := (keeps_push _ _).trans (keeps_push _ _)
  have eD : ((hp.push emptyDict).push (instObj 238 hp.objs.size)).get? hp.objs.size = some emptyDict := Heap.get?_push_of_some _ (Heap.get?_push_size _ rfl)
  have eX : ((hp.push emptyDict).push (instObj 238 hp.objs.size)).get? (hp.objs.size + 1) = some (instObj 238 hp.objs.size) := by
    have := Heap.get?_push_size (hp.push emptyDict) (o := instObj 238 hp.objs.size) rfl
    rwa [Heap.size_push] at this
  generalize (hp.push emptyDict).push (instObj 238 hp.objs.size) = H at kH eD eX ⊢
  generalize hp.objs.size + 1 = x at hxx eX ⊢
  generalize hp.objs.size = dx at hdx eD eX ⊢
  have KH : (KF w).In H := K.keeps kH
  refine' enter0 (s := ⟨H, g, d, tk, os⟩) (d := 5) (u := 58) [("self", .ref x), ("path", .int ((nn : Int) - 1) t), ("for_route_refresh", .bool false)] X a.under (ok.keeps kH) (N.keeps kH) ?ho ?hcd ?hbind ?hloc ?hcell ?hco ?hgen ?hk ?_
  walk_at "m enter"
  intro L h₁ tk₁ S a'
  have hL : dx ≠ L := fun z => by have := S.new; rw [show (envOf _ _ L 212 _ : Env).locals = L from rfl, ← z, eD] at this; cases this
  have S0 := S.since kH (by
    cases q : hp.get? L with
    | none => exact q
    | some o => have := S.new; rw [show (envOf _ _ L 212 _ : Env).locals = L from rfl, kH _ _ q] at this; cases this)
  have O : Own base c (_ :: outer) hp dx := Own.fresh (env := envOf _ _ L 212 _) ok N hdx hL S0.fr
  have nD : ∀ {b : Addr}, hp.get? b = none → ¬ c.D b := fun e ⟨j, hj, z⟩ => by
    obtain ⟨o, e'⟩ := N.daThere j hj
    rw [← z, e] at e'; cases e'
  have nF : ∀ {b : Addr}, hp.get? b = none → b ∉ frs outer := fun e hm => by
    obtain ⟨o, es, n, e', _⟩ := ok.dicts _ hm
    rw [e] at e'; cases e'
  have hx₁ := S.turn.same _ _ eX (nF hxx) (nD hxx)
  have hd₁ := ns1_empty (S.turn.same _ _ eD (nF hdx) (nD hdx))
  have hxd : x ≠ dx := fun z => by rw [z, eD] at eX; cases eX
  have F1 := setOk_sink w
  have F2 := setOk_path w
  have F3 := setOk_ref w
  refine wpAny_execs_cons (wpAny_Assert_holds (isTrue_plain (r_name (s := ⟨h₁, g, d, tk₁, os⟩) S0 (v := .int ((nn : Int) - 1) t) (by rfl) (PyProof.Rows.truthy_int ⟨?_, ?_⟩))))
  · simp; omega
  refine wpAny_execs_cons (plainObj_wpAny_Assign_Attribute (wpAny_Constant_none (r_name (s := ⟨h₁, g, d, tk₁, os⟩) S0 (v := .ref x) (by rfl) ?_)))
  refine inst_set (ns := []) (S0.K X) hx₁ hd₁ F1.s F1.p F1.t F1.h (fun y hy => absurd rfl hy) (by decide) fun h₂ hd₂ hs₂ => ?_
  have S2 := S0.putE (os' := []) O hs₂.extBut fun p hp => nomatch hp
  have hx₂ := hs₂.extBut _ _ hxd hx₁
  refine wpAny_execs_cons (plainObj_wpAny_Assign_Attribute (r_name (s := ⟨h₂, g, d, tk₁ + 2, os⟩) S2 (v := .int ((nn : Int) - 1) t) (by rfl) (r_name (s := ⟨h₂, g, d, tk₁ + 2, os⟩) S2 (v := .ref x) (by rfl) ?_)))
  refine inst_set (ns := ["sink"]) (S2.K X) hx₂ hd₂ F2.s F2.p F2.t F2.h (fun y hy => ?_) (by decide) fun h₃ hd₃ hs₃ => ?_
  · by_cases q : y = "sink"
    · rw [q]; exact .head _
    · rw [if_neg q] at hy; exact absurd rfl hy
  have S3 := S2.putE (os' := []) O hs₃.extBut fun p hp => nomatch hp
  have hx₃ := hs₃.extBut _ _ hxd hx₂
  refine wpAny_execs_cons (plainObj_wpAny_Assign_Attribute (r_name (s := ⟨h₃, g, d, tk₁ + 2 + 2, os⟩) S3 (v := .bool false) (by rfl) (r_name (s := ⟨h₃, g, d, tk₁ + 2 + 2, os⟩) S3 (v := .ref x) (by rfl) ?_)))
  refine inst_set (ns := ["sink", "_path"]) (S3.K X) hx₃ hd₃ F3.s F3.p F3.t F3.h (fun y hy => ?_) (by decide) fun h₄ hd₄ hs₄ => ?_
  · by_cases q : y = "_path"
    · rw [q]; exact .tail _ (.head _)
    · rw [if_neg q] at hy
      by_cases q : y = "sink"
      · rw [q]; exact .head _
      · rw [if_neg q] at hy; exact absurd rfl hy
  have S4 := S3.putE (os' := []) O hs₄.extBut fun p hp => nomatch hp
  have hx₄ := hs₄.extBut _ _ hxd hx₃
  have em : nmap (c.grow x dx t) (σ.fresh nn) nn = fun (y : Str) => if y = "_for_route_refresh" then some (Value.bool false) else if y = "_path" then some (.int ((nn : Int) - 1) t) else if y = "sink" then some .none else none := by
    have e0 : (σ.fresh nn) nn = ⟨none, none⟩ := if_pos rfl
    funext y
    unfold nmap
    rw [e0, grow_tkn]
    by_cases q1 : y = "next_on_list"
    · rw [if_pos q1, if_neg (by rw [q1]; decide), if_neg (by rw [q1]; decide), if_neg (by rw [q1]; decide)]; rfl
    · rw [if_neg q1]
      by_cases q2 : y = "prev_on_list"
      · rw [if_pos q2, if_neg (by rw [q2]; decide), if_neg (by rw [q2]; decide), if_neg (by rw [q2]; decide)]; rfl
      · rw [if_neg q2, if_neg (by omega)]
        by_cases q3 : y = "sink"
        · rw [if_pos q3, if_neg (by rw [q3]; decide), if_neg (by rw [q3]; decide), if_pos q3]
        · rw [if_neg q3]
          by_cases q4 : y = "_path"
          · rw [if_pos q4, if_neg (by rw [q4]; decide), if_pos q4]
          · rw [if_neg q4, if_neg q4, if_neg q3]
  have N4 : Nodes (c.grow x dx t) (σ.fresh nn) h₄ := S4.nodes.grow (by rw [ncls_item hn]; exact hx₄) (by rw [em]; exact hd₄)
  have X' : Cx w base (c.grow x dx t) := X.grow N hdx O.nb
  have S5 := S4.grow (os' := []) O N4 fun p hp => nomatch hp
  refine wpAny_execs_nil (fin_next ⟨rfl, ?_⟩)
  exact h x dx h₄ _ hxx hdx S5.turn S5.nodes
end
end Mine

namespace Mine
open PySem PySem.W PySem.Calls PyProof.Rows PySem.SeqAt

section
variable {base h₀ h : Heap} {nn : Nat} {c : Cfg nn} {outer : List Env} {env : Env} {as : List Addr} {x dx : Addr} {t : Tok}
theorem Owns.grow (O : Owns base c outer h₀ as) (he : ∀ a ∈ as, ∃ o, h.get? a = some o) (hx : h.get? x = none) (hdx : h.get? dx = none) : Owns base (c.grow x dx t) outer h₀ as :=
  ⟨fun a ha => (by
    have Oa := O.all a ha
    obtain ⟨o, e⟩ := he a ha
    refine ⟨Oa.nb, Oa.n0, Oa.nf, Oa.nk, Oa.ni, fun j hj => ?_, fun j hj => ?_⟩
    · rcases (show j < nn ∨ j = nn by omega) with hj | rfl
      · rw [grow_da hj]; exact Oa.nd j hj
      · rw [grow_dan]; intro z; rw [z, hdx] at e; cases e
    · rcases (show j < nn ∨ j = nn by omega) with hj | rfl
      · rw [grow_na hj]; exact Oa.nn j hj
      · rw [grow_nan]; intro z; rw [z, hx] at e; cases e), O.nodup⟩
end

theorem St.there {base h₀ h : Heap} {nn : Nat} {c : Cfg nn} {outer : List Env} {env : Env} {m : Str → Option Value} {σ : NS} {os : List (Addr × Obj)} (S : St base c outer h₀ env m σ os h) : ∀ a ∈ os.map Prod.fst, ∃ o, h.get? a = some o := fun a ha => by
  obtain ⟨p, hp, rfl⟩ := List.mem_map.mp ha
  exact ⟨_, (S.os p hp).1⟩

/-- the items made so far -/
def CgI {w : World} {base h₀ h : Heap} {c : Cfg 2} {outer : List Env} {m : Str → Option Value} {σ : NS} {os : List (Addr × Obj)} {env : Env} (_ : Cx w base c)
    (_ : St base c outer h₀ env m σ os h) (C D it : Addr) (s : Shared) (i : Nat) (s' : Shared) : Prop :=
  ∃ (c' : Cfg (2 + i)) (h : Heap) (tk : Nat) (oC oI : Obj) (n' : Nat) (σ' : NS) (mC : Str → Option Value), s' = { s with heap := h, toks := tk } ∧ Cx w base c' ∧
    St base c' outer h₀ env m σ' ((C, oC) :: (D, lO ((List.range i).map fun k => .ref (c'.na (k + 2))) n') :: (it, oI) :: os) h ∧ Owns base c' (env :: outer) h₀ (C :: D :: it :: os.map Prod.fst) ∧ h.Ns C mC ∧
    IsRangeIter h it ((i : Int) + 1) (6 - (i : Int)) 1 ∧ c'.na 0 = c.na 0 ∧ c'.na 1 = c.na 1 ∧ σ' 0 = σ 0 ∧ σ' 1 = σ 1 ∧ ∀ j, 2 ≤ j → j < 2 + i → σ' j = ⟨none, none⟩

section
variable {prog : Program} {w : World} {base h₀ : Heap} {c : Cfg 2} {outer : List Env} {m : Str → Option Value} {σ : NS} {os : List (Addr × Obj)} {A : Around} {E : Value → Shared → Prop} {s : Shared}
  {qual : Str} {sc : Scope} {L fa : Addr} {cd : Value}

theorem items_assign {x y f : Str} {px py p1 pf cp pos spos : Pos} {iter : Expr} {scope : Scope} {Q : Flow → Shared → Prop} (X : Cx w base c) (a : Amb A (envOf qual sc L fa cd :: outer) 20 200)
    (S : St base c outer h₀ (envOf qual sc L fa cd) m σ os s.heap) (O : Owns base c (envOf qual sc L fa cd :: outer) h₀ (os.map Prod.fst)) (hf : (f, .ref 238) ∈ globalNames)
    (hit : wpAny (model prog w) A (eval iter (envOf qual sc L fa cd)) (fun v s₁ => ∃ (ra : Addr) (h : Heap) (tk : Nat) (t1 t2 t3 : Tok), v = .ref ra ∧ s₁ = { s with heap := h, toks := tk } ∧ Keeps s.heap h ∧ IsRange h ra 1 7 1 t1 t2 t3) E s)
    (hQ : ∀ (c' : Cfg 8) h' tk σ' ia n', Cx w base c' → St base c' outer h₀ (envOf qual sc L fa cd) (fun z => if z = y then some (.ref ia) else m z) σ' ((ia, lO (ivs c') n') :: os) h' → Owns base c' (envOf qual sc L fa cd :: outer) h₀ (ia :: os.map Prod.fst) →
      c'.na 0 = c.na 0 → c'.na 1 = c.na 1 → σ' 0 = σ 0 → σ' 1 = σ 1 → (∀ j, 2 ≤ j → j < 8 → σ' j = ⟨none, none⟩) → Q .next { s with heap := h', toks := tk })
    (hsw : swapsWith (.ListComp (.Call (.Name f pf) [.Name x p1] [] cp) [⟨.Name x px, iter, [], 0⟩] scope pos) (some (.Name y py)) spos.line (envOf qual sc L fa cd) = pure true := by rfl)
    (hfree : ∀ x ∈ scope.names, x.2 ≠ .free := by decide) (hcell : ∀ x ∈ scope.names, x.2 ≠ .cell := by decide) (hkind : scope.kind = .function := by rfl) (hnames : ∀ x ∈ scope.names, x.2 = .local → scope.names.lookup x.1 = some .local := by decide) (hx : scope.names.lookup x = some .local := by rfl)
    (hfx : scope.names.lookup f = some .globalImplicit := by rfl) (hdx : (x == ("__debug__" : Str)) = false := by decide) (hdf : (f == ("__debug__" : Str)) = false := by decide) (hsk : sc.kind = .function := by rfl) (hy : (envOf qual sc L fa cd).kindOf y = some .local := by rfl)
    (hs : ∀ x, foldedSetIterable iter (envOf qual sc L fa cd) x = pure x := by intro _; rfl) :
    wpAny (model prog w) A (exec (.Assign [.Name y py] (.ListComp (.Call (.Name f pf) [.Name x p1] [] cp) [⟨.Name x px, iter, [], 0⟩] scope pos) spos) (envOf qual sc L fa cd)) Q E s := by
  rw [exec_Assign_Name_used _ _ _ _ hsw]
  refine wpAny_bind (wpAny_standAt (wpAny_bind ?_))
  show wpAny _ A (do let _ ← comprehension _ scope (envOf qual sc L fa cd) _ (newList []) false (eval iter (envOf qual sc L fa cd)) (some (assign (.Name y py) (envOf qual sc L fa cd)))) _ _ s
  refine wpAny_bind (wpAny_mono (wpAny_comprehension_use (Q := fun _ s' => Q .next s') rfl hs hfree hkind hnames (wpAny_mono hit (fun xv s₁ h₁ => ?_) fun _ _ e => e)) (fun _ s' hq => wpAny_pure (wpAny_pure hq)) fun _ _ e => e)
  obtain ⟨ra, h₁, tk₁, t1, t2, t3, rfl, rfl, hk₁, hr⟩ := h₁
  have S₁ := S.keeps hk₁
  refine wpAny_pyIter_range hr (by decide) ?_
  have hI := fresh_size h₁
  have S₂ := S₁.born (h' := h₁.push { cls := .type "range_iterator", data := .fields #[rawInt 1, rawInt (Builtin.Range.rangeSize 1 7 1), rawInt 1] }) (keeps_push _ _) hI (Heap.get?_push_size _ rfl)
  have O₂ := O.born (os := os) S₁ hI
  dsimp only
  generalize hH : h₁.push { cls := .type "range_iterator", data := .fields #[rawInt 1, rawInt (Builtin.Range.rangeSize 1 7 1), rawInt 1] } = H₂ at S₂ ⊢
  generalize h₁.objs.size = it at S₂ O₂ ⊢
  refine wpAny_newObj_type (wpAny_newFunctionEnv hcell (by intro y hy; simp at hy) (fun h₃ hns₃ hsb₃ => ?_) hkind)
  have hD := fresh_size H₂
  have S₃ := S₂.born (h' := H₂.push { cls := .type "list", data := .seq ([] : List Value).toArray }) (o := lO [] 0) (keeps_push _ _) hD (Heap.get?_push_size _ rfl)
  have O₃ := O₂.born (os := (it, _) :: os) S₂ hD
  generalize hH3 : H₂.push { cls := .type "list", data := .seq ([] : List Value).toArray } = H₃ at hns₃ hsb₃ S₃ ⊢
  dsimp only at hns₃ hsb₃ ⊢
  have hC := fresh_size H₃
  obtain ⟨oC, esC, epC, eC, dC⟩ := Ns.dictAt hns₃
  have S₄ := S₃.born (h' := h₃) (o := oC) (fun b o e => hsb₃.extBut b o (fun z => by rw [z, hC] at e; cases e) (Heap.get?_push_of_some _ e)) hC eC
  have O₄ := O₃.born (os := (H₂.objs.size, lO [] 0) :: (it, _) :: os) S₃ hC
  generalize H₂.objs.size = D at S₃ O₃ S₄ O₄ ⊢
  generalize H₃.objs.size = C at hns₃ eC S₄ O₄ ⊢
  have loop : ∀ (cenv : Env) (R : Result → Shared → Prop) (s' : Shared), cenv.scope = scope → cenv.locals = C → cenv.globals = mainGlobals →
      (∀ s'', CgI X S C D it s 6 s'' → ∀ h', Heap.ExtBut it s''.heap h' → R (.ok .next) { s'' with heap := h' }) →
      CgI X S C D it s 0 s' → codeAny (model prog w) A (.compLoop (.ListComp (.Call (.Name f pf) [.Name x p1] [] cp) [⟨.Name x px, iter, [], 0⟩] scope pos) 0 (.ref it) (.ref D) cenv) R s' := by
    intro cenv R s' hsc hlo hgl hR hI
    have hkx : cenv.kindOf x = some .local := by unfold Env.kindOf; rw [hsc]; exact hx
    have hkf : cenv.kindOf f = some .globalImplicit := by unfold Env.kindOf; rw [hsc]; exact hfx
    refine codeAny_compLoop_list (fun n s' => ∃ i, i + n = 6 ∧ CgI X S C D it s i s') ?_ 6 ⟨0, rfl, hI⟩
    rintro n s₁ ⟨i, hin, c', h₅, tk₅, oC₅, oI₅, n', σ', mC, rfl, X₅, S₅, O₅, hn₅, hR₅, e0, e1, s0, s1, sj⟩
    by_cases hi : i < 6
    · refine wpAny_pyNext_range_item hR₅ (by omega) fun h₆ hR₆ hs₆ => ?_
      have S₆ := S₅.write (i := 2) O₅ rfl hs₆ hR₆
      have hn₆ : h₆.Ns C mC := hn₅.at fun o e => (hs₆.2 _ (O₅.ne (i := 0) (j := 2) rfl rfl (by decide))).trans e
      refine wpAny_assign_Name (wpAny_storeName_local hkx (by rw [hlo]; exact hn₆) (fun h₇ hn₇ hs₇ => ?_) (by rw [hsc, hkind]; rfl))
      rw [hlo] at hn₇ hs₇
      obtain ⟨oC₇, _, _, eC₇, _⟩ := Ns.dictAt hn₇
      have S₇ := S₆.write (i := 0) O₅ rfl hs₇ eC₇
      obtain ⟨mg, mb, hg, _, hg1, _⟩ := X₅.names
      refine Call_Name rfl (Calls.Name_function_global (by rw [hsc]; exact hkind) hkf (Calls.loadGlobal_global (by rw [hgl]; exact hg.keeps S₇.ok.stays) (hg1 f _ hf) (callWith_K (S₇.K X₅) (keep_route w) (r_args1 (wpAny_Name (wpAny_loadName_local (by rw [hsc]; exact hkind) hkx (by rw [hlo]; exact hn₇) (if_pos rfl) ⟨S₇.K X₅, ?_⟩) hdx)))) hdf)
      have en : (i : Int) + 1 = ((2 + i : Nat) : Int) - 1 := by omega
      rw [en]
      refine call_grows (s := { s with heap := h₇, toks := tk₅ + 1 + 1 }) (t := tk₅) X₅ (route_grows X₅ (by omega)) (a.mono (by decide) (by decide)) S₇ fun xn dxn h₈ tk₈ X₈ S₈ hxn hdxn => ?_
      have O₈ : Owns base (c'.grow xn dxn tk₅) _ h₀ (C :: D :: it :: os.map Prod.fst) := O₅.grow (h := h₇) S₇.there hxn hdxn
      refine append_list (s := { s with heap := h₈, toks := tk₈ }) (S₈.get (.tail _ (.head _))) (by rw [List.length_map, List.length_range]; omega) fun h₉ n₉ hs₉ e₉ => ?_
      have el : ((List.range i).map fun k => Value.ref (c'.na (k + 2))) ++ [.ref xn] = (List.range (i + 1)).map fun k => Value.ref ((c'.grow xn dxn tk₅).na (k + 2)) := by
        rw [List.range_succ, List.map_append]
        have e1 : (List.range i).map (fun k => Value.ref ((c'.grow xn dxn tk₅).na (k + 2))) = (List.range i).map fun k => Value.ref (c'.na (k + 2)) := by
          apply List.map_congr_left
          intro k hk
          have := List.mem_range.mp hk
          rw [grow_na (by omega)]
        have e2 : (c'.grow xn dxn tk₅).na (i + 2) = xn := if_pos (Nat.add_comm i 2)
        rw [e1, List.map_singleton, e2]
      rw [el] at e₉
      have S₉ := S₈.write (i := 1) O₈ rfl hs₉ e₉
      refine ⟨n - 1, by omega, i + 1, by omega, c'.grow xn dxn tk₅, h₉, tk₈, oC₇, _, n₉, σ'.fresh (2 + i), _, rfl, X₈, S₉, O₈, hn₇.at fun o e => (by rw [eC₇] at e; cases e; exact S₉.get (a := C) (.head _)), ?_, (grow_na (by omega)).trans e0, (grow_na (by omega)).trans e1, ?_, ?_, fun j h2 hj => ?_⟩
      · have := S₉.get (a := it) (.tail _ (.tail _ (.head _)))
        have r1 : ((i + 1 : Nat) : Int) + 1 = (i : Int) + 1 + 1 := by omega
        have r2 : (6 : Int) - ((i + 1 : Nat) : Int) = 6 - (i : Int) - 1 := by omega
        rw [r1, r2]
        exact this
      · unfold NS.fresh; rw [if_neg (by omega)]; exact s0
      · unfold NS.fresh; rw [if_neg (by omega)]; exact s1
      · unfold NS.fresh
        by_cases q : j = 2 + i
        · rw [if_pos q]
        · rw [if_neg q]; exact sj j h2 (by omega)
    · have : i = 6 := by omega
      subst this
      exact wpAny_pyNext_range_end a.handled hR₅ (by omega) fun h₆ hs₆ => hR _ ⟨c', h₅, tk₅, oC₅, oI₅, n', σ', mC, rfl, X₅, S₅, O₅, hn₅, hR₅, e0, e1, s0, s1, sj⟩ h₆ hs₆
  have hri : IsRangeIter h₃ it (((0 : Nat) : Int) + 1) (6 - ((0 : Nat) : Int)) 1 := S₄.get (a := it) (.tail _ (.tail _ (.head _)))
  have hI0 : CgI X S C D it s 0 { s with heap := h₃, toks := tk₁ } := ⟨c, h₃, tk₁, oC, _, 0, σ, _, rfl, X, S₄, O₄, hns₃, hri, rfl, rfl, rfl, rfl, fun j h2 hj => absurd hj (by omega)⟩
  have fin : ∀ s'', CgI X S C D it s 6 s'' → ∀ h', Heap.ExtBut it s''.heap h' → wpAny (model prog w) A (assign (.Name y py) (envOf qual sc L fa cd) (.ref D)) (fun _ s'' => ∃ m, s''.heap.Ns C m ∧ ∀ h', Heap.SameBut C s''.heap h' → Q .next { s'' with heap := h' }) E { s'' with heap := h' } := by
    rintro s'' ⟨c', h₅, tk₅, oC₅, oI₅, n', σ', mC, rfl, X₅, S₅, O₅, hn₅, hR₅, e0, e1, s0, s1, sj⟩ h₆ hs₆
    have hCi : C ≠ it := O₅.ne (i := 0) (j := 2) rfl rfl (by decide)
    have S₆ := S₅.putE (os' := (C, oC₅) :: (D, lO ((List.range 6).map fun k => .ref (c'.na (k + 2))) n') :: os) (O₅.all it (.tail _ (.tail _ (.head _)))) hs₆ fun p hp => .inl (by
      rcases List.mem_cons.mp hp with rfl | hp
      · exact ⟨.head _, hCi⟩
      · rcases List.mem_cons.mp hp with rfl | hp
        · exact ⟨.tail _ (.head _), O₅.ne (i := 1) (j := 2) rfl rfl (by decide)⟩
        · exact ⟨.tail _ (.tail _ (.tail _ hp)), O₅.tail.tail.head_ne _ (List.mem_map.mpr ⟨p, hp, rfl⟩)⟩)
    have hn₆ : h₆.Ns C mC := hn₅.at fun o e => hs₆ _ _ hCi e
    refine wpAny_assign_Name (r_store (s := { s with heap := h₆, toks := tk₅ }) S₆ (fun h₇ S₇ => ?_) hsk hy)
    refine ⟨mC, hn₆.at fun o e => (by have := S₆.get (a := C) (.head _); rw [this] at e; cases e; exact S₇.get (a := C) (.head _)), fun h₈ hs₈ => ?_⟩
    have S₈ := S₇.put (os' := (D, lO ((List.range 6).map fun k => .ref (c'.na (k + 2))) n') :: os) (O₅.all C (.head _)) hs₈ fun p hp => .inl (by
      refine ⟨.tail _ hp, ?_⟩
      rcases List.mem_cons.mp hp with rfl | hp
      · exact O₅.head_ne D (.head _)
      · exact O₅.head_ne _ (.tail _ (.tail _ (List.mem_map.mpr ⟨p, hp, rfl⟩))))
    refine hQ c' h₈ _ σ' D n' X₅ S₈ ⟨fun b hb => O₅.all b ?_, List.nodup_cons.mpr ⟨fun z => O₅.tail.head_ne D (.tail _ z) rfl, O₅.tail.tail.tail.nodup⟩⟩ e0 e1 s0 s1 fun j h2 hj => sj j h2 hj
    rcases List.mem_cons.mp hb with rfl | hb
    · exact .tail _ (.head _)
    · exact .tail _ (.tail _ (.tail _ hb))
  exact codeAny_compStart_list (loop _ _ _ rfl rfl rfl fin hI0) (wpAny_pyIter_rangeiter hri (loop _ _ _ rfl rfl rfl fin hI0))
end
end Mine

namespace Mine
open PySem PySem.W PySem.Calls PyProof.Rows PySem.SeqAt
example (w : World) : hd.heap_39 w.params = hd.heap_39 w.params ∧ PySem.Challenge.rw_bi0011_01 = PySem.Challenge.rw_bi0011_01 := by
  k_fill
  exact ⟨rfl, rfl⟩
local macro_rules | `(tactic| k_is) => `(tactic| (delta KF; k_is))

theorem pick_nodup {as : List Addr} (hn : as.Nodup) : ∀ (is : List Nat) (bs : List Addr), is.map (as[·]?) = bs.map some → is.Nodup → bs.Nodup
  | [], bs, h, _ => by
    cases bs with
    | nil => exact List.nodup_nil
    | cons b bs => cases h
  | i :: is, [], h, _ => by cases h
  | i :: is, b :: bs, h, hi => by
    rw [List.map_cons, List.map_cons] at h
    injection h with h1 h2
    have hi' := List.nodup_cons.mp hi
    refine List.nodup_cons.mpr ⟨fun hm => ?_, pick_nodup hn is bs h2 hi'.2⟩
    have : some b ∈ is.map (as[·]?) := by rw [h2]; exact List.mem_map.mpr ⟨b, hm, rfl⟩
    obtain ⟨j, hj, e⟩ := List.mem_map.mp this
    have : i = j := (List.getElem?_inj (by obtain ⟨hl, _⟩ := List.getElem?_eq_some_iff.mp h1; exact hl) hn).mp (h1.trans e.symm)
    exact hi'.1 (this ▸ hj)
theorem Owns.pick {base h₀ : Heap} {nn : Nat} {c : Cfg nn} {outer : List Env} {as bs : List Addr} (O : Owns base c outer h₀ as) (is : List Nat) (hi : is.Nodup) (h : is.map (as[·]?) = bs.map some) : Owns base c outer h₀ bs :=
  ⟨fun b hb => by
    have : some b ∈ is.map (as[·]?) := by rw [h]; exact List.mem_map.mpr ⟨b, hb, rfl⟩
    obtain ⟨j, _, e⟩ := List.mem_map.mp this
    exact O.all b (List.mem_of_getElem? e), pick_nodup O.nodup is bs h hi⟩

theorem call_fn (w : World) : findIn (KF w) (.ref 193) "__call__" = some (some (.ref 127)) := by k_is
theorem call_isFn (w : World) : isFn (KF w) (.ref 127) = true := by k_is
theorem call_fnIn (w : World) : fnIn (KF w) 127 = true := by k_is

section
variable {prog : Program} {w : World} {base h₀ : Heap} {outer : List Env} {m : Str → Option Value} {σ : NS} {A : Around} {E : Value → Shared → Prop} {s : Shared}
  {qual : Str} {scope : Scope} {L f : Addr} {cd : Value} {body : List Stmt}

theorem tup2g {x y : Str} {e1 e2 : Expr} {p1 p2 tp tp2 pos : Pos} {k k2 : Nat} {Q : Flow → Shared → Prop} (hh : A.handled = none)
    (h : wpAny (model prog w) A (eval e1 (envOf qual scope L f cd)) (fun v1 s₁ => wpAny (model prog w) A (eval e2 (envOf qual scope L f cd)) (fun v2 s₂ => ∃ (nn : Nat) (c : Cfg nn) (m : Str → Option Value) (σ : NS) (os : List (Addr × Obj)), St base c outer h₀ (envOf qual scope L f cd) m σ os s₂.heap ∧
      ∀ h' tk, St base c outer h₀ (envOf qual scope L f cd) (fun z => if z = x then some v1 else if z = y then some v2 else m z) σ os h' → Q .next { s₂ with heap := h', toks := tk }) E s₁) E s)
    (hs : swapsWithSole [.Tuple [.Name x p1, .Name y p2] k tp] (.Tuple [e1, e2] k2 tp2) pos.line (envOf qual scope L f cd) = pure false := by rfl)
    (hw : swappedStores [.Tuple [.Name x p1, .Name y p2] k tp] (.Tuple [e1, e2] k2 tp2) (envOf qual scope L f cd) = pure (some [x, y]) := by rfl)
    (he : starEach [e1, e2] (envOf qual scope L f cd) = (false, eval e1 (envOf qual scope L f cd)) :: starEach [e2] (envOf qual scope L f cd) := by rfl)
    (he2 : starEach [e2] (envOf qual scope L f cd) = (false, eval e2 (envOf qual scope L f cd)) :: starEach [] (envOf qual scope L f cd) := by rfl)
    (hk : scope.kind = .function := by rfl) (hx : (envOf qual scope L f cd).kindOf x = some .local := by rfl) (hy : (envOf qual scope L f cd).kindOf y = some .local := by rfl) :
    wpAny (model prog w) A (exec (.Assign [.Tuple [.Name x p1, .Name y p2] k tp] (.Tuple [e1, e2] k2 tp2) pos) (envOf qual scope L f cd)) Q E s := by
  refine Assign_Tuple_swapped (names := [x, y]) (wpAny_Tuple (wpAny_items_cons (wpAny_mono h (fun v1 s₁ h₁ => wpAny_items_cons (wpAny_mono h₁ (fun v2 s₂ h₂ => wpAny_items_nil ⟨(show 2 ≤ sizeLine by decide), ?_⟩) fun _ _ e => e) he2) fun _ _ e => e) he)) hs hw
  obtain ⟨nn, c, m, σ, os, S, hQ⟩ := h₂
  refine unpackItems_tuple (items := #[v1, v2]) hh ⟨_, Heap.get?_push_size _ rfl, rfl, _, rfl⟩ fun h' he => ?_
  have S₁ := S.keeps (h' := h') fun b o e => he b o (by rw [Heap.size_push]; exact Nat.ne_of_lt (Nat.lt_succ_of_lt (Heap.lt_size e))) (Heap.get?_push_of_some _ e)
  show wpAny _ _ (assignInOrder [bindName _ y, bindName _ x] [v2, v1]) _ _ _
  refine assignInOrder_cons (wpAny_bindName (r_store (s := { s₂ with heap := h' }) S₁ (fun h₂ S₂ => ?_) hk hy))
  refine assignInOrder_cons (wpAny_bindName (r_store (s := { s₂ with heap := h₂, toks := s₂.toks + 1 }) S₂ (fun h₃ S₃ => ?_) hk hx))
  exact assignInOrder_nil (hQ _ _ S₃)

theorem law_mid {c : Cfg 0} {nu : Addr} {vals : List Value} {nv : Nat} {ns : List Int} {Q : Flow → Shared → Prop} (hb : LawIs w qual body scope) (X : Cx w base c) (a : Amb A (envOf qual scope L f cd :: outer) 30 300)
    (S : St base c outer h₀ (envOf qual scope L f cd) m σ [(nu, lO vals nv)] s.heap) (O : Owns base c (envOf qual scope L f cd :: outer) h₀ [nu]) (hkd : m "kind" = some (.ref c.ka)) (hnu : m "numbers" = some (.ref nu)) (hab : AllBare s.gens)
    (hI : IntsAre vals ns) (hle : vals.length ≤ 100) (room : ∀ s' : Shared, base.StaysIn s'.heap → PylongRoom (model prog w) A s')
    (hQ : ∀ (c' : Cfg 8) h' tk gens', Cx w base c' → AllBare gens' → Turn c' (frs outer) h₀ h' → Q (.ret (.bool true)) { s with heap := h', toks := tk, gens := gens' }) :
    wpAny (model prog w) A (execs (body.drop 2) (envOf qual scope L f cd)) Q E s := by
  have hb' := hb
  obtain ⟨rfl, rfl, rfl⟩ := law_eq (by k_is) hb
  clear hb
  refine wpAny_execs_cons (tup2g (base := base) (h₀ := h₀) (outer := outer) a.handled (wpAny_List (wpAny_items_cons (MethodCall_ (r_name S hkd (r_kind X S (m_create w).gt (m_create w).fn (m_create w).ty (callWith_K0 (S.K X) (m_create w).kp ?_)))))))
  refine call_grows (t := 0) X (create_grows X (list_grows X (by decide))) (a.mono (by decide) (by decide)) S fun x0 dx0 h₁ tk₁ X₁ S₁ hx0 hdx0 => ?_
  have O₁ := O.grow (t := 0) S.there hx0 hdx0
  obtain ⟨od, I, _, _⟩ := instAt_of S₁.nodes.kind S₁.nodes.kdict.ns
  refine wpAny_items_cons (Call_Name rfl (r_name (s := { s with heap := h₁, toks := tk₁ }) S₁ hkd (kco_callWith0 (S₁.K X₁) I rfl (call_fn w) (wpAny_call (kco_code (a := ⟨[], []⟩) (s := { s with heap := h₁, toks := tk₁ }) (S₁.K X₁) I rfl (call_fn w) (call_isFn w) (call_fnIn w) ?_)))))
  refine call_kind (t := 0) X₁ (list_grows X₁ (by decide)) prog A _ { s with heap := h₁, toks := tk₁ } _ (a.mono (by decide) (by decide)) S₁.ok S₁.nodes fun x1 dx1 h₂ tk₂ hx1 hdx1 T₂ N₂ => ?_
  obtain ⟨X₂, S₂⟩ := grown X₁ S₁ hdx1 T₂ N₂
  have O₂ := O₁.grow (t := 0) S₁.there hx1 hdx1
  refine wpAny_items_nil ⟨(show 2 ≤ sizeLine by decide), ?_⟩
  have hqa := fresh_size h₂
  have S₃ := S₂.born (h' := h₂.push { cls := .type "list", data := .seq [Value.ref x0, .ref x1].toArray }) (o := lO [.ref x0, .ref x1] 0) (keeps_push _ _) hqa (Heap.get?_push_size _ rfl)
  have O₃ := O₂.born (os := [(nu, lO vals nv)]) S₂ hqa
  dsimp only
  show wpAny _ _ _ _ _ { s with heap := h₂.push { cls := .type "list", data := .seq [Value.ref x0, .ref x1].toArray }, toks := tk₂ }
  generalize h₂.push { cls := .type "list", data := .seq [Value.ref x0, .ref x1].toArray } = H₃ at S₃ ⊢
  generalize h₂.objs.size = qa at S₃ O₃ ⊢
  refine wpAny_List (wpAny_items_cons (wpAny_List (wpAny_items_nil ⟨by decide, wpAny_items_cons (wpAny_List (wpAny_items_nil ⟨by decide, wpAny_items_nil ⟨(show 2 ≤ sizeLine by decide), ?_⟩⟩))⟩)))
  have hr0 := fresh_size H₃
  have S₄ := S₃.born (h' := H₃.push { cls := .type "list", data := .seq ([] : List Value).toArray }) (o := lO [] 0) (keeps_push _ _) hr0 (Heap.get?_push_size _ rfl)
  have O₄ := O₃.born (os := [(qa, lO [.ref x0, .ref x1] 0), (nu, lO vals nv)]) S₃ hr0
  dsimp only
  generalize H₃.push { cls := .type "list", data := .seq ([] : List Value).toArray } = H₄ at S₄ ⊢
  generalize H₃.objs.size = r0 at S₄ O₄ ⊢
  have hr1 := fresh_size H₄
  have S₅ := S₄.born (h' := H₄.push { cls := .type "list", data := .seq ([] : List Value).toArray }) (o := lO [] 0) (keeps_push _ _) hr1 (Heap.get?_push_size _ rfl)
  have O₅ := O₄.born (os := [(r0, lO [] 0), (qa, lO [.ref x0, .ref x1] 0), (nu, lO vals nv)]) S₄ hr1
  generalize H₄.push { cls := .type "list", data := .seq ([] : List Value).toArray } = H₅ at S₅ ⊢
  generalize H₄.objs.size = r1 at S₅ O₅ ⊢
  have hra := fresh_size H₅
  have S₆ := S₅.born (h' := H₅.push { cls := .type "list", data := .seq [Value.ref r0, .ref r1].toArray }) (o := lO [.ref r0, .ref r1] 0) (keeps_push _ _) hra (Heap.get?_push_size _ rfl)
  have O₆ := O₅.born (os := [(r1, lO [] 0), (r0, lO [] 0), (qa, lO [.ref x0, .ref x1] 0), (nu, lO vals nv)]) S₅ hra
  generalize H₅.push { cls := .type "list", data := .seq [Value.ref r0, .ref r1].toArray } = H₆ at S₆ ⊢
  generalize H₅.objs.size = ra at S₆ O₆ ⊢
  refine ⟨2, _, m, _, _, S₆, fun h₇ tk₇ S₇ => ?_⟩
  obtain ⟨m₇, S₇, q1, q2, k₇⟩ := S₇.two (by decide)
  refine wpAny_execs_cons (items_assign (s := { s with heap := h₇, toks := tk₇ }) X₂ (a.mono (by decide) (by decide)) S₇ O₆ (by simp [globalNames]) ?_ ?_)
  · refine Call_Name rfl (r_builtin (s := { s with heap := h₇, toks := tk₇ }) X₂ S₇ (v := .type "range") (by simp [builtinNames]) (PyProof.Rows.callWith_type1 (r_args2 (wpAny_Constant_int (wpAny_Constant_int (call_range_2 ⟨_, _, _, _, _, _, rfl, rfl, keeps_push _ _, Heap.get?_push_size _ rfl⟩))))))
  · intro c' h₈ tk₈ σ' ia n' X' S₈ O₈ e0 e1 s0 s1 sj
    obtain ⟨m₈, S₈, q3, k₈⟩ := S₈.one
    have eq : qvs c' = [.ref x0, .ref x1] := by unfold qvs; rw [e0, e1]; rfl
    have l0 : σ' 0 = ⟨some 0, some 0⟩ := s0.trans rfl
    have l1 : σ' 1 = ⟨some 1, some 1⟩ := s1.trans rfl
    have H : Rep σ' (fun _ => []) := by
      refine ⟨fun _ _ => List.nodup_nil, fun _ h => (nomatch h), fun _ _ _ h => (nomatch h), fun q hq => ?_, fun j h2 hj _ _ => ?_⟩
      · have : q = 0 ∨ q = 1 := by omega
        rcases this with rfl | rfl
        · exact ⟨⟨by rw [l0], by rw [l0]⟩, trivial⟩
        · exact ⟨⟨by rw [l1], by rw [l1]⟩, trivial⟩
      · rw [sj j h2 hj]
        exact ⟨rfl, .inl rfl⟩
    refine law_rest (s := { s with heap := h₈, toks := tk₈ }) (r := fun _ => []) (ro := fun k => if k = 0 then r0 else r1) (n := fun k => if k = 4 then n' else if k = 5 then nv else 0) (ad := ⟨qa, ra, ia, nu, 0, vals⟩) (oR := lO [.ref r0, .ref r1] 0) hb' X' a (S₈.sub fun p hp => ?_) (O₈.pick [3, 2, 1, 4, 0, 5] (by decide) rfl) H hab ?_ ⟨rfl, 0, rfl⟩ hI hle room (fun h' tk gens' hab' T => hQ c' h' tk gens' X' hab' T)
    · simp only [os6, List.mem_cons, List.not_mem_nil, or_false] at hp
      rcases hp with rfl | rfl | rfl | rfl | rfl | rfl
      · exact .tail _ (.tail _ (.tail _ (.head _)))
      · exact .tail _ (.tail _ (.head _))
      · exact .tail _ (.head _)
      · rw [eq]; exact .tail _ (.tail _ (.tail _ (.tail _ (.head _))))
      · exact .head _
      · exact .tail _ (.tail _ (.tail _ (.tail _ (.tail _ (.head _)))))
    · exact ⟨(k₈ _ (by decide)).trans ((k₇ _ (by decide)).trans hnu), (k₈ _ (by decide)).trans q1, (k₈ _ (by decide)).trans q2, q3⟩
end
end Mine

namespace Mine
open PySem PySem.W PySem.Calls PyProof.Rows PySem.SeqAt
example (w : World) : hd.heap_39 w.params = hd.heap_39 w.params ∧ PySem.Challenge.rw_bi0011_01 = PySem.Challenge.rw_bi0011_01 := by
  k_fill
  exact ⟨rfl, rfl⟩
local macro_rules | `(tactic| k_is) => `(tactic| (delta KF; k_is))
local macro_rules | `(tactic| walk_at "m enter") => `(tactic| (
  (case ho => k_is)
  (case hcd => k_is)
  (case hbind => exact BindsTo.of_eq rfl)
  (case hloc => exact locs rfl)
  (case hcell => decide)
  (case hco => rfl)
  (case hgen => rfl)
  (case hk => rfl)))

def cfg0 (x dx : Addr) : Cfg 0 := ⟨fun _ => 0, fun _ => 0, fun _ => 0, x, dx⟩
theorem first_st {base h : Heap} {env : Env} {m : Str → Option Value} {x dx nu : Addr} {vals : List Value} (hf : env.frame = some env.locals) (hkf : env.scope.kind ≠ .module) (kb : Keeps base h) (hn : h.Ns env.locals m) (hL : base.get? env.locals = none)
    (eX : h.get? x = some (instObj 193 dx)) (eD : h.get? dx = some emptyDict) (hdL : dx ≠ env.locals) (eN : h.get? nu = some (lO vals 0)) (hNL : nu ≠ env.locals) :
    St base (cfg0 x dx) [] base env m (fun _ => ⟨none, none⟩) [(nu, lO vals 0)] h := by
  have hfr : frs [env] = [env.locals] := by unfold frs; rw [List.filterMap_cons, hf]; rfl
  obtain ⟨o4, es4, ep4, e4, d4⟩ := Ns.dictAt hn
  have N : Nodes (cfg0 x dx) (fun _ => ⟨none, none⟩) h := ⟨fun j hj => absurd hj (Nat.not_lt_zero _), fun j hj => absurd hj (Nat.not_lt_zero _), eX, ns1_empty eD, fun j hj => absurd hj (Nat.not_lt_zero _)⟩
  refine ⟨.of_keeps kb, hn, ⟨kb, ⟨hkf, ⟨_, o4, hf, hL, e4, fun vs q => by rw [d4] at q; cases q⟩, trivial⟩, fun b hb => ?_, fun b hb => ?_⟩, N, hL, hf, fun p hp => ?_⟩
  · rw [hfr] at hb
    rw [List.mem_singleton.mp hb]
    exact ⟨o4, es4, ep4, e4, d4⟩
  · rw [hfr] at hb
    rw [List.mem_singleton.mp hb]
    exact ⟨fun z => hdL z.symm, fun j hj => absurd hj (Nat.not_lt_zero _)⟩
  · rcases List.mem_singleton.mp hp with rfl
    refine ⟨eN, fun hm => ?_, fun ⟨j, hj, _⟩ => absurd hj (Nat.not_lt_zero _)⟩
    rw [hfr] at hm
    exact hNL (List.mem_singleton.mp hm)
theorem first_owns {base : Heap} {env : Env} {x dx nu : Addr} (hf : env.frame = some env.locals) (hnb : base.get? nu = none) (hNL : nu ≠ env.locals) (h1 : nu ≠ dx) (h2 : nu ≠ x) : Owns base (cfg0 x dx) [env] base [nu] := by
  have hfr : frs [env] = [env.locals] := by unfold frs; rw [List.filterMap_cons, hf]; rfl
  refine ⟨fun b hb => ?_, by simp⟩
  rw [List.mem_singleton.mp hb]
  exact ⟨hnb, hnb, fun hm => by rw [hfr] at hm; exact hNL (List.mem_singleton.mp hm), h1, h2, fun j hj => absurd hj (Nat.not_lt_zero _), fun j hj => absurd hj (Nat.not_lt_zero _)⟩

section
variable {prog : Program} {w : World} {base : Heap} {m : Str → Option Value} {A : Around} {E : Value → Shared → Prop} {s : Shared}
  {qual : Str} {scope : Scope} {L f : Addr} {cd : Value} {body : List Stmt}

theorem enterA {R : Result → Shared → Prop} {name qual : Str} {params : Arguments} {body : List Stmt} {scope : Scope} {dV kV doc pm cdv ct oc : Value} {an od : Option Addr} {osl : Array (Option Value)} {f : Addr} {args : Args} (binds : List (Str × Value))
    (hroom : A.depth < recursionLimit) (K : (KF w).In s.heap) (hlim : s.heap.NoLimit)
    (ho : (KF w).lookup f = some ⟨oc, od, .func (fnOf name qual params body scope dV kV doc pm an cdv ct), osl⟩) (hcd : codeIn (KF w) cdv qual = true)
    (hbind : BindsTo s (fnOf name qual params body scope dV kV doc pm an cdv ct) args binds) (hloc : ∀ y ∈ binds, scope.names.lookup y.1 = some .local)
    (hcell : ∀ x ∈ scope.names, x.2 ≠ .cell) (hco : scope.isCoroutine = false) (hgen : scope.isGenerator = false) (hk : scope.kind = .function)
    (h : ∀ L h₁ tk, Keeps s.heap h₁ → wpAny (model prog w) (A.deeper (envOf qual scope L f cdv)) (execs body (envOf qual scope L f cdv)) (Fin1 R) (fun _ _ => False) { s with heap := h₁, toks := tk }) : codeAny (model prog w) A (.call (.ref f) args) R s :=
  codeAny_call_def (fd := fnOf name qual params body scope dV kV doc pm an cdv ct) (body := body) (binds := binds) hroom (K _ _ ho) rfl hlim (codeRec_of K hcd) rfl hbind hcell hloc
    (fun h₁ _ hk₁ => wpAny_mono (h s.heap.objs.size h₁ _ hk₁) (fun _ _ q => q) fun _ _ q => q.elim) hco hgen hk

theorem law_open {sl : Addr} {vs : List Value} {ns : List Int} {Q : Flow → Shared → Prop} (hb : LawIs w qual body scope) (K : (KF w).In base)
    (names : ∃ mg mb, base.Ns mainGlobals mg ∧ base.Ns builtinsNs mb ∧ (∀ x v, (x, v) ∈ globalNames → mg x = some v) ∧ (∀ x v, (x, v) ∈ builtinNames → mg x = none ∧ mb x = some v)) (lim : base.NoLimit)
    (a : Amb A [envOf qual scope L f cd] 30 300) (hk : Keeps base s.heap) (hn : s.heap.Ns L m) (hL : base.get? L = none) (hsc : m "script" = some (.ref sl)) (hl : base.IsList sl vs.toArray) (hI : IntsAre vs ns) (hle : vs.length ≤ 63) (hg : s.gens = #[])
    (room : ∀ s' : Shared, base.StaysIn s'.heap → PylongRoom (model prog w) A s')
    (hQ : ∀ h' tk gens', AllBare gens' → Keeps base h' → Q (.ret (.bool true)) { s with heap := h', toks := tk, gens := gens' }) :
    wpAny (model prog w) A (execs body (envOf qual scope L f cd)) Q E s := by
  have hb' := hb
  obtain ⟨rfl, rfl, rfl⟩ := law_eq (by k_is) hb
  clear hb
  obtain ⟨h₀, g, d, tk, os⟩ := s
  have hg' : g = #[] := hg
  subst hg'
  have hl₀ : h₀.IsList sl vs.toArray := let ⟨o, e, r⟩ := hl; ⟨o, hk _ _ e, r⟩
  refine wpAny_execs_cons (wpAny_Assign_Name (wpAny_Subscript_list_slice (wpAny_Name (wpAny_loadName_local rfl rfl hn hsc ?_))))
  rw [evalPart_none]
  refine wpAny_pure ?_
  show wpAny _ _ (eval _ _) _ _ _
  refine wpAny_Constant_int ⟨sl, vs.toArray, none, some 40, rfl, hl₀, by rw [sizeLine_eq, List.size_toArray]; omega, .none, .int _ _, ?_⟩
  have hI₁ := hI.pick none (some 40) none
  have hle₁ : (slicePick vs.toArray none (some 40) none).toList.length ≤ 100 := by
    have t0 := slicePick_size_le vs.toArray none (some 40) none
    have t1 : (slicePick vs.toArray none (some 40) none).toList.length = (slicePick vs.toArray none (some 40) none).size := Array.length_toList
    have t2 : vs.toArray.size = vs.length := List.size_toArray ..
    omega
  have kH : Keeps h₀ ((h₀.push { cls := .type "slice", data := .fields #[.none, .int 40 tk, .none] }).push { cls := .type "list", data := .seq (slicePick vs.toArray none (some 40) none) }) := (keeps_push _ _).trans (keeps_push _ _)
  have eN : ((h₀.push { cls := .type "slice", data := .fields #[.none, .int 40 tk, .none] }).push { cls := .type "list", data := .seq (slicePick vs.toArray none (some 40) none) }).get? (h₀.objs.size + 1) = some (lO (slicePick vs.toArray none (some 40) none).toList 0) := by
    have := Heap.get?_push_size (h₀.push { cls := .type "slice", data := .fields #[.none, .int 40 tk, .none] }) (o := lO (slicePick vs.toArray none (some 40) none).toList 0) rfl
    rw [Heap.size_push] at this
    have e : lO (slicePick vs.toArray none (some 40) none).toList 0 = { cls := .type "list", data := .seq (slicePick vs.toArray none (some 40) none) } := by unfold lO; rw [Array.toArray_toList]
    rw [e] at this ⊢
    exact this
  have fN : h₀.get? (h₀.objs.size + 1) = none := Heap.get?_none_of_le (Nat.le_succ _)
  dsimp only
  generalize (h₀.push { cls := .type "slice", data := .fields #[.none, .int 40 tk, .none] }).push { cls := .type "list", data := .seq (slicePick vs.toArray none (some 40) none) } = H₁ at kH eN ⊢
  generalize h₀.objs.size + 1 = nu at eN fN ⊢
  generalize (slicePick vs.toArray none (some 40) none).toList = vals at hI₁ hle₁ eN
  have hn₁ := hn.keeps kH
  have hNL : nu ≠ L := fun z => by
    obtain ⟨o, es, ep, e, _⟩ := hn
    rw [z, e] at fN; cases fN
  refine wpAny_storeName_local rfl hn₁ fun h₂ hn₂ hs₂ => ?_
  have kb₂ : Keeps base h₂ := fun b o e => hs₂.extBut b o (fun (z : b = L) => by rw [z, hL] at e; cases e) (kH _ _ (hk _ _ e))
  have eN₂ := hs₂.extBut _ _ hNL eN
  have K₂ := K.keeps kb₂
  -- kind
  refine wpAny_execs_cons (wpAny_Assign_Name ?_)
  show wpAny _ _ (do callWith _ (← eval (.Name "CircularListType" _) _) [] (backTo _ (starEach [] _)) (backToKw _ (keywordEach _ _))) _ _ _
  obtain ⟨mg, mb, hmg, hmb, h1, h2⟩ := id names
  refine wpAny_bind (Calls.Name_function_global rfl rfl (Calls.loadGlobal_global (hmg.keeps kb₂) (h1 "CircularListType" (.ref 193) (by simp [globalNames])) ?_))
  refine callWith_KW0 K₂ (keep_kind w) rfl ?_
  refine kwAll_cons (wpAny_Constant_str (kwAll_cons (wpAny_Constant_str (kwAll_nil ⟨K₂, ?_⟩))))
  refine wpAny_call (make_core (rest := []) (makes_of K₂ (mk_kind w)) (looks_findIn K₂ (in_kind w)) (fun self => bind_fn K₂ self (fn_kind w)) (.inl rfl) ?_)
  have hdx := fresh_size h₂
  have hxx : h₂.get? (h₂.objs.size + 1) = none := Heap.get?_none_of_le (Nat.le_succ _)
  have kH₃ : Keeps h₂ ((h₂.push emptyDict).push (instObj 193 h₂.objs.size)) := (keeps_push _ _).trans (keeps_push _ _)
  have eD : ((h₂.push emptyDict).push (instObj 193 h₂.objs.size)).get? h₂.objs.size = some emptyDict := Heap.get?_push_of_some _ (Heap.get?_push_size _ rfl)
  have eX : ((h₂.push emptyDict).push (instObj 193 h₂.objs.size)).get? (h₂.objs.size + 1) = some (instObj 193 h₂.objs.size) := by
    have := Heap.get?_push_size (h₂.push emptyDict) (o := instObj 193 h₂.objs.size) rfl
    rwa [Heap.size_push] at this
  generalize (h₂.push emptyDict).push (instObj 193 h₂.objs.size) = H at kH₃ eD eX ⊢
  generalize h₂.objs.size + 1 = x at hxx eX ⊢
  generalize h₂.objs.size = dx at hdx eD eX ⊢
  have KH : (KF w).In H := K₂.keeps kH₃
  have hd := a.depth
  refine' enterA (s := ⟨H, #[], d, _, os⟩) [("self", .ref x), ("next_attr_name", .str "next_on_list" (tk + 1 + 1)), ("prev_attr_name", .str "prev_on_list" (tk + 1 + 1 + 1))] ?room KH ?lim ?ho ?hcd ?hbind ?hloc ?hcell ?hco ?hgen ?hk ?_
  case room => exact (Amb.under (d := 0) (u := 0) (a.mono (by decide) (by decide))).room
  case lim => exact (lim.keeps kb₂).keeps kH₃
  case ho => k_is
  case hcd => k_is
  case hbind => first | exact BindsTo.of_eq rfl | exact binds_K KH rfl (by k_is) rfl rfl rfl
  case hloc => exact locs rfl
  case hcell => decide
  case hco => rfl
  case hgen => rfl
  case hk => rfl
  intro L' h₃ tk₃ hk₃
  refine wpAny_execs_cons (wpAny_Pass (wpAny_execs_nil (fin_next ⟨rfl, ?_⟩)))
  have hn₃ := (hn₂.keeps kH₃).keeps hk₃
  refine wpAny_storeName_local rfl hn₃ fun h₄ hn₄ hs₄ => ?_
  have hb2 : ∀ {b : Addr}, h₂.get? b = none → base.get? b = none := fun {b} e => by
    cases q : base.get? b with
    | none => rfl
    | some o => rw [kb₂ _ _ q] at e; cases e
  obtain ⟨oL, esL, epL, eL, dL⟩ := Ns.dictAt hn₂
  have hdL : dx ≠ L := fun z => by
    have eL' : h₂.get? L = some oL := eL
    rw [← z, hdx] at eL'; cases eL'
  have hxL : x ≠ L := fun z => by
    have eL' : h₂.get? L = some oL := eL
    rw [← z, hxx] at eL'; cases eL'
  have kb₄ : Keeps base h₄ := fun b o e => hs₄.extBut b o (fun (z : b = L) => by rw [z, hL] at e; cases e) (hk₃ _ _ (kH₃ _ _ (kb₂ _ _ e)))
  have up : ∀ {b : Addr} {o : Obj}, b ≠ L → H.get? b = some o → h₄.get? b = some o := fun {b o} hb e => hs₄.extBut b o hb (hk₃ _ _ e)
  have X : Cx w base (cfg0 x dx) := ⟨K, names, lim, fun i j hi => absurd hi (Nat.not_lt_zero _), fun j hj => absurd hj (Nat.not_lt_zero _), fun j hj => absurd hj (Nat.not_lt_zero _)⟩
  have hnb : base.get? nu = none := by
    cases q : base.get? nu with
    | none => rfl
    | some o => rw [hk _ _ q] at fN; cases fN
  refine law_mid (s := ⟨h₄, #[], d, _, os⟩) hb' X a (first_st rfl (by intro z; cases z) kb₄ hn₄ hL (up hxL eX) (up hdL eD) hdL (up hNL (kH₃ _ _ eN₂)) hNL) (first_owns rfl hnb hNL (fun z => by rw [z, hdx] at eN₂; cases eN₂) (fun z => by rw [z, hxx] at eN₂; cases eN₂)) (if_pos rfl) ?_ AllBare.empty hI₁ hle₁ room fun c' h' tk gens' X' hab T => ?_
  · rw [if_neg (by decide), if_pos rfl]
  · exact hQ h' tk gens' hab fun b o e => T.same b o e (fun hm => nomatch hm) fun ⟨j, hj, z⟩ => by rw [z, X'.fresh j hj] at e; cases e
end
end Mine

namespace Mine
open PySem PySem.W PySem.Calls PyProof.Rows PySem.SeqAt
local macro_rules | `(tactic| k_is) => `(tactic| (delta KF; k_is))
theorem whole : PySem.Challenge.rw_bi0011_01.Holds := by
  refine hd ?_
  k_fill
  intro w s₀ s₁ mg mb G Y fa o pm cd doc dV kV ho hdd hcd hD hmg hg args vals as hpre hlay hrd hwl hlo
  have KX := kIn_of Y
  refine Ground.open G ?_
  intro T B D TE TW
  obtain ⟨_, _, M⟩ := bmod_of_top T
  have TA := at_of_top T
  try (obtain ⟨_, _, he, B0⟩ := based_of_top T rfl hmg ho hdd; have he' : cd = _ := he; subst he'; clear he)
  clear hmg
  wrow_args hpre hlay hrd hwl hlo
  first | refine callC_kw (enter_call ?_) | refine enter_call ?_ | refine callC_kw (enter_callW ?_) | refine enter_callW ?_
  w_top on
  have K0 := below_caller (Top.heap T)
  w_call any ho hdd hcd hD T F
  clear hdd TA
  rename (Fr _ _ _ _) => F
  rename (IntsAre _ _) => hI
  rename (Heap.IsList _ _ _) => hl
  have hb : ∃ q b sc, LawIs w q b sc := ⟨_, _, _, _, _, _, _, _, _, _, _, _, _, _, _, by k_is⟩
  obtain ⟨qual, body, scope, hb⟩ := hb
  have hb' := hb
  obtain ⟨rfl, rfl, rfl⟩ := law_eq (by k_is) hb
  clear hb
  refine law_open hb' KX ?names ?lim ?amb F.keep F.ns ?hL rfl hl hI ?hle hg ?room ?hQ
  case names =>
    refine ⟨mg, mb, T.g, T.b, fun x v h => ?_, fun x v h => ?_⟩
    · simp only [globalNames, List.mem_cons, Prod.mk.injEq, List.not_mem_nil, or_false] at h
      rcases h with ⟨rfl, rfl⟩ | ⟨rfl, rfl⟩ | ⟨rfl, rfl⟩ | ⟨rfl, rfl⟩
      · exact mg_of KX T.g (by k_is)
      · exact mg_of KX T.g (by k_is)
      · exact mg_of KX T.g (by k_is)
      · exact mg_of KX T.g (by k_is)
    · simp only [builtinNames, List.mem_cons, Prod.mk.injEq, List.not_mem_nil, or_false] at h
      rcases h with ⟨rfl, rfl⟩ | ⟨rfl, rfl⟩ | ⟨rfl, rfl⟩ | ⟨rfl, rfl⟩
      · exact ⟨mg_none_of KX T.g (by k_is), (T.builtins _ (by decide)).trans (by boot_by_name)⟩
      · exact ⟨mg_none_of KX T.g (by k_is), (T.builtins _ (by decide)).trans (by boot_by_name)⟩
      · exact ⟨mg_none_of KX T.g (by k_is), (T.builtins _ (by decide)).trans (by boot_by_name)⟩
      · exact ⟨mg_none_of KX T.g (by k_is), (T.builtins _ (by decide)).trans (by boot_by_name)⟩
  case lim => exact T.nolimit
  case amb => exact ⟨rfl, Around.frames_deeper K0.stack, by show 1 + claimMargin + 1 + 30 < recursionLimit; decide, by show 4 + 3 + 300 < cLine; decide⟩
  case hL => exact Heap.get?_none_of_le (Nat.le_refl _)
  case hle => have := hI.length; omega
  case room => exact fun s' hs' => PylongRoom.of (T.nolimit.keeps hs') (by show 1 + claimMargin + 1 + Builtin.pylongFrames < recursionLimit; decide) (SeerAt.of ((Top.seer T (by decide +kernel)).keeps hs') rfl (Around.frames_deeper K0.stack) rfl rfl rfl rfl)
  case hQ =>
    intro h' tk gens' hab hk
    exact ⟨.inl ⟨.bool true, .bool true, [], rfl, raisesW_false (by wrow_none_raised), .bool true, (by wrow_post), unshared_nil⟩, .of_keep hk, rfl, hab⟩
end Mine

theorem PySem.Challenge.cw_bi0011_01_holds : PySem.Challenge.rw_bi0011_01.Holds := by
  exact Mine.whole
