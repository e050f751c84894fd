import PyProof.Rows.All
import Wide.All
import OpenK.AllK
import Wide.FinOn
import PySem.Challenge.RW_wf0052_01
set_option Elab.async false

section
open PySem PySem.W PyProof.Rows PySem.Calls
set_option maxRecDepth 10000
namespace Mine

/-- values without a place of their own -/
inductive PV where
  | none
  | bool (b : Bool)
  | int (i : Int)
  | str (s : Str)
  | tup (xs : List PV)
  | lst (xs : List PV)
  | dct (es : List (Str × PV))
  | inst (v : PV)

/-- what an expression answers: a value, or a list or dict of the frame's own that may still be changed -/
inductive EV where
  | v (p : PV)
  | m (i : Nat)

inductive MO where
  | list (xs : List PV)
  | arr (xs : List PV)
  | dict (es : List (Str × PV))

structure PS where
  loc : List (Option EV)
  own : List (Option MO)

noncomputable abbrev PM (α : Type) := PS → Option (α × PS)

noncomputable def pbind {α β : Type} (m : PM α) (f : α → PM β) : PM β := fun st => match m st with
  | Option.none => Option.none
  | Option.some (a, st') => f a st'
theorem pbind_some {α β : Type} {m : PM α} {f : α → PM β} {st : PS} {r : β × PS} (h : pbind m f st = some r) : ∃ a st1, m st = some (a, st1) ∧ f a st1 = some r := by
  unfold pbind at h
  split at h
  · cases h
  · rename_i a st' e; exact ⟨a, st', e, h⟩

noncomputable abbrev Frz := Addr → Option Obj
noncomputable def Frz.le (Z Z' : Frz) : Prop := ∀ a o, Z a = some o → Z' a = some o
theorem Frz.le.refl (Z : Frz) : Z.le Z := fun _ _ e => e
theorem Frz.le.trans {Z Z' Z'' : Frz} (h : Z.le Z') (k : Z'.le Z'') : Z.le Z'' := fun a o e => k a o (h a o e)
/-- a heap that holds all frozen things -/
noncomputable def Frz.In (Z : Frz) (h : Heap) : Prop := ∀ a o, Z a = some o → h.get? a = some o

section
variable (prog : Program) (w : World)

inductive V (Z : Frz) : Value → PV → Prop
  | none : V Z .none .none
  | bool (b : Bool) : V Z (.bool b) (.bool b)
  | int (i : Int) (t : Tok) : V Z (.int i t) (.int i)
  | str (x : Str) (t : Tok) : V Z (.str x t) (.str x)
  | tup {a vs n xs} (g : Z a = some ⟨.type "tuple", none, .seq vs n, #[]⟩) (l : vs.toList.length = xs.length) (e : ∀ (i : Nat) (v : Value) (x : PV), vs.toList[i]? = some v → xs[i]? = some x → V Z v x) : V Z (.ref a) (.tup xs)
  | lst {a vs n xs} (g : Z a = some ⟨.type "list", none, .seq vs n, #[]⟩) (l : vs.toList.length = xs.length) (e : ∀ (i : Nat) (v : Value) (x : PV), vs.toList[i]? = some v → xs[i]? = some x → V Z v x) : V Z (.ref a) (.lst xs)
  | dct {a kvs es o} (lo : (a == sysModules) = false) (g : Z a = some o) (d : ∀ h : Heap, h.get? a = some o → h.DictOf (strKind prog w) a kvs) (l : kvs.map (·.1) = es.map (·.1)) (e : ∀ (i : Nat) (v : Str × Value) (x : Str × PV), kvs[i]? = some v → es[i]? = some x → V Z v.2 x.2) : V Z (.ref a) (.dct es)
  | inst {a d val t n v} (g : Z a = some ⟨.ref 38, some d, .plain, #[]⟩) (g' : Z d = some (dictOf [⟨PyData.keyHash w.params (Str.ofString "comp_select_list"), .str (Str.ofString "comp_select_list") t, val⟩] n)) (e : V Z val v) : V Z (.ref a) (.inst v)

variable {prog w}
theorem V.mono {Z Z' : Frz} (h : Z.le Z') {v : Value} {p : PV} (x : V prog w Z v p) : V prog w Z' v p := by
  induction x with
  | none => exact .none
  | bool b => exact .bool b
  | int i t => exact .int i t
  | str x t => exact .str x t
  | tup g l _ ih => exact .tup (h _ _ g) l ih
  | lst g l _ ih => exact .lst (h _ _ g) l ih
  | dct lo g d l _ ih => exact .dct lo (h _ _ g) d l ih
  | inst g g' _ ih => exact .inst (h _ _ g) (h _ _ g') ih

variable (prog w)
inductive Vs (Z : Frz) : List Value → List PV → Prop
  | nil : Vs Z [] []
  | cons {v p vs ps} : V prog w Z v p → Vs Z vs ps → Vs Z (v :: vs) (p :: ps)
inductive Ds (Z : Frz) : List (Str × Value) → List (Str × PV) → Prop
  | nil : Ds Z [] []
  | cons {k v p vs ps} : V prog w Z v p → Ds Z vs ps → Ds Z ((k, v) :: vs) ((k, p) :: ps)
variable {prog w}
namespace Vs
variable {Z Z' : Frz} {vs ws : List Value} {ps qs : List PV}
theorem mono (h : Z.le Z') (x : Vs prog w Z vs ps) : Vs prog w Z' vs ps := by
  induction x with
  | nil => exact .nil
  | cons a _ ih => exact .cons (a.mono h) ih
theorem length (x : Vs prog w Z vs ps) : vs.length = ps.length := by
  induction x with
  | nil => rfl
  | cons _ _ ih => simp [ih]
theorem get (x : Vs prog w Z vs ps) : ∀ {i : Nat} {p : PV}, ps[i]? = some p → ∃ v, vs[i]? = some v ∧ V prog w Z v p := by
  induction x with
  | nil => intro i p h; simp at h
  | cons a _ ih =>
    intro i p h
    cases i with
    | zero => simp at h; subst h; exact ⟨_, rfl, a⟩
    | succ i => simp at h; obtain ⟨v, e, r⟩ := ih h; exact ⟨v, by simpa using e, r⟩
theorem all (x : Vs prog w Z vs ps) (i : Nat) (v : Value) (p : PV) (e : vs[i]? = some v) (e' : ps[i]? = some p) : V prog w Z v p := by
  obtain ⟨v', h, r⟩ := x.get e'
  rw [e] at h; cases h; exact r
theorem of (l : vs.length = ps.length) (e : ∀ (i : Nat) (v : Value) (x : PV), vs[i]? = some v → ps[i]? = some x → V prog w Z v x) : Vs prog w Z vs ps := by
  induction vs generalizing ps with
  | nil => cases ps with
    | nil => exact .nil
    | cons => cases l
  | cons v vs ih => cases ps with
    | nil => cases l
    | cons p ps => exact .cons (e 0 v p rfl rfl) (ih (by simpa using l) fun i v x h h' => e (i + 1) v x (by simpa using h) (by simpa using h'))
theorem append (x : Vs prog w Z vs ps) (y : Vs prog w Z ws qs) : Vs prog w Z (vs ++ ws) (ps ++ qs) := by
  induction x with
  | nil => exact y
  | cons a _ ih => exact .cons a ih
theorem take (x : Vs prog w Z vs ps) : ∀ n, Vs prog w Z (vs.take n) (ps.take n) := by
  induction x with
  | nil => intro n; simp; exact .nil
  | cons a _ ih => intro n; cases n with
    | zero => exact .nil
    | succ n => exact .cons a (ih n)
theorem drop (x : Vs prog w Z vs ps) : ∀ n, Vs prog w Z (vs.drop n) (ps.drop n) := by
  induction x with
  | nil => intro n; simp; exact .nil
  | cons a t ih => intro n; cases n with
    | zero => exact .cons a t
    | succ n => exact ih n
theorem set (x : Vs prog w Z vs ps) {v : Value} {p : PV} (h : V prog w Z v p) : ∀ i, Vs prog w Z (vs.set i v) (ps.set i p) := by
  induction x with
  | nil => intro i; simp; exact .nil
  | cons a t ih => intro i; cases i with
    | zero => exact .cons h t
    | succ i => exact .cons a (ih i)
theorem one {v : Value} {p : PV} (h : V prog w Z v p) : Vs prog w Z [v] [p] := .cons h .nil
theorem replicate {v : Value} {p : PV} (h : V prog w Z v p) : ∀ n, Vs prog w Z (List.replicate n v) (List.replicate n p)
  | 0 => .nil
  | n + 1 => .cons h (replicate h n)
end Vs
namespace Ds
variable {Z Z' : Frz} {vs ws : List (Str × Value)} {ps qs : List (Str × PV)}
theorem mono (h : Z.le Z') (x : Ds prog w Z vs ps) : Ds prog w Z' vs ps := by
  induction x with
  | nil => exact .nil
  | cons a _ ih => exact .cons (a.mono h) ih
theorem keys (x : Ds prog w Z vs ps) : vs.map (·.1) = ps.map (·.1) := by
  induction x with
  | nil => rfl
  | cons _ _ ih => simp [ih]
theorem length (x : Ds prog w Z vs ps) : vs.length = ps.length := by
  induction x with
  | nil => rfl
  | cons _ _ ih => simp [ih]
theorem vals (x : Ds prog w Z vs ps) : Vs prog w Z (vs.map (·.2)) (ps.map (·.2)) := by
  induction x with
  | nil => exact .nil
  | cons a _ ih => exact .cons a ih
theorem append (x : Ds prog w Z vs ps) (y : Ds prog w Z ws qs) : Ds prog w Z (vs ++ ws) (ps ++ qs) := by
  induction x with
  | nil => exact y
  | cons a _ ih => exact .cons a ih
theorem of (l : vs.map (·.1) = ps.map (·.1)) (e : ∀ (i : Nat) (v : Str × Value) (x : Str × PV), vs[i]? = some v → ps[i]? = some x → V prog w Z v.2 x.2) : Ds prog w Z vs ps := by
  induction vs generalizing ps with
  | nil => cases ps with
    | nil => exact .nil
    | cons => cases l
  | cons v vs ih => cases ps with
    | nil => cases l
    | cons p ps =>
      obtain ⟨a, b⟩ := v
      obtain ⟨c, d⟩ := p
      have h : a = c ∧ vs.map (·.1) = ps.map (·.1) := by simpa using l
      obtain ⟨rfl, h2⟩ := h
      exact .cons (e 0 _ _ rfl rfl) (ih h2 fun i v x h h' => e (i + 1) v x (by simpa using h) (by simpa using h'))
theorem all (x : Ds prog w Z vs ps) (i : Nat) (v : Str × Value) (p : Str × PV) (e : vs[i]? = some v) (e' : ps[i]? = some p) : V prog w Z v.2 p.2 := by
  have := x.vals.all i v.2 p.2 (by simp [e]) (by simp [e'])
  exact this
end Ds
theorem V.tup_inv {Z : Frz} {v : Value} {xs : List PV} (x : V prog w Z v (.tup xs)) : ∃ a vs n, v = .ref a ∧ Z a = some ⟨.type "tuple", Option.none, .seq vs n, #[]⟩ ∧ Vs prog w Z vs.toList xs := by
  cases x with
  | tup g l e => exact ⟨_, _, _, rfl, g, .of l e⟩
theorem V.lst_inv {Z : Frz} {v : Value} {xs : List PV} (x : V prog w Z v (.lst xs)) : ∃ a vs n, v = .ref a ∧ Z a = some ⟨.type "list", Option.none, .seq vs n, #[]⟩ ∧ Vs prog w Z vs.toList xs := by
  cases x with
  | lst g l e => exact ⟨_, _, _, rfl, g, .of l e⟩
theorem V.dct_inv {Z : Frz} {v : Value} {es : List (Str × PV)} (x : V prog w Z v (.dct es)) : ∃ a kvs o, v = .ref a ∧ (a == sysModules) = false ∧ Z a = some o ∧ (∀ h : Heap, h.get? a = some o → h.DictOf (strKind prog w) a kvs) ∧ Ds prog w Z kvs es := by
  cases x with
  | dct lo g d l e => exact ⟨_, _, _, rfl, lo, g, d, .of l e⟩
theorem V.tup' {Z : Frz} {a : Addr} {vs : Array Value} {n : Nat} {xs : List PV} (g : Z a = some ⟨.type "tuple", Option.none, .seq vs n, #[]⟩) (h : Vs prog w Z vs.toList xs) : V prog w Z (.ref a) (.tup xs) := .tup g h.length h.all
theorem V.lst' {Z : Frz} {a : Addr} {vs : Array Value} {n : Nat} {xs : List PV} (g : Z a = some ⟨.type "list", Option.none, .seq vs n, #[]⟩) (h : Vs prog w Z vs.toList xs) : V prog w Z (.ref a) (.lst xs) := .lst g h.length h.all
theorem V.int_inv {Z : Frz} {v : Value} {i : Int} (x : V prog w Z v (.int i)) : ∃ t, v = .int i t := by cases x; exact ⟨_, rfl⟩
theorem V.str_inv {Z : Frz} {v : Value} {i : Str} (x : V prog w Z v (.str i)) : ∃ t, v = .str i t := by cases x; exact ⟨_, rfl⟩
theorem V.bool_inv {Z : Frz} {v : Value} {i : Bool} (x : V prog w Z v (.bool i)) : v = .bool i := by cases x; rfl
theorem V.none_inv {Z : Frz} {v : Value} (x : V prog w Z v .none) : v = .none := by cases x; rfl
end

structure Wd where
  ρ : List Addr
  Z : Frz
structure Wd.le (W W' : Wd) : Prop where
  pre : W.ρ <+: W'.ρ
  frz : W.Z.le W'.Z
theorem Wd.le.refl (W : Wd) : W.le W := ⟨List.prefix_refl _, .refl _⟩
theorem Wd.le.trans {W W' W'' : Wd} (h : W.le W') (k : W'.le W'') : W.le W'' := ⟨h.1.trans k.1, h.2.trans k.2⟩
theorem pre_get {ρ ρ' : List Addr} (h : ρ <+: ρ') {i : Nat} {a : Addr} (e : ρ[i]? = some a) : ρ'[i]? = some a := by
  obtain ⟨l, rfl⟩ := h
  rw [List.getElem?_append_left (List.getElem?_eq_some_iff.mp e).1]; exact e

noncomputable def EVR (prog : Program) (w : World) (W : Wd) (v : Value) : EV → Prop
  | .v p => V prog w W.Z v p
  | .m i => ∃ a, W.ρ[i]? = some a ∧ v = .ref a
theorem EVR.mono {prog : Program} {w : World} {W W' : Wd} (h : W.le W') {v : Value} : ∀ {e : EV}, EVR prog w W v e → EVR prog w W' v e
  | .v _, x => V.mono h.2 x
  | .m _, ⟨a, e, q⟩ => ⟨a, pre_get h.1 e, q⟩

noncomputable def MObj (prog : Program) (w : World) (Z : Frz) (h : Heap) (a : Addr) : MO → Prop
  | .list xs => ∃ vs n, h.get? a = some ⟨.type "list", none, .seq vs n, #[]⟩ ∧ Vs prog w Z vs.toList xs
  | .arr xs => ∃ vs, h.IsList a vs ∧ Vs prog w Z vs.toList xs
  | .dict es => ∃ kvs, h.DictOf (strKind prog w) a kvs ∧ Ds prog w Z kvs es
theorem MObj.mono {prog : Program} {w : World} {Z Z' : Frz} (z : Z.le Z') {h h' : Heap} {a : Addr} (e : ∀ o, h.get? a = some o → h'.get? a = some o) : ∀ {o : MO}, MObj prog w Z h a o → MObj prog w Z' h' a o
  | .list _, ⟨vs, n, g, r⟩ => ⟨vs, n, e _ g, r.mono z⟩
  | .arr _, ⟨vs, ⟨o, g, q⟩, r⟩ => ⟨vs, ⟨o, e _ g, q⟩, r.mono z⟩
  | .dict _, ⟨kvs, ⟨o, es, ep, g, q⟩, r⟩ => ⟨kvs, ⟨o, es, ep, e _ g, q⟩, r.mono z⟩

structure Base where
  get : Addr → Option Obj
  gen : Nat → Option GenState
  drawn : Drawn
  os : OsState

structure FE where
  env : Env
  nm : List Str
  pc : List Addr

structure FE.Ok (F : FE) : Prop where
  kind : F.env.scope.kind = .function
  glob : F.env.globals = mainGlobals
  bi : F.env.builtins = builtinsNs
  nd : F.nm.Nodup
  kinds : ∀ x ∈ F.nm, F.env.kindOf x = some .local ∨ (F.env.kindOf x = some .cell ∧ ∃ c, F.env.cells.lookup x = some c)
  apart : ∀ x y c, F.env.cells.lookup x = some c → F.env.cells.lookup y = some c → x = y
  dbg : ∀ x ∈ F.nm, (x == ("__debug__" : Str)) = false

structure Rest (B : Base) (s : Shared) : Prop where
  drawn : s.drawn = B.drawn
  os : s.os = B.os
  gens : ∀ (i : Nat) (x : GenState), B.gen i = some x → s.gens[i]? = some x
  fin : ∀ (i : Nat) (x : GenState), B.gen i = none → s.gens[i]? = some x → x = .finished

structure RR (prog : Program) (w : World) (F : FE) (B : Base) (W : Wd) (st : PS) (s : Shared) : Prop where
  keep : ∀ b o, B.get b = some o → s.heap.get? b = some o
  zk : W.Z.In s.heap
  rest : Rest B s
  ll : st.loc.length = F.nm.length
  locs : ∃ m, s.heap.Ns F.env.locals m ∧ ∀ (i : Nat) (x : Str) (e : EV), F.nm[i]? = some x → F.env.kindOf x = some .local → st.loc[i]? = some (some e) → ∃ v, m x = some v ∧ EVR prog w W v e
  cels : ∀ (i : Nat) (x : Str) (c : Addr), F.nm[i]? = some x → F.env.kindOf x = some .cell → F.env.cells.lookup x = some c →
    ∃ ov, s.heap.IsCell c ov ∧ ∀ e : EV, st.loc[i]? = some (some e) → ∃ v, ov = some v ∧ EVR prog w W v e
  cfix : ∀ (x : Str) (c : Addr), F.env.cells.lookup x = some c → c ∈ F.pc ∨ ∃ o, B.get c = some o
  objs : ∀ (i : Nat) (o : MO), st.own[i]? = some (some o) → ∃ a, W.ρ[i]? = some a ∧ MObj prog w W.Z s.heap a o
  len : W.ρ.length = st.own.length
  nd : (F.env.locals :: (F.pc ++ W.ρ)).Nodup
  dis : ∀ b o, B.get b = some o → W.Z b = none ∧ b ∉ F.env.locals :: (F.pc ++ W.ρ)
  fpriv : ∀ a ∈ F.env.locals :: F.pc, W.Z a = none
  alive : ∀ a ∈ F.env.locals :: (F.pc ++ W.ρ), ∃ o, s.heap.get? a = some o
  fown : ∀ (i : Nat) (a : Addr) (o : MO), W.ρ[i]? = some a → st.own[i]? = some (some o) → W.Z a = none
  low : ∀ a ∈ W.ρ, (a == sysModules) = false

namespace RR
variable {prog : Program} {w : World} {F : FE} {B : Base} {W : Wd} {st : PS} {s : Shared}

theorem zself (h : RR prog w F B W st s) : ∀ a o, W.Z a = some o → s.heap.get? a = some o := h.zk

/-- hidden things: all that stood stands -/
theorem ext (h : RR prog w F B W st s) {h' : Heap} {tk : Nat} (hk : ∀ b o, s.heap.get? b = some o → h'.get? b = some o) : RR prog w F B W st { s with heap := h', toks := tk } where
  keep b o e := hk b o (h.keep b o e)
  zk b o e := hk b o (h.zk b o e)
  rest := ⟨h.rest.drawn, h.rest.os, h.rest.gens, h.rest.fin⟩
  ll := h.ll
  locs := let ⟨m, n, r⟩ := h.locs; ⟨m, n.keeps hk, r⟩
  cels i x c e k l := let ⟨ov, q, r⟩ := h.cels i x c e k l; ⟨ov, q.keeps hk, r⟩
  cfix := h.cfix
  objs i o e := let ⟨a, g, r⟩ := h.objs i o e; ⟨a, g, r.mono (.refl _) fun o e => hk a o e⟩
  len := h.len
  nd := h.nd
  dis := h.dis
  fpriv := h.fpriv
  alive a ha := let ⟨o, e⟩ := h.alive a ha; ⟨o, hk a o e⟩
  fown := h.fown
  low := h.low

theorem toks (h : RR prog w F B W st s) (tk : Nat) : RR prog w F B W st { s with toks := tk } := h.ext (h' := s.heap) fun _ _ e => e

/-- the frozen things grow -/
theorem frz (h : RR prog w F B W st s) {Z' : Frz} (z : W.Z.le Z') (zk : Z'.In s.heap) (hn : ∀ a o, Z' a = some o → W.Z a = some o ∨ (B.get a = none ∧ a ∉ F.env.locals :: F.pc ∧ ∀ (i : Nat) (o : MO), W.ρ[i]? = some a → st.own[i]? = some (some o) → False)) : RR prog w F B { W with Z := Z' } st s where
  keep := h.keep
  zk := zk
  rest := h.rest
  ll := h.ll
  locs := let ⟨m, n, r⟩ := h.locs; ⟨m, n, fun i x e a b c => let ⟨v, p, q⟩ := r i x e a b c; ⟨v, p, EVR.mono (W := W) (W' := { W with Z := Z' }) ⟨List.prefix_refl _, z⟩ q⟩⟩
  cels i x c e k l := let ⟨ov, q, r⟩ := h.cels i x c e k l; ⟨ov, q, fun e y => let ⟨v, p, q⟩ := r e y; ⟨v, p, EVR.mono (W := W) (W' := { W with Z := Z' }) ⟨List.prefix_refl _, z⟩ q⟩⟩
  cfix := h.cfix
  objs i o e := let ⟨a, g, r⟩ := h.objs i o e; ⟨a, g, r.mono z fun o e => e⟩
  len := h.len
  nd := h.nd
  dis b o e := by
    refine ⟨?_, (h.dis b o e).2⟩
    show Z' b = none
    cases q : Z' b with
    | none => rfl
    | some x =>
      rcases hn b x q with r | r
      · rw [(h.dis b o e).1] at r; cases r
      · rw [r.1] at e; cases e
  fpriv a ha := by
    show Z' a = none
    cases q : Z' a with
    | none => rfl
    | some x =>
      rcases hn a x q with r | r
      · rw [h.fpriv a ha] at r; cases r
      · exact absurd ha r.2.1
  alive := h.alive
  fown i a o e e' := by
    show Z' a = none
    cases q : Z' a with
    | none => rfl
    | some x =>
      rcases hn a x q with r | r
      · rw [h.fown i a o e e'] at r; cases r
      · exact (r.2.2 i o e e').elim
  low := h.low

/-- a new thing, frozen at once -/
theorem newZ (h : RR prog w F B W st s) {h' : Heap} {tk : Nat} {a : Addr} {o : Obj} (hk : ∀ b o, s.heap.get? b = some o → h'.get? b = some o) (ha : s.heap.get? a = none) (ho : h'.get? a = some o) :
    RR prog w F B { W with Z := fun b => if b = a then some o else W.Z b } st { s with heap := h', toks := tk } ∧ W.le { W with Z := fun b => if b = a then some o else W.Z b } := by
  have x := h.ext (tk := tk) hk
  have z : W.Z.le fun b => if b = a then some o else W.Z b := fun b ob e => by
    by_cases q : b = a
    · subst q; rw [h.zk _ _ e] at ha; cases ha
    · simpa [q] using e
  refine ⟨x.frz z (fun b ob e => ?_) (fun b ob e => ?_), ⟨List.prefix_refl _, z⟩⟩
  · by_cases q : b = a
    · subst q; simp at e; subst e; exact ho
    · simp [q] at e; exact x.zk _ _ e
  · by_cases q : b = a
    · subst q
      refine .inr ⟨?_, fun m => ?_, fun i o e _ => ?_⟩
      · cases q : B.get b with
        | none => rfl
        | some o => rw [h.keep _ _ q] at ha; cases ha
      · have m' : b ∈ F.env.locals :: (F.pc ++ W.ρ) := by
          rcases List.mem_cons.mp m with rfl | m
          · exact .head _
          · exact .tail _ (List.mem_append_left _ m)
        obtain ⟨o, e⟩ := h.alive _ m'; rw [ha] at e; cases e
      · obtain ⟨o, e⟩ := h.alive _ (.tail _ (List.mem_append_right _ (List.mem_of_getElem? e))); rw [ha] at e; cases e
    · simp [q] at e; exact .inl e

/-- a new thing of the frame's own -/
theorem new (h : RR prog w F B W st s) {h' : Heap} {tk : Nat} {a : Addr} {o : MO} (hk : ∀ b o, s.heap.get? b = some o → h'.get? b = some o) (ha : s.heap.get? a = none) (hl : (a == sysModules) = false)
    (ho : MObj prog w W.Z h' a o) (hal : ∃ ob, h'.get? a = some ob) : RR prog w F B { W with ρ := W.ρ ++ [a] } { st with own := st.own ++ [some o] } { s with heap := h', toks := tk } := by
  have p : W.le { W with ρ := W.ρ ++ [a] } := ⟨List.prefix_append .., .refl _⟩
  have x := h.ext (tk := tk) hk
  have hna : ∀ b, b ∈ F.env.locals :: (F.pc ++ W.ρ) → b ≠ a := fun b hb q => by
    obtain ⟨o, e⟩ := h.alive b hb
    rw [q, ha] at e; cases e
  have hza : W.Z a = none := by
    cases q : W.Z a with
    | none => rfl
    | some o => rw [h.zk _ _ q] at ha; cases ha
  have ee : F.env.locals :: (F.pc ++ (W.ρ ++ [a])) = (F.env.locals :: (F.pc ++ W.ρ)) ++ [a] := by simp
  refine { keep := x.keep, zk := x.zk, rest := x.rest, ll := h.ll, locs := ?_, cels := ?_, cfix := x.cfix, objs := ?_, len := by simp [h.len], nd := ?_, dis := ?_, fpriv := x.fpriv, alive := ?_, fown := ?_, low := ?_ }
  · obtain ⟨m, n, r⟩ := x.locs
    exact ⟨m, n, fun i x pv e k l => let ⟨v, a, b⟩ := r i x pv e k l; ⟨v, a, b.mono p⟩⟩
  · intro i x' c e k l
    obtain ⟨ov, q, r⟩ := x.cels i x' c e k l
    exact ⟨ov, q, fun pv e => let ⟨v, a, b⟩ := r pv e; ⟨v, a, b.mono p⟩⟩
  · intro i o' e
    rcases Nat.lt_or_ge i st.own.length with hi | hi
    · rw [List.getElem?_append_left hi] at e
      obtain ⟨a', g, r⟩ := x.objs i o' e
      exact ⟨a', pre_get p.1 g, r⟩
    · rw [List.getElem?_append_right hi] at e
      have : i - st.own.length = 0 := by
        rcases Nat.eq_zero_or_pos (i - st.own.length) with q | q
        · exact q
        · rw [List.getElem?_eq_none (by simp; omega)] at e; cases e
      rw [this] at e
      simp at e
      subst e
      refine ⟨a, ?_, ho⟩
      show (W.ρ ++ [a])[i]? = some a
      rw [List.getElem?_append_right (by rw [h.len]; exact hi), h.len, this]; rfl
  · show (F.env.locals :: (F.pc ++ (W.ρ ++ [a]))).Nodup
    rw [ee]
    exact List.nodup_append.mpr ⟨h.nd, by simp, fun b hb c hc => by rw [List.mem_singleton.mp hc]; exact hna b hb⟩
  · intro b o e
    refine ⟨(h.dis b o e).1, ?_⟩
    show b ∉ F.env.locals :: (F.pc ++ (W.ρ ++ [a]))
    rw [ee]
    intro m
    rcases List.mem_append.mp m with m | m
    · exact (h.dis b o e).2 m
    · rw [List.mem_singleton.mp m] at e; rw [h.keep _ _ e] at ha; cases ha
  · intro b hb
    have hb : b ∈ F.env.locals :: (F.pc ++ (W.ρ ++ [a])) := hb
    rw [ee] at hb
    rcases List.mem_append.mp hb with m | m
    · exact x.alive b m
    · rw [List.mem_singleton.mp m]; exact hal
  · intro i a' o' e1 e2
    rcases Nat.lt_or_ge i st.own.length with hi | hi
    · rw [List.getElem?_append_left hi] at e2
      have e1 : (W.ρ ++ [a])[i]? = some a' := e1
      rw [List.getElem?_append_left (h.len ▸ hi)] at e1
      exact h.fown i a' o' e1 e2
    · have e1 : (W.ρ ++ [a])[i]? = some a' := e1
      rw [List.getElem?_append_right (by rw [h.len]; exact hi)] at e1
      have : a' = a := by
        rcases Nat.eq_zero_or_pos (i - W.ρ.length) with q | q
        · rw [q] at e1; simpa using e1.symm
        · rw [List.getElem?_eq_none (by simp; omega)] at e1; cases e1
      subst this
      exact hza
  · intro b hb
    rcases List.mem_append.mp hb with hb | hb
    · exact h.low b hb
    · rw [List.mem_singleton.mp hb]; exact hl

theorem idx_ne (h : RR prog w F B W st s) {i j : Nat} {a b : Addr} (hi : W.ρ[i]? = some a) (hj : W.ρ[j]? = some b) (hij : i ≠ j) : a ≠ b := by
  have nd : W.ρ.Nodup := (List.nodup_append.mp (List.nodup_cons.mp h.nd).2).2.1
  obtain ⟨li, rfl⟩ := List.getElem?_eq_some_iff.mp hi
  obtain ⟨lj, rfl⟩ := List.getElem?_eq_some_iff.mp hj
  intro q
  have pw := List.pairwise_iff_getElem.mp nd
  rcases Nat.lt_or_gt_of_ne hij with h1 | h1
  · exact pw i j li lj h1 q
  · exact pw j i lj li h1 q.symm

theorem apart_loc (h : RR prog w F B W st s) {a : Addr} (ha : a ∈ F.pc ++ W.ρ) : a ≠ F.env.locals := fun q => (List.nodup_cons.mp h.nd).1 (q ▸ ha)
theorem apart_pc (h : RR prog w F B W st s) {a c : Addr} (ha : a ∈ W.ρ) (hc : c ∈ F.pc) : c ≠ a :=
  (List.nodup_append.mp (List.nodup_cons.mp h.nd).2).2.2 c hc a ha
theorem keep_own (h : RR prog w F B W st s) {h' : Heap} {a : Addr} (ha : a ∈ F.env.locals :: (F.pc ++ W.ρ)) (hk : ∀ b ob, b ≠ a → s.heap.get? b = some ob → h'.get? b = some ob) : ∀ b o, B.get b = some o → h'.get? b = some o :=
  fun b o e => hk b o (fun q => (h.dis b o e).2 (q ▸ ha)) (h.keep b o e)
theorem zk_own (h : RR prog w F B W st s) {h' : Heap} {a : Addr} (ha : W.Z a = none) (hk : ∀ b ob, b ≠ a → s.heap.get? b = some ob → h'.get? b = some ob) : W.Z.In h' :=
  fun b o e => hk b o (fun q => by rw [q, ha] at e; cases e) (h.zk b o e)

theorem chg (h : RR prog w F B W st s) {h' : Heap} {tk : Nat} {i : Nat} {a : Addr} {o o' : MO} (hi : st.own[i]? = some (some o)) (ha : W.ρ[i]? = some a)
    (hk : ∀ b ob, b ≠ a → s.heap.get? b = some ob → h'.get? b = some ob) (ho : MObj prog w W.Z h' a o') (hal : ∃ ob, h'.get? a = some ob) :
    RR prog w F B W { st with own := st.own.set i (some o') } { s with heap := h', toks := tk } := by
  have hm : a ∈ W.ρ := List.mem_of_getElem? ha
  have hz : W.Z a = none := h.fown i a o ha hi
  have hil : i < st.own.length := (List.getElem?_eq_some_iff.mp hi).1
  have hma : a ∈ F.env.locals :: (F.pc ++ W.ρ) := .tail _ (List.mem_append_right _ hm)
  refine { keep := h.keep_own hma hk, zk := h.zk_own hz hk, rest := ⟨h.rest.drawn, h.rest.os, h.rest.gens, h.rest.fin⟩, ll := h.ll, locs := ?_, cels := ?_, cfix := h.cfix, objs := ?_,
           len := by simp [h.len], nd := h.nd, dis := h.dis, fpriv := h.fpriv, alive := ?_, fown := ?_, low := h.low }
  · obtain ⟨m, ⟨oL, es, ep, g, q⟩, r⟩ := h.locs
    exact ⟨m, ⟨oL, es, ep, hk _ _ (Ne.symm (h.apart_loc (List.mem_append_right _ hm))) g, q⟩, r⟩
  · intro j x c e k l
    obtain ⟨ov, ⟨oc, g, d⟩, r⟩ := h.cels j x c e k l
    refine ⟨ov, ⟨oc, hk c oc ?_ g, d⟩, r⟩
    rcases h.cfix x c l with hc | ⟨ob, hc⟩
    · exact h.apart_pc hm hc
    · intro q; exact (h.dis c ob hc).2 (q ▸ hma)
  · intro j oj e
    by_cases hij : i = j
    · subst hij
      rw [List.getElem?_set_self hil] at e
      cases e
      exact ⟨a, ha, ho⟩
    · rw [List.getElem?_set_ne hij] at e
      obtain ⟨b, g, r⟩ := h.objs j oj e
      exact ⟨b, g, r.mono (.refl _) fun ob e => hk b ob (h.idx_ne g ha (Ne.symm hij)) e⟩
  · intro c hc
    obtain ⟨oc, g⟩ := h.alive c hc
    by_cases q : c = a
    · subst q; exact hal
    · exact ⟨oc, hk c oc q g⟩
  · intro j b oj e1 e2
    by_cases hij : i = j
    · subst hij
      rw [ha] at e1; cases e1; exact hz
    · rw [List.getElem?_set_ne hij] at e2
      exact h.fown j b oj e1 e2
end RR
end Mine
end

section
open PySem PySem.W PyProof.Rows PySem.Calls
set_option maxRecDepth 10000
namespace Mine

noncomputable def gtab : List (Str × Value) := [("EXACT_TOKEN_TYPES", .ref 71), ("TupleComp", .ref 38), ("add_callers", .ref 49), ("count_calls", .ref 56), ("_iter_escaped_chars", .ref 63), ("_strip_quoted_realnames", .ref 70),
  ("_law_drawn", .ref 78), ("_law_orders", .ref 83), ("_law_swept", .ref 88), ("_law_told", .ref 93)]
noncomputable def btab : List (Str × Value) := [("len", .builtin "len"), ("int", .type "int"), ("list", .type "list"), ("range", .type "range"), ("sum", .builtin "sum"), ("enumerate", .type "enumerate"),
  ("isinstance", .builtin "isinstance"), ("tuple", .type "tuple")]

noncomputable abbrev pw : Program := PySem.Challenge.pw_wf0052_01
noncomputable def fnOfStmt : Option Stmt → Arguments × List Stmt × Scope
  | some (.FunctionDef _ args body _ _ _ scope _ _ _) => (args, body, scope)
  | _ => (⟨[], [], none, [], [], none, []⟩, [], default)
noncomputable def clsBody : Option Stmt → List Stmt
  | some (.ClassDef _ _ _ body _ _ _ _ _ _ _) => body
  | _ => []
noncomputable def fnNo (i : Nat) : Arguments × List Stmt × Scope := fnOfStmt pw.main.body[i]?
noncomputable def methNo (i : Nat) : Arguments × List Stmt × Scope := fnOfStmt (clsBody pw.main.body[1]?)[i]?

noncomputable def FnAt (h : Heap) (a : Addr) (d : Arguments × List Stmt × Scope) : Prop :=
  ∃ o name qual doc pm an cdv ct, h.get? a = some o ∧ o.data = .func (fnOf name qual d.1 d.2.1 d.2.2 .none .none doc pm an cdv ct) ∧ h.CodeRec cdv qual
theorem FnAt.keeps {h h' : Heap} {a : Addr} {d : Arguments × List Stmt × Scope} (x : FnAt h a d) (hk : ∀ b o, h.get? b = some o → h'.get? b = some o) : FnAt h' a d :=
  let ⟨o, n, q, dc, pm, an, cd, ct, g, e, c⟩ := x; ⟨o, n, q, dc, pm, an, cd, ct, hk _ _ g, e, c.keeps hk⟩

structure KFacts (K : Frag) : Prop where
  cmp : findIn K (.ref 38) "compare" = some (some (.ref 35))
  pg : plainGet K 38 "" = true
  fn35 : isFn K (.ref 35) = true
  hd : hasDictIn K 38 = true
  gA : findIn K (.ref 38) "comp_select_list" = some none
  gI : findIn K (.ref 38) "__init__" = some (some (.ref 28))
  fn28 : isFn K (.ref 28) = true
  mkC : makesIn K 38 = true
  sa : findIn K (.ref 38) "__setattr__" = some (some (.builtin "object.__setattr__"))
  po : plainOver K 38 = true
  ta : takerIn K 38 "comp_select_list" = some none
  kp35 : keepIn K (.ref 35) = true
  kp38 : keepIn K (.ref 38) = true

/-- the one-sign operators and their numbers -/
noncomputable def exactTab : List (Nat × Int) := [(40, 7), (41, 8), (91, 9), (93, 10), (58, 11), (44, 12), (59, 13), (43, 14), (45, 15), (42, 16), (47, 17), (124, 18), (38, 19), (60, 20), (62, 21), (61, 22), (46, 23), (37, 24), (123, 25), (125, 26), (126, 31), (94, 32), (64, 49), (33, 54)]

structure Stat (prog : Program) (w : World) (h : Heap) : Prop where
  ns : ∃ mg mb, h.Ns mainGlobals mg ∧ h.Ns builtinsNs mb ∧ (∀ p ∈ gtab, mg p.1 = some p.2) ∧ (∀ p ∈ btab, mg p.1 = none ∧ mb p.1 = some p.2)
  nolim : h.NoLimit
  sysm : ∃ o, h.get? sysModules = some o
  exact : ∃ f, h.MapOf (strKind prog w) 71 f ∧ ∀ p ∈ exactTab, ∃ t, f ⟨#[p.1]⟩ = some (.int p.2 t)
  fInit : FnAt h 28 (methNo 0)
  fCmp : FnAt h 35 (methNo 1)
  fAdd : FnAt h 49 (fnNo 2)
  fCount : FnAt h 56 (fnNo 3)
  fIter : FnAt h 63 (fnNo 5)
  fStrip : FnAt h 70 (fnNo 6)
  fDrawn : FnAt h 78 (fnNo 57)
  fOrders : FnAt h 83 (fnNo 58)
  fSwept : FnAt h 88 (fnNo 59)
  fTold : FnAt h 93 (fnNo 60)
theorem mapOf_keeps {prog : Program} {w : World} {h h' : Heap} {a : Addr} {f : Str → Option Value} (x : h.MapOf (strKind prog w) a f) (hk : ∀ b o, h.get? b = some o → h'.get? b = some o) : h'.MapOf (strKind prog w) a f :=
  let ⟨o, es, ep, g, r⟩ := x; ⟨o, es, ep, hk _ _ g, r⟩
theorem Stat.keeps {prog : Program} {w : World} {h h' : Heap} (S : Stat prog w h) (hk : ∀ b o, h.get? b = some o → h'.get? b = some o) : Stat prog w h' where
  ns := let ⟨mg, mb, a, b, r⟩ := S.ns; ⟨mg, mb, a.keeps hk, b.keeps hk, r⟩
  nolim := S.nolim.keeps hk
  sysm := let ⟨o, e⟩ := S.sysm; ⟨o, hk _ _ e⟩
  exact := let ⟨f, a, b⟩ := S.exact; ⟨f, mapOf_keeps a hk, b⟩
  fInit := S.fInit.keeps hk
  fCmp := S.fCmp.keeps hk
  fAdd := S.fAdd.keeps hk
  fCount := S.fCount.keeps hk
  fIter := S.fIter.keeps hk
  fStrip := S.fStrip.keeps hk
  fDrawn := S.fDrawn.keeps hk
  fOrders := S.fOrders.keeps hk
  fSwept := S.fSwept.keeps hk
  fTold := S.fTold.keeps hk
theorem Stat.size {prog : Program} {w : World} {h : Heap} (S : Stat prog w h) : mainGlobals < h.objs.size := let ⟨_, _, a, _⟩ := S.ns; a.lt
theorem low_of {prog : Program} {w : World} {h : Heap} (S : Stat prog w h) {a : Addr} (ha : h.objs.size ≤ a) : (a == sysModules) = false := by
  have h1 := S.size
  have h2 : sysModules < mainGlobals := by decide
  have h3 : a ≠ sysModules := by
    have h4 : sysModules < a := Nat.lt_of_lt_of_le (Nat.lt_trans h2 h1) ha
    exact Nat.ne_of_gt h4
  simpa using h3
theorem none_of_size {h : Heap} {a : Addr} (ha : h.objs.size ≤ a) : h.get? a = none := by
  cases q : h.get? a with
  | none => rfl
  | some o => exact absurd (Heap.lt_size q) (Nat.not_lt.mpr ha)

structure AOk (k : Nat) (A : Around) : Prop where
  h : A.handled = none
  d : A.depth + k + 2 < recursionLimit
  u : A.units + 4 * k + 20 < cLine
theorem AOk.deeper {k : Nat} {A : Around} {env : Env} (a : AOk (k + 1) A) : AOk k (A.deeper env) := ⟨a.h, by have := a.d; show A.depth + 1 + k + 2 < _; omega, by have := a.u; show A.units + 3 + 4 * k + 20 < _; omega⟩
theorem AOk.le {k k' : Nat} {A : Around} (a : AOk k A) (h : k' ≤ k) : AOk k' A := ⟨a.h, by have := a.d; omega, by have := a.u; omega⟩

variable {prog : Program} {w : World} {F : FE} {B : Base} {W : Wd} {st : PS} {s : Shared}

noncomputable def fnAddrs : List Addr := [28, 35, 49, 56, 63, 70, 78, 83, 88, 93]
structure ZStat (prog : Program) (w : World) (Z : Frz) : Prop where
  all : ∀ h : Heap, Z.In h → Stat prog w h
  fns : ∀ a ∈ fnAddrs, ∃ o, Z a = some o
  kin : ∃ K : Frag, KFacts K ∧ ∀ h : Heap, Z.In h → K.In h
theorem ZStat.mono {Z Z' : Frz} (S : ZStat prog w Z) (h : Z.le Z') : ZStat prog w Z' := ⟨fun g i => S.all g fun a o e => i a o (h a o e), fun a m => let ⟨o, e⟩ := S.fns a m; ⟨o, h _ _ e⟩, let ⟨K, a, b⟩ := S.kin; ⟨K, a, fun g i => b g fun a o e => i a o (h a o e)⟩⟩
theorem RR.stat (h : RR prog w F B W st s) (S : ZStat prog w W.Z) : Stat prog w s.heap := S.all _ h.zk
theorem pushKeeps {h : Heap} (o : Obj) : ∀ b ob, h.get? b = some ob → (h.push o).get? b = some ob := fun _ _ e => Heap.get?_push_of_some _ e

theorem nm_ne (ok : F.Ok) {i j : Nat} {x y : Str} (hi : F.nm[i]? = some x) (hj : F.nm[j]? = some y) (h : i ≠ j) : y ≠ x := by
  obtain ⟨li, rfl⟩ := List.getElem?_eq_some_iff.mp hi
  obtain ⟨lj, rfl⟩ := List.getElem?_eq_some_iff.mp hj
  intro q
  have pw := List.pairwise_iff_getElem.mp ok.nd
  rcases Nat.lt_or_gt_of_ne h with h1 | h1
  · exact pw i j li lj h1 q.symm
  · exact pw j i lj li h1 q

noncomputable def setL (i : Nat) (v : EV) (st : PS) : PS := { st with loc := st.loc.set i (some v) }

theorem store_ref (ok : F.Ok) (h : RR prog w F B W st s) {i : Nat} {x : Str} {v : Value} {pv : EV} (hi : F.nm[i]? = some x) (hv : EVR prog w W v pv) (hw : ∀ c, F.env.cells.lookup x = some c → F.env.kindOf x = some .cell → c ∈ F.pc)
    {M : Model} {A : Around} {Q : Unit → Shared → Prop} {E : Value → Shared → Prop} (k : ∀ s', RR prog w F B W (setL i pv st) s' → Q () s') :
    wpAny M A (storeName F.env x v) Q E s := by
  have hil : i < st.loc.length := by rw [h.ll]; exact (List.getElem?_eq_some_iff.mp hi).1
  rcases ok.kinds x (List.mem_of_getElem? hi) with hk | ⟨hk, c, hc⟩
  · obtain ⟨m, hn, hm⟩ := h.locs
    refine wpAny_storeName_local hk hn (fun h' hn' hs => ?_) (by rw [ok.kind]; rfl)
    have hb : ∀ b o, b ≠ F.env.locals → s.heap.get? b = some o → h'.get? b = some o := fun b o q e => (hs.2 b q).trans e
    refine k _ { keep := h.keep_own (.head _) hb, zk := h.zk_own (h.fpriv _ (.head _)) hb, rest := ⟨h.rest.drawn, h.rest.os, h.rest.gens, h.rest.fin⟩, ll := by simp [setL, h.ll], locs := ?_, cels := ?_, cfix := h.cfix, objs := ?_, len := h.len, nd := h.nd, dis := h.dis, fpriv := h.fpriv, alive := ?_, fown := h.fown, low := h.low }
    · refine ⟨_, hn', fun j y pw ej hkj ev => ?_⟩
      by_cases hij : i = j
      · subst hij
        rw [hi] at ej; cases ej
        have : pw = pv := by
          simp only [setL] at ev
          rw [List.getElem?_set_self hil] at ev
          exact (Option.some.inj (Option.some.inj ev)).symm
        subst this
        exact ⟨v, if_pos rfl, hv⟩
      · simp only [setL] at ev
        rw [List.getElem?_set_ne hij] at ev
        obtain ⟨v', e1, e2⟩ := hm j y pw ej hkj ev
        exact ⟨v', (if_neg (nm_ne ok hi ej hij)).trans e1, e2⟩
    · intro j y c ej hkj hl
      obtain ⟨ov, ⟨oc, g, d⟩, r⟩ := h.cels j y c ej hkj hl
      have hcl : c ≠ F.env.locals := by
        rcases h.cfix y c hl with q | ⟨ob, q⟩
        · exact h.apart_loc (List.mem_append_left _ q)
        · intro z; exact (h.dis c ob q).2 (z ▸ .head _)
      refine ⟨ov, ⟨oc, hb c oc hcl g, d⟩, fun pw ev => r pw ?_⟩
      have hij : i ≠ j := by
        rintro rfl
        rw [hi] at ej; cases ej
        rw [hk] at hkj; cases hkj
      simp only [setL] at ev
      rwa [List.getElem?_set_ne hij] at ev
    · intro j oj e
      obtain ⟨a, g, r⟩ := h.objs j oj e
      exact ⟨a, g, r.mono (.refl _) fun ob e => hb a ob (h.apart_loc (List.mem_append_right _ (List.mem_of_getElem? g))) e⟩
    · intro c hc
      obtain ⟨oc, g⟩ := h.alive c hc
      by_cases q : c = F.env.locals
      · subst q
        obtain ⟨o', es, ep, g', _⟩ := hn'
        exact ⟨o', g'⟩
      · exact ⟨oc, hb c oc q g⟩
  · have hpc := hw c hc hk
    obtain ⟨ov, hcell, _⟩ := h.cels i x c hi hk hc
    have hmc : c ∈ F.env.locals :: (F.pc ++ W.ρ) := .tail _ (List.mem_append_left _ hpc)
    refine wpAny_storeName_cell ok.kind hk hc hcell fun h' hcell' hs => ?_
    have hb : ∀ b o, b ≠ c → s.heap.get? b = some o → h'.get? b = some o := fun b o q e => (hs.2 b q).trans e
    refine k _ { keep := h.keep_own hmc hb, zk := h.zk_own (h.fpriv _ (.tail _ hpc)) hb, rest := ⟨h.rest.drawn, h.rest.os, h.rest.gens, h.rest.fin⟩, ll := by simp [setL, h.ll], locs := ?_, cels := ?_, cfix := h.cfix, objs := ?_, len := h.len, nd := h.nd, dis := h.dis, fpriv := h.fpriv, alive := ?_, fown := h.fown, low := h.low }
    · obtain ⟨m, ⟨oL, es, ep, g, q⟩, hm⟩ := h.locs
      refine ⟨m, ⟨oL, es, ep, hb _ _ (Ne.symm (h.apart_loc (List.mem_append_left _ hpc))) g, q⟩, fun j y pw ej hkj ev => hm j y pw ej hkj ?_⟩
      have hij : i ≠ j := by
        rintro rfl
        rw [hi] at ej; cases ej
        rw [hk] at hkj; cases hkj
      simp only [setL] at ev
      rwa [List.getElem?_set_ne hij] at ev
    · intro j y c' ej hkj hl
      by_cases hij : i = j
      · subst hij
        rw [hi] at ej; cases ej
        rw [hc] at hl; cases hl
        refine ⟨some v, hcell', fun pw ev => ⟨v, rfl, ?_⟩⟩
        simp only [setL] at ev
        rw [List.getElem?_set_self hil] at ev
        cases ev; exact hv
      · obtain ⟨ov', ⟨oc, g, d⟩, r⟩ := h.cels j y c' ej hkj hl
        have hcc : c' ≠ c := fun q => nm_ne ok hi ej hij (ok.apart y x c (q ▸ hl) hc)
        refine ⟨ov', ⟨oc, hb c' oc hcc g, d⟩, fun pw ev => r pw ?_⟩
        simp only [setL] at ev
        rwa [List.getElem?_set_ne hij] at ev
    · intro j oj e
      obtain ⟨a, g, r⟩ := h.objs j oj e
      exact ⟨a, g, r.mono (.refl _) fun ob e => hb a ob (Ne.symm (h.apart_pc (List.mem_of_getElem? g) hpc)) e⟩
    · intro c' hc'
      obtain ⟨oc, g⟩ := h.alive c' hc'
      by_cases q : c' = c
      · subst q
        obtain ⟨o', g', _⟩ := hcell'
        exact ⟨o', g'⟩
      · exact ⟨oc, hb c' oc q g⟩

/-- the tree does what the pure program says -/
noncomputable def RefT (prog : Program) (w : World) (F : FE) (k : Nat) {α β : Type} (t : Sem α) (VR : Wd → α → β → Prop) (p : PM β) : Prop :=
  ∀ {A : Around} {B : Base} {W : Wd} {st : PS} {b : β} {st' : PS} {s : Shared} {Q : α → Shared → Prop} {E : Value → Shared → Prop},
    AOk k A → ZStat prog w W.Z → p st = some (b, st') → RR prog w F B W st s →
    (∀ W' a s', W.le W' → VR W' a b → RR prog w F B W' st' s' → Q a s') → wpAny (model prog w) A t Q E s

structure Ref (prog : Program) (w : World) (F : FE) (k : Nat) {α β : Type} (t : Sem α) (VR : Wd → α → β → Prop) (p : PM β) : Prop where
  run : RefT prog w F k t VR p


noncomputable def pLoad (i : Nat) : PM EV := fun st => match st.loc[i]? with
  | some (some v) => some (v, st)
  | _ => none
noncomputable def pRet {α : Type} (a : α) : PM α := fun st => some (a, st)
noncomputable abbrev Val (prog : Program) (w : World) : Wd → Value → EV → Prop := EVR prog w

theorem ref_Name (ok : F.Ok) {i : Nat} {x : Str} {pos : Pos} {k : Nat} (hi : F.nm[i]? = some x) : Ref prog w F k (eval (.Name x pos) F.env) (EVR prog w) (pLoad i) := by
  constructor
  intro A B W st b st' s Q E a S e h q
  unfold pLoad at e
  split at e
  · rename_i v ev
    cases e
    refine wpAny_Name ?_ (ok.dbg x (List.mem_of_getElem? hi))
    rcases ok.kinds x (List.mem_of_getElem? hi) with hk | ⟨hk, c, hc⟩
    · obtain ⟨m, hn, hm⟩ := h.locs
      obtain ⟨v', e1, e2⟩ := hm i x _ hi hk ev
      exact wpAny_loadName_local ok.kind hk hn e1 (q W v' s (.refl _) e2 h)
    · obtain ⟨ov, hcell, r⟩ := h.cels i x c hi hk hc
      obtain ⟨v', rfl, e2⟩ := r _ ev
      exact wpAny_loadName_cell ok.kind hk hc hcell (q W v' s (.refl _) e2 h)
  · cases e
theorem ref_int {i : Int} {kk : Nat} {pos : Pos} {k : Nat} : Ref prog w F k (eval (.Constant (.int i) kk pos) F.env) (EVR prog w) (pRet (.v (.int i))) := by
  constructor
  intro A B W st b st' s Q E a S e h q
  cases e
  exact wpAny_Constant_int (q W _ _ (.refl _) (V.int _ _) (h.toks _))
theorem ref_str {x : Str} {kk : Nat} {pos : Pos} {k : Nat} : Ref prog w F k (eval (.Constant (.str x) kk pos) F.env) (EVR prog w) (pRet (.v (.str x))) := by
  constructor
  intro A B W st b st' s Q E a S e h q
  cases e
  exact wpAny_Constant_str (q W _ _ (.refl _) (V.str _ _) (h.toks _))
theorem ref_none {kk : Nat} {pos : Pos} {k : Nat} : Ref prog w F k (eval (.Constant .none kk pos) F.env) (EVR prog w) (pRet (.v .none)) := by
  constructor
  intro A B W st b st' s Q E a S e h q
  cases e
  exact wpAny_Constant_none (q W _ _ (.refl _) V.none h)
theorem ref_bool {c : Bool} {kk : Nat} {pos : Pos} {k : Nat} : Ref prog w F k (eval (.Constant (.bool c) kk pos) F.env) (EVR prog w) (pRet (.v (.bool c))) := by
  constructor
  intro A B W st b st' s Q E a S e h q
  cases e
  exact wpAny_Constant_bool (q W _ _ (.refl _) (V.bool _) h)

theorem global_val (ok : F.Ok) (S : ZStat prog w W.Z) (h : RR prog w F B W st s) {x : Str} {v : Value} {pos : Pos} (hx : (x, v) ∈ gtab) (hk : F.env.kindOf x = some .globalImplicit) {A : Around} {Q : Value → Shared → Prop} {E : Value → Shared → Prop}
    (q : Q v s) (hd : (x == ("__debug__" : Str)) = false := by decide) : wpAny (model prog w) A (eval (.Name x pos) F.env) Q E s := by
  obtain ⟨mg, mb, g1, g2, g3, g4⟩ := (h.stat S).ns
  exact Name_function_global ok.kind hk (loadGlobal_global (ok.glob ▸ g1) (g3 (x, v) hx) q) hd
theorem builtin_val (ok : F.Ok) (S : ZStat prog w W.Z) (h : RR prog w F B W st s) {x : Str} {v : Value} {pos : Pos} (hx : (x, v) ∈ btab) (hk : F.env.kindOf x = some .globalImplicit) {A : Around} {Q : Value → Shared → Prop} {E : Value → Shared → Prop}
    (q : Q v s) (hd : (x == ("__debug__" : Str)) = false := by decide) : wpAny (model prog w) A (eval (.Name x pos) F.env) Q E s := by
  obtain ⟨mg, mb, g1, g2, g3, g4⟩ := (h.stat S).ns
  exact Name_function_global ok.kind hk (loadGlobal_builtin (ok.glob ▸ g1) (g4 (x, v) hx).1 (ok.bi ▸ g2) (g4 (x, v) hx).2 q) hd

/-- a new thing that the tree itself lays: frozen at once -/
theorem RR.allocZ (h : RR prog w F B W st s) {ob : Obj} (hf : ob.isFreed = false) {Q : Value → Shared → Prop} {p : PV}
    (hv : ∀ Z : Frz, W.Z.le Z → Z s.heap.objs.size = some ob → V prog w Z (.ref s.heap.objs.size) p)
    (q : ∀ W' v s', W.le W' → EVR prog w W' v (.v p) → RR prog w F B W' st s' → Q v s') (tk : Nat := s.toks) : Q (.ref s.heap.objs.size) { s with heap := s.heap.push ob, toks := tk } := by
  obtain ⟨h1, l1⟩ := h.newZ (tk := tk) (pushKeeps ob) (none_of_size (Nat.le_refl _)) (Heap.get?_push_size _ hf)
  exact q _ _ _ l1 (hv _ l1.2 (by simp)) h1
/-- or the frame's own -/
theorem RR.allocM (S : ZStat prog w W.Z) (h : RR prog w F B W st s) {ob : Obj} {o : MO} (hf : ob.isFreed = false) {Q : Value → Shared → Prop}
    (ho : ∀ h' : Heap, h'.get? s.heap.objs.size = some ob → MObj prog w W.Z h' s.heap.objs.size o)
    (q : ∀ W' v s', W.le W' → EVR prog w W' v (.m st.own.length) → RR prog w F B W' { st with own := st.own ++ [some o] } s' → Q v s') (tk : Nat := s.toks) : Q (.ref s.heap.objs.size) { s with heap := s.heap.push ob, toks := tk } := by
  have g := Heap.get?_push_size s.heap hf
  refine q { W with ρ := W.ρ ++ [s.heap.objs.size] } _ _ ⟨List.prefix_append .., .refl _⟩ ⟨s.heap.objs.size, ?_, rfl⟩ (h.new (tk := tk) (pushKeeps ob) (none_of_size (Nat.le_refl _)) (low_of (h.stat S) (Nat.le_refl _)) (ho _ g) ⟨_, g⟩)
  show (W.ρ ++ [_])[_]? = _
  rw [List.getElem?_append_right (by rw [h.len]; exact Nat.le_refl _), h.len, Nat.sub_self]; rfl

/-- an own thing read -/
theorem own_at (h : RR prog w F B W st s) {v : Value} {i : Nat} {o : MO} (hv : EVR prog w W v (.m i)) (e : st.own[i]? = some (some o)) : ∃ a, v = .ref a ∧ W.ρ[i]? = some a ∧ MObj prog w W.Z s.heap a o := by
  obtain ⟨a, e1, rfl⟩ := hv
  obtain ⟨a', e2, r⟩ := h.objs i o e
  rw [e1] at e2; cases e2
  exact ⟨a, rfl, e1, r⟩

/-- the items of a list, frozen or own -/
noncomputable def listOf (st : PS) : EV → Option (List PV)
  | .v (.lst xs) => some xs
  | .m i => match st.own[i]? with
    | some (some (.list xs)) => some xs
    | _ => none
  | _ => none
theorem list_at (h : RR prog w F B W st s) {v : Value} {e : EV} {xs : List PV} (hv : EVR prog w W v e) (hl : listOf st e = some xs) : ∃ a vs n, v = .ref a ∧ s.heap.get? a = some ⟨.type "list", none, .seq vs n, #[]⟩ ∧ Vs prog w W.Z vs.toList xs := by
  cases e with
  | v p =>
    cases p <;> first | cases hl | skip
    obtain ⟨a, vs, n, rfl, g, r⟩ := V.lst_inv (show V prog w W.Z v (.lst xs) from hv)
    exact ⟨a, vs, n, rfl, h.zk _ _ g, r⟩
  | m i =>
    simp only [listOf] at hl
    split at hl
    · rename_i ys e
      cases hl
      obtain ⟨a, rfl, _, vs, n, g, r⟩ := own_at h hv e
      exact ⟨a, vs, n, rfl, g, r⟩
    · cases hl
noncomputable def dictOfS (st : PS) : EV → Option (List (Str × PV))
  | .v (.dct xs) => some xs
  | .m i => match st.own[i]? with
    | some (some (.dict xs)) => some xs
    | _ => none
  | _ => none
theorem dict_at (h : RR prog w F B W st s) {v : Value} {e : EV} {es : List (Str × PV)} (hv : EVR prog w W v e) (hl : dictOfS st e = some es) : ∃ a kvs, v = .ref a ∧ (a == sysModules) = false ∧ s.heap.DictOf (strKind prog w) a kvs ∧ Ds prog w W.Z kvs es := by
  cases e with
  | v p =>
    cases p <;> first | cases hl | skip
    obtain ⟨a, kvs, o, rfl, lo, g, d, r⟩ := V.dct_inv (show V prog w W.Z v (.dct es) from hv)
    exact ⟨a, kvs, rfl, lo, d _ (h.zk _ _ g), r⟩
  | m i =>
    simp only [dictOfS] at hl
    split at hl
    · rename_i ys e
      cases hl
      obtain ⟨a, rfl, hm, kvs, g, r⟩ := own_at h hv e
      exact ⟨a, kvs, rfl, h.low _ (List.mem_of_getElem? hm), g, r⟩
    · cases hl

/-- an own thing is frozen (nothing runs) -/
noncomputable def frzMO : MO → Option PV
  | .list xs => some (.lst xs)
  | .arr _ => none
  | .dict es => some (.dct es)
noncomputable def pFrz (i : Nat) : PM Unit := fun st => match st.loc[i]? with
  | some (some (.m j)) => match st.own[j]? with
    | some (some o) => (frzMO o).map fun p => ((), { loc := st.loc.set i (some (.v p)), own := st.own.set j none })
    | _ => none
  | _ => none

theorem RR.dropOwn (h : RR prog w F B W st s) (j : Nat) : RR prog w F B W { st with own := st.own.set j none } s where
  keep := h.keep
  zk := h.zk
  rest := h.rest
  ll := h.ll
  locs := h.locs
  cels := h.cels
  cfix := h.cfix
  objs i o e := by
    by_cases q : j = i
    · subst q
      rcases Nat.lt_or_ge j st.own.length with l | l
      · rw [List.getElem?_set_self l] at e; cases e
      · rw [List.getElem?_eq_none (by simpa using l)] at e; cases e
    · rw [List.getElem?_set_ne q] at e; exact h.objs i o e
  len := by simp [h.len]
  nd := h.nd
  dis := h.dis
  fpriv := h.fpriv
  alive := h.alive
  fown i a o e e' := by
    by_cases q : j = i
    · subst q
      rcases Nat.lt_or_ge j st.own.length with l | l
      · rw [List.getElem?_set_self l] at e'; cases e'
      · rw [List.getElem?_eq_none (by simpa using l)] at e'; cases e'
    · rw [List.getElem?_set_ne q] at e'; exact h.fown i a o e e'
  low := h.low

theorem RR.setLoc (h : RR prog w F B W st s) {i : Nat} {e e' : EV} (hi : st.loc[i]? = some (some e)) (hv : ∀ v, EVR prog w W v e → EVR prog w W v e') : RR prog w F B W (setL i e' st) s := by
  have hil : i < st.loc.length := (List.getElem?_eq_some_iff.mp hi).1
  refine { h with ll := by simp [setL, h.ll], locs := ?_, cels := ?_, objs := h.objs, len := h.len, fown := h.fown }
  · obtain ⟨m, n, r⟩ := h.locs
    refine ⟨m, n, fun j x ev a b c => ?_⟩
    by_cases q : i = j
    · subst q
      simp only [setL] at c
      rw [List.getElem?_set_self hil] at c; cases c
      obtain ⟨v, p, t⟩ := r i x e a b hi
      exact ⟨v, p, hv v t⟩
    · simp only [setL] at c
      rw [List.getElem?_set_ne q] at c; exact r j x ev a b c
  · intro j x c a b d
    obtain ⟨ov, p, r⟩ := h.cels j x c a b d
    refine ⟨ov, p, fun ev z => ?_⟩
    by_cases q : i = j
    · subst q
      simp only [setL] at z
      rw [List.getElem?_set_self hil] at z; cases z
      obtain ⟨v, p, t⟩ := r e hi
      exact ⟨v, p, hv v t⟩
    · simp only [setL] at z
      rw [List.getElem?_set_ne q] at z; exact r ev z

theorem RR.freeze (h : RR prog w F B W st s) {i : Nat} {st' : PS} (e : pFrz i st = some ((), st')) : ∃ W', W.le W' ∧ RR prog w F B W' st' s := by
  unfold pFrz at e
  split at e
  · rename_i j hi
    split at e
    · rename_i o ho
      obtain ⟨p, ep, e⟩ := Option.map_eq_some_iff.mp e
      cases e
      obtain ⟨a, ha, hm⟩ := h.objs j o ho
      have hz := h.fown j a o ha ho
      have hma : a ∈ F.env.locals :: (F.pc ++ W.ρ) := .tail _ (List.mem_append_right _ (List.mem_of_getElem? ha))
      have hb : B.get a = none := by
        cases q : B.get a with
        | none => rfl
        | some x => exact absurd hma (h.dis _ _ q).2
      have key : ∀ ob, s.heap.get? a = some ob → (∀ Z : Frz, W.Z.le Z → Z a = some ob → V prog w Z (.ref a) p) →
          ∃ W', W.le W' ∧ RR prog w F B W' { loc := st.loc.set i (some (.v p)), own := st.own.set j none } s := by
        intro ob g hv
        have z : W.Z.le fun b => if b = a then some ob else W.Z b := fun b x e => by
          by_cases q : b = a
          · subst q; rw [hz] at e; cases e
          · simpa [q] using e
        refine ⟨{ W with Z := fun b => if b = a then some ob else W.Z b }, ⟨List.prefix_refl _, z⟩, ?_⟩
        have h1 := (h.dropOwn j).frz z (fun b x e => ?_) (fun b x e => ?_)
        · have h2 := h1.setLoc (i := i) (e := .m j) (e' := .v p) hi (fun v t => ?_)
          · exact h2
          · obtain ⟨a', e', rfl⟩ := t
            have e' : W.ρ[j]? = some a' := e'
            rw [ha] at e'; cases e'
            exact hv _ z (by simp)
        · by_cases q : b = a
          · subst q; simp at e; subst e; exact g
          · simp [q] at e; exact h.zk _ _ e
        · by_cases q : b = a
          · subst q
            refine .inr ⟨hb, fun m => ?_, fun j' o' e1 e2 => ?_⟩
            · rcases List.mem_cons.mp m with r | r
              · exact h.apart_loc (List.mem_append_right _ (List.mem_of_getElem? ha)) r
              · exact h.apart_pc (List.mem_of_getElem? ha) r rfl
            · by_cases q : j = j'
              · subst q
                have e2 : (st.own.set j none)[j]? = some (some o') := e2
                rw [List.getElem?_set_self (List.getElem?_eq_some_iff.mp ho).1] at e2; cases e2
              · exact h.idx_ne ha e1 q rfl
          · simp [q] at e; exact .inl e
      cases o with
      | arr xs => cases ep
      | list xs =>
        cases ep
        obtain ⟨vs, n, g, r⟩ := hm
        exact key _ g fun Z z e => V.lst' e (r.mono z)
      | dict es =>
        cases ep
        obtain ⟨kvs, ⟨ob, es', ep, g, q⟩, r⟩ := hm
        exact key _ g fun Z z e => V.dct (h.low _ (List.mem_of_getElem? ha)) e (fun h' g' => ⟨_, _, _, g', q⟩) r.keys (r.mono z).all
    · cases e
  · cases e
end Mine
end

section
open PySem PySem.W PyProof.Rows PySem.Calls
set_option maxRecDepth 10000
namespace Mine
variable {prog : Program} {w : World} {F : FE} {B : Base} {W : Wd} {st : PS} {s : Shared}

/-- a two-place operation on values -/
noncomputable def OpRefT (prog : Program) (w : World) (t : Value → Value → Sem Value) (f : EV → EV → PM EV) : Prop :=
  ∀ {F : FE} {A : Around} {B : Base} {W : Wd} {st : PS} {va vb : Value} {a b r : EV} {st' : PS} {s : Shared} {Q : Value → Shared → Prop} {E : Value → Shared → Prop},
    AOk 0 A → ZStat prog w W.Z → EVR prog w W va a → EVR prog w W vb b → f a b st = some (r, st') → RR prog w F B W st s →
    (∀ W' v s', W.le W' → EVR prog w W' v r → RR prog w F B W' st' s' → Q v s') → wpAny (model prog w) A (t va vb) Q E s

structure OpRef (prog : Program) (w : World) (t : Value → Value → Sem Value) (f : EV → EV → PM EV) : Prop where
  run : OpRefT prog w t f

/-- what a value is -/
noncomputable def iV : EV → Option Int
  | .v (.int i) => some i
  | _ => none
noncomputable def sV : EV → Option Str
  | .v (.str x) => some x
  | _ => none
noncomputable def tV : EV → Option (List PV)
  | .v (.tup xs) => some xs
  | _ => none
noncomputable def dV : EV → Option (List (Str × PV))
  | .v (.dct xs) => some xs
  | _ => none
noncomputable def nV : EV → Option Unit
  | .v .none => some ()
  | _ => none
section
variable {W : Wd} {v : Value} {a : EV}
theorem iV_inv {x : Int} (h : iV a = some x) (k : EVR prog w W v a) : ∃ t, v = .int x t := by
  cases a with
  | m i => cases h
  | v p => cases p with
    | int i => cases h; exact V.int_inv k
    | _ => cases h
theorem sV_inv {x : Str} (h : sV a = some x) (k : EVR prog w W v a) : ∃ t, v = .str x t := by
  cases a with
  | m i => cases h
  | v p => cases p with
    | str i => cases h; exact V.str_inv k
    | _ => cases h
theorem tV_inv {x : List PV} (h : tV a = some x) (k : EVR prog w W v a) : V prog w W.Z v (.tup x) := by
  cases a with
  | m i => cases h
  | v p => cases p with
    | tup i => cases h; exact k
    | _ => cases h
theorem dV_inv {x : List (Str × PV)} (h : dV a = some x) (k : EVR prog w W v a) : V prog w W.Z v (.dct x) := by
  cases a with
  | m i => cases h
  | v p => cases p with
    | dct i => cases h; exact k
    | _ => cases h
theorem nV_inv {x : Unit} (h : nV a = some x) (k : EVR prog w W v a) : v = .none := by
  cases a with
  | m i => cases h
  | v p => cases p with
    | none => exact V.none_inv k
    | _ => cases h
end
theorem ite_some {α β : Type} {c : Prop} [Decidable c] {x y : α} {s s' : β} (h : (if c then some (x, s) else none) = some (y, s')) : c ∧ x = y ∧ s = s' := by
  by_cases hc : c
  · rw [if_pos hc] at h; cases h; exact ⟨hc, rfl, rfl⟩
  · rw [if_neg hc] at h; cases h
/-- one of two ways -/
theorem elim_cases {α β : Type} {o : Option α} {n : Option β} {f : α → Option β} {y : β} (h : o.elim n f = some y) : n = some y ∨ ∃ x, o = some x ∧ f x = some y := by
  cases o with
  | none => exact .inl h
  | some x => exact .inr ⟨x, rfl, h⟩
theorem bind_some {α β : Type} {o : Option α} {f : α → Option β} {y : β} (h : o.bind f = some y) : ∃ x, o = some x ∧ f x = some y := Option.bind_eq_some_iff.mp h
theorem map_pair {α β γ : Type} {o : Option α} {f : α → β} {y : β} {s s' : γ} (h : (o.map fun x => (f x, s)) = some (y, s')) : ∃ x, o = some x ∧ f x = y ∧ s = s' := by
  obtain ⟨x, e, h⟩ := Option.map_eq_some_iff.mp h
  cases h
  exact ⟨x, e, rfl, rfl⟩
noncomputable def pBin (f : EV → EV → PM EV) (pl pr : PM EV) : PM EV := pbind pl fun a => pbind pr fun b => f a b

theorem ref_BinOp {k : Nat} {l r : Expr} {op : Operator} {pos : Pos} {pl pr : PM EV} {f : EV → EV → PM EV} (hl : Ref prog w F k (eval l F.env) (EVR prog w) pl) (hr : Ref prog w F k (eval r F.env) (EVR prog w) pr)
    (hop : OpRef prog w (binaryOp op) f) : Ref prog w F k (eval (.BinOp l op r pos) F.env) (EVR prog w) (pBin f pl pr) := by
  constructor
  intro A B W st b st' s Q E a S e h q
  obtain ⟨x, st1, e1, e2⟩ := pbind_some e
  obtain ⟨y, st2, e3, e4⟩ := pbind_some e2
  refine wpAny_BinOp (hl.run a S e1 h fun W1 v1 s1 p1 hv1 h1 => hr.run a (S.mono p1.2) e3 h1 fun W2 v2 s2 p2 hv2 h2 => ?_)
  exact hop.run (a.le (Nat.zero_le _)) (S.mono (p1.trans p2).2) (hv1.mono p2) hv2 e4 h2 fun W3 v3 s3 p3 hv3 h3 => q W3 v3 s3 ((p1.trans p2).trans p3) hv3 h3

/-- a comparison that answers a bool and turns nothing -/
noncomputable def CmpRefT (prog : Program) (w : World) (op : CmpOp) (f : EV → EV → PS → Option Bool) : Prop :=
  ∀ {F : FE} {A : Around} {B : Base} {W : Wd} {st : PS} {va vb : Value} {a b : EV} {c : Bool} {s : Shared} {Q : Value → Shared → Prop} {E : Value → Shared → Prop},
    AOk 0 A → ZStat prog w W.Z → EVR prog w W va a → EVR prog w W vb b → f a b st = some c → RR prog w F B W st s →
    (∀ s', RR prog w F B W st s' → Q (.bool c) s') → wpAny (model prog w) A (compareOp op va vb) Q E s

structure CmpRef (prog : Program) (w : World) (op : CmpOp) (f : EV → EV → PS → Option Bool) : Prop where
  run : CmpRefT prog w op f

noncomputable def pCmp (f : EV → EV → PS → Option Bool) (pl pr : PM EV) : PM Bool := pbind pl fun a => pbind pr fun b => fun st => (f a b st).map fun c => (c, st)
noncomputable def pB (p : PM Bool) : PM EV := pbind p fun b => pRet (.v (.bool b))
noncomputable abbrev IsB (_ : Wd) (a b : Bool) : Prop := a = b

theorem ref_Compare {k : Nat} {l r : Expr} {op : CmpOp} {pos : Pos} {pl pr : PM EV} {f : EV → EV → PS → Option Bool} (hl : Ref prog w F k (eval l F.env) (EVR prog w) pl) (hr : Ref prog w F k (eval r F.env) (EVR prog w) pr)
    (hop : CmpRef prog w op f) (hm : behindInMarks op r = false := by rfl) : Ref prog w F k (eval (.Compare l [op] [r] pos) F.env) (EVR prog w) (pB (pCmp f pl pr)) := by
  constructor
  intro A B W st b st' s Q E a S e h q
  obtain ⟨c, st0, e0, e9⟩ := pbind_some e
  cases e9
  obtain ⟨x, st1, e1, e2⟩ := pbind_some e0
  obtain ⟨y, st2, e3, e4⟩ := pbind_some e2
  obtain ⟨c', e5, e6⟩ := Option.map_eq_some_iff.mp e4
  cases e6
  refine wpAny_Compare1 (hl.run a S e1 h fun W1 v1 s1 p1 hv1 h1 => hr.run a (S.mono p1.2) e3 h1 fun W2 v2 s2 p2 hv2 h2 => ?_) hm
  exact hop.run (a.le (Nat.zero_le _)) (S.mono (p1.trans p2).2) (hv1.mono p2) hv2 e5 h2 fun s3 h3 => q W2 _ s3 (p1.trans p2) (V.bool _) h3

theorem tst_Compare {k : Nat} {l r : Expr} {op : CmpOp} {pos : Pos} {whole : Sem Value} {pl pr : PM EV} {f : EV → EV → PS → Option Bool} (hl : Ref prog w F k (eval l F.env) (EVR prog w) pl) (hr : Ref prog w F k (eval r F.env) (EVR prog w) pr)
    (hop : CmpRef prog w op f) (hm : behindInMarks op r = false := by rfl) : Ref prog w F k (isTrue (.Compare l [op] [r] pos) F.env whole) IsB (pCmp f pl pr) := by
  constructor
  intro A B W st b st' s Q E a S e0 h q
  obtain ⟨x, st1, e1, e2⟩ := pbind_some e0
  obtain ⟨y, st2, e3, e4⟩ := pbind_some e2
  obtain ⟨c', e5, e6⟩ := Option.map_eq_some_iff.mp e4
  cases e6
  refine wpAny_isTrue_Compare1 (hl.run a S e1 h fun W1 v1 s1 p1 hv1 h1 => hr.run a (S.mono p1.2) e3 h1 fun W2 v2 s2 p2 hv2 h2 => ?_) hm
  exact hop.run (a.le (Nat.zero_le _)) (S.mono (p1.trans p2).2) (hv1.mono p2) hv2 e5 h2 fun s3 h3 => wpAny_truthy_bool (q W2 _ s3 (p1.trans p2) rfl h3)

noncomputable def pIf {α : Type} (c : PM Bool) (x y : PM α) : PM α := pbind c fun b => match b with | true => x | false => y

theorem ref_IfExp {k : Nat} {t x y : Expr} {pos : Pos} {pt : PM Bool} {px py : PM EV} (ht : Ref prog w F k (isTrue t F.env (eval t F.env)) IsB pt) (hx : Ref prog w F k (eval x F.env) (EVR prog w) px) (hy : Ref prog w F k (eval y F.env) (EVR prog w) py) :
    Ref prog w F k (eval (.IfExp t x y pos) F.env) (EVR prog w) (pIf pt px py) := by
  constructor
  intro A B W st b st' s Q E a S e h q
  obtain ⟨c, st1, e1, e2⟩ := pbind_some e
  refine wpAny_IfExp (ht.run a S e1 h fun W1 c' s1 p1 hc h1 => ?_)
  subst hc
  cases c'
  · exact hy.run a (S.mono p1.2) e2 h1 fun W2 v s2 p2 hv h2 => q W2 v s2 (p1.trans p2) hv h2
  · exact hx.run a (S.mono p1.2) e2 h1 fun W2 v s2 p2 hv h2 => q W2 v s2 (p1.trans p2) hv h2

noncomputable def pAnd (x y : PM Bool) : PM Bool := pIf x y (pRet false)
theorem tst_And {k : Nat} {x y : Expr} {pos : Pos} {whole : Sem Value} {px py : PM Bool} (hx : Ref prog w F k (isTrue x F.env (eval x F.env)) IsB px) (hy : Ref prog w F k (isTrue y F.env (eval y F.env)) IsB py) :
    Ref prog w F k (isTrue (.BoolOp .And [x, y] pos) F.env whole) IsB (pAnd px py) := by
  constructor
  intro A B W st b st' s Q E a S e h q
  obtain ⟨c, st1, e1, e2⟩ := pbind_some e
  refine wpAny_isTrue_BoolOp (wpAny_allTrue_And_cons (hx.run a S e1 h fun W1 c' s1 p1 hc h1 => ?_))
  subst hc
  cases c'
  · cases e2
    exact q W1 _ s1 p1 rfl h1
  · refine wpAny_allTrue_And_cons (hy.run a (S.mono p1.2) e2 h1 fun W2 c2 s2 p2 hc2 h2 => ?_)
    subst hc2
    cases c2
    · exact q W2 _ s2 (p1.trans p2) rfl h2
    · exact wpAny_allTrue_And_nil (q W2 _ s2 (p1.trans p2) rfl h2)

/-- `x and y` as a value, both bools -/
theorem ref_And {k : Nat} {x y : Expr} {pos : Pos} {px py : PM Bool} (hx : Ref prog w F k (eval x F.env) (EVR prog w) (pB px)) (hy : Ref prog w F k (eval y F.env) (EVR prog w) (pB py)) :
    Ref prog w F k (eval (.BoolOp .And [x, y] pos) F.env) (EVR prog w) (pB (pAnd px py)) := by
  constructor
  intro A B W st b st' s Q E a S e h q
  obtain ⟨c0, st0, e0, e9⟩ := pbind_some e
  cases e9
  obtain ⟨c, st1, e1, e2⟩ := pbind_some e0
  refine wpAny_And2 (hx.run a S (b := .v (.bool c)) (st' := st1) (by unfold pB pbind; rw [e1]; rfl) h fun W1 v s1 p1 hv h1 => ?_)
  have hv' : v = .bool c := V.bool_inv hv
  subst hv'
  refine wpAny_truthy_bool ?_
  cases c
  · cases e2
    exact q W1 _ s1 p1 (V.bool _) h1
  · have e2' : py st1 = some (c0, st') := e2
    exact hy.run a (S.mono p1.2) (b := .v (.bool c0)) (by unfold pB pbind; rw [e2']; rfl) h1 fun W2 v2 s2 p2 hv2 h2 => q W2 v2 s2 (p1.trans p2) hv2 h2

noncomputable def pUn (f : EV → Option EV) (p : PM EV) : PM EV := pbind p fun a => fun st => (f a).map fun r => (r, st)
noncomputable def negP : EV → Option EV
  | .v (.int i) => some (.v (.int (-i)))
  | _ => none
theorem ref_Neg {k : Nat} {x : Expr} {pos : Pos} {p : PM EV} (hx : Ref prog w F k (eval x F.env) (EVR prog w) p) : Ref prog w F k (eval (.UnaryOp .USub x pos) F.env) (EVR prog w) (pUn negP p) := by
  constructor
  intro A B W st b st' s Q E a S e h q
  obtain ⟨x, st1, e1, e2⟩ := pbind_some e
  obtain ⟨r, e5, e6⟩ := Option.map_eq_some_iff.mp e2
  cases e6
  refine wpAny_UnaryOp (hx.run a S e1 h fun W1 v1 s1 p1 hv1 h1 => ?_)
  unfold negP at e5
  split at e5
  · cases e5
    obtain ⟨t, rfl⟩ := V.int_inv hv1
    exact P.neg_int (q W1 _ _ p1 (V.int _ _) (h1.toks _))
  · cases e5
end Mine
end

section
open PySem PySem.W PyProof.Rows PySem.Calls
set_option maxRecDepth 10000
namespace Mine
variable {prog : Program} {w : World} {F : FE} {B : Base} {W : Wd} {st : PS} {s : Shared}

/-- a new list or tuple of values -/
theorem RR.newList (h : RR prog w F B W st s) {Q : Value → Shared → Prop} {vs : List Value} {xs : List PV} (hv : Vs prog w W.Z vs xs)
    (q : ∀ W' v s', W.le W' → EVR prog w W' v (.v (.lst xs)) → RR prog w F B W' st s' → Q v s') (tk : Nat := s.toks) : Q (.ref s.heap.objs.size) { s with heap := s.heap.push ⟨.type "list", none, .seq vs.toArray 0, #[]⟩, toks := tk } :=
  h.allocZ rfl (fun Z z e => V.lst' e (by simpa using hv.mono z)) q tk
theorem RR.newTuple (h : RR prog w F B W st s) {Q : Value → Shared → Prop} {vs : List Value} {xs : List PV} (hv : Vs prog w W.Z vs xs)
    (q : ∀ W' v s', W.le W' → EVR prog w W' v (.v (.tup xs)) → RR prog w F B W' st s' → Q v s') (tk : Nat := s.toks) : Q (.ref s.heap.objs.size) { s with heap := s.heap.push ⟨.type "tuple", none, .seq vs.toArray 0, #[]⟩, toks := tk } :=
  h.allocZ rfl (fun Z z e => V.tup' e (by simpa using hv.mono z)) q tk
theorem RR.newListM (S : ZStat prog w W.Z) (h : RR prog w F B W st s) {Q : Value → Shared → Prop} {vs : List Value} {xs : List PV} (hv : Vs prog w W.Z vs xs)
    (q : ∀ W' v s', W.le W' → EVR prog w W' v (.m st.own.length) → RR prog w F B W' { st with own := st.own ++ [some (.list xs)] } s' → Q v s') (tk : Nat := s.toks) : Q (.ref s.heap.objs.size) { s with heap := s.heap.push ⟨.type "list", none, .seq vs.toArray 0, #[]⟩, toks := tk } :=
  h.allocM (o := .list xs) S rfl (fun h' e => ⟨_, _, e, by simpa using hv⟩) q tk

noncomputable def addP (a b : EV) : PM EV := fun st => (iV a).elim ((sV a).elim ((listOf st a).bind fun xs => (listOf st b).bind fun ys => if xs.length + ys.length ≤ 1000 then some (.v (.lst (xs ++ ys)), st) else none)
  (fun x => (sV b).bind fun y => if x.length + y.length ≤ 1000 then some (.v (.str (x ++ y)), st) else none)) (fun x => (iV b).map fun y => (.v (.int (x + y)), st))

theorem op_add : OpRef prog w (binaryOp .Add) addP := by
  constructor
  intro F A B W st va vb a b r st' s Q E hA S ha hb e h q
  rcases elim_cases e with e | ⟨x, ex, e⟩
  · rcases elim_cases e with e | ⟨x, ex, e⟩
    · obtain ⟨xs, e1, e⟩ := bind_some e
      obtain ⟨ys, e2, e⟩ := bind_some e
      obtain ⟨hz, rfl, rfl⟩ := ite_some e
      obtain ⟨x, vs, n, rfl, g, hv⟩ := list_at h ha e1
      obtain ⟨y, us, n', rfl, g', hu⟩ := list_at h hb e2
      have l1 := hv.length
      have l2 := hu.length
      rw [Array.length_toList] at l1 l2
      refine P.add_list g g' ?_ (by rw [sizeLine_eq]; omega)
      have hh : (vs ++ us) = (vs.toList ++ us.toList).toArray := by simp
      rw [hh]
      exact h.newList (hv.append hu) q
    · obtain ⟨y, ey, e⟩ := bind_some e
      obtain ⟨hz, rfl, rfl⟩ := ite_some e
      obtain ⟨t, rfl⟩ := sV_inv ex ha
      obtain ⟨u, rfl⟩ := sV_inv ey hb
      exact PyProof.Rows.add_str (fun t' tk => q W _ _ (.refl _) (V.str _ _) (h.toks _)) (by rw [sizeLine_eq]; omega)
  · obtain ⟨y, ey, rfl, rfl⟩ := map_pair e
    obtain ⟨t, rfl⟩ := iV_inv ex ha
    obtain ⟨u, rfl⟩ := iV_inv ey hb
    exact P.add_int (q W _ _ (.refl _) (V.int _ _) (h.toks _))

noncomputable def intP (f : Int → Int → Option Int) (a b : EV) : PM EV := fun st => (iV a).bind fun x => (iV b).bind fun y => (f x y).map fun c => (.v (.int c), st)
theorem op_int {op : Operator} {f : Int → Int → Option Int}
    (hop : ∀ {A : Around} {s : Shared} {a b c : Int} {t u : Tok} {Q : Value → Shared → Prop} {E : Value → Shared → Prop}, f a b = some c → (∀ tk t', Q (.int c t') { s with toks := tk }) → wpAny (model prog w) A (binaryOp op (.int a t) (.int b u)) Q E s) :
    OpRef prog w (binaryOp op) (intP f) := by
  constructor
  intro F A B W st va vb a b r st' s Q E hA S ha hb e h q
  obtain ⟨x, ex, e⟩ := bind_some e
  obtain ⟨y, ey, e⟩ := bind_some e
  obtain ⟨c, e1, rfl, rfl⟩ := map_pair e
  obtain ⟨t, rfl⟩ := iV_inv ex ha
  obtain ⟨u, rfl⟩ := iV_inv ey hb
  exact hop e1 fun tk t' => q W _ _ (.refl _) (V.int _ _) (h.toks _)
noncomputable def subI (a b : Int) : Option Int := some (a - b)
noncomputable def modI (a b : Int) : Option Int := if b = 0 then none else some (a.fmod b)
noncomputable def divI (a b : Int) : Option Int := if b = 0 ∨ Builtin.divisionGoesByPylong a b = true then none else some (a.fdiv b)
noncomputable def mulI (a b : Int) : Option Int := if a.natAbs < 2 ^ 60 then some (a * b) else none
noncomputable def powI (a b : Int) : Option Int := if 0 ≤ b ∧ b ≤ 1000 ∧ a.natAbs < 2 ^ 64 then some (a ^ b.toNat) else none
theorem op_sub : OpRef prog w (binaryOp .Sub) (intP subI) := op_int fun e q => by cases e; exact P.sub_int (q _ _)
theorem op_mod : OpRef prog w (binaryOp .Mod) (intP modI) := op_int fun e q => by
  unfold modI at e
  split at e
  · cases e
  · cases e; exact mod_int' ‹_› (q _ _)
theorem op_div : OpRef prog w (binaryOp .FloorDiv) (intP divI) := op_int fun e q => by
  unfold divI at e
  split at e
  · cases e
  · rename_i hc
    cases e
    exact floordiv_int (fun z => hc (.inl z)) (q _ _) (.inl (by
      cases q : Builtin.divisionGoesByPylong _ _ with
      | false => rfl
      | true => exact absurd (.inr q) hc))
theorem op_pow : OpRef prog w (binaryOp .Pow) (intP powI) := op_int fun e q => by
  unfold powI at e
  split at e
  · rename_i hc
    cases e
    exact pow_int_small hc.1 (by omega) hc.2.2 (q _ _)
  · cases e

/-- int * int, str * (0 or 1), list * int -/
noncomputable def one : List PV → Option PV
  | [x] => some x
  | _ => none
theorem one_inv {xs : List PV} {x : PV} (h : one xs = some x) : xs = [x] := by
  rcases xs with _ | ⟨y, _ | ⟨z, r⟩⟩
  · cases h
  · cases h; rfl
  · cases h
noncomputable def lV : EV → Option (List PV)
  | .v (.lst xs) => some xs
  | _ => none
theorem lV_inv {a : EV} {x : List PV} (h : lV a = some x) : a = .v (.lst x) := by
  cases a with
  | m i => cases h
  | v p => cases p with
    | lst i => cases h; rfl
    | _ => cases h
noncomputable def mulP (a b : EV) : PM EV := fun st => (iV b).bind fun n => (iV a).elim ((sV a).elim ((lV a).bind fun xs => (one xs).bind fun x => if 0 < n ∧ n ≤ 1000 then some (.v (.lst (List.replicate n.toNat x)), st) else none)
  (fun x => if n = 0 then some (.v (.str Str.empty), st) else if n = 1 then some (.v (.str x), st) else none)) (fun x => (mulI x n).map fun c => (.v (.int c), st))
theorem bits_small {a : Int} (h : a.natAbs < 2 ^ 60) : Builtin.Int.intBits a ≤ 64 := PySem.W.X.bits_le (k := a) (by omega) (by omega) |> fun x => by rw [PySem.W.X.oBits.2] at x; exact x
theorem foldl_single (v : Value) : ∀ n : Nat, (List.replicate n #[v]).foldl (fun x1 x2 => x1 ++ x2) #[] = (List.replicate n v).toArray := by
  have key : ∀ n (acc : Array Value), (List.replicate n #[v]).foldl (fun x1 x2 => x1 ++ x2) acc = acc ++ (List.replicate n v).toArray := by
    intro n
    induction n with
    | zero => intro acc; simp
    | succ n ih =>
      intro acc
      rw [List.replicate_succ, List.foldl_cons, ih, List.replicate_succ]
      apply Array.ext'
      simp
  intro n
  rw [key n #[]]; simp
theorem op_mul : OpRef prog w (binaryOp .Mult) mulP := by
  constructor
  intro F A B W st va vb a b r st' s Q E hA S ha hb e h q
  obtain ⟨n, en, e⟩ := bind_some e
  obtain ⟨u, rfl⟩ := iV_inv en hb
  rcases elim_cases e with e | ⟨x, ex, e⟩
  · rcases elim_cases e with e | ⟨x, ex, e⟩
    · obtain ⟨xs, e1, e⟩ := bind_some e
      obtain ⟨x, e2, e⟩ := bind_some e
      obtain ⟨hz, rfl, rfl⟩ := ite_some e
      obtain rfl := lV_inv e1
      obtain rfl := one_inv e2
      obtain ⟨y, vs, k, rfl, g, hv⟩ := list_at h ha rfl
      obtain ⟨l⟩ := vs
      cases hv with
      | cons hx hn =>
        cases hn
        rename_i v
        refine wpAny_binaryOp_repeat_ref (T := "list") (U := "int") (by decide) ⟨_, g, rfl⟩ (fun s' => typeIs_int s' n u) noFill_list_mul PySem.F.fills_int_mul PySem.F.slot_int_rmul repeat_list PySem.F.slot_int_index.lookup
          (call_meets PySem.F.slot_int_rmul (typeIs_int s n u) PySem.F.entry_int_rmul (PySem.F.args_int_rmul_2 _ _) (int___rmul___int_list n u y #[v] k)
            ⟨g, rfl, ⟨_, g, rfl⟩, call_meets PySem.F.slot_list_mul ⟨_, g, rfl⟩ PySem.F.entry_list_mul (PySem.F.args_list_mul_2 _ _)
              (AutoListH.list___mul___list_int_3 y #[v] k n u (by simp [Builtin.List.listFitsIndex]; omega) (by simp; omega) (by simp [Builtin.List.listTooLong, sizeLine]; omega))
              ⟨g, ?_⟩⟩)
        have ee : (List.replicate (if (#[v] : Array Value).isEmpty = true then 0 else n.toNat) #[v]).foldl (fun x1 x2 => x1 ++ x2) #[] = (List.replicate n.toNat v).toArray := foldl_single v _
        rw [ee]
        exact h.newList (Vs.replicate hx _) q
    · obtain ⟨t, rfl⟩ := sV_inv ex ha
      by_cases h0 : n = 0
      · subst h0
        cases e
        refine SB.mul ⟨by decide, fun hn => absurd (by decide) hn, fun hn => absurd (by decide) hn⟩ fun t' k => ?_
        exact q W _ _ (.refl _) (V.str _ _) (h.toks _)
      · rw [if_neg h0] at e
        obtain ⟨rfl, rfl, rfl⟩ := ite_some e
        refine SB.mul ⟨by decide, fun _ hn => Bool.noConfusion hn, fun _ hn => Bool.noConfusion hn⟩ fun t' k => ?_
        exact q W _ _ (.refl _) (V.str _ _) (h.toks _)
  · obtain ⟨t, rfl⟩ := iV_inv ex ha
    obtain ⟨c, e1, rfl, rfl⟩ := map_pair e
    by_cases hz : x.natAbs < 2 ^ 60
    · rw [show mulI x n = some (x * n) from if_pos hz] at e1
      cases e1
      exact P.mul_int (q W _ _ (.refl _) (V.int _ _) (h.toks _)) (IntMulOk.of_left (bits_small hz))
    · rw [show mulI x n = none from if_neg hz] at e1
      cases e1
end Mine
end

section
open PySem PySem.W PyProof.Rows PySem.Calls
set_option maxRecDepth 10000
namespace Mine
variable {prog : Program} {w : World} {F : FE} {B : Base} {W : Wd} {st : PS} {s : Shared}

noncomputable abbrev okIdx (k : Int) : Prop := -(2 ^ 40) < k ∧ k < 2 ^ 40

noncomputable def subP (a b : EV) : PM EV := fun st => (iV b).bind fun k => (tV a).elim ((sV a).elim ((listOf st a).bind fun xs => if 0 ≤ k ∧ okIdx k then (xs[k.toNat]?).map fun v => (.v v, st) else none)
  (fun x => if okIdx k then ((seqIndex? k x.length).bind fun i => x.cps[i]?).map fun c => (.v (.str ⟨#[c]⟩), st) else none)) (fun xs => if okIdx k then ((seqIndex? k xs.length).bind fun i => xs[i]?).map fun v => (.v v, st) else none)
theorem ite_of {α : Type} {c : Prop} [Decidable c] {x : Option α} {y : α} (h : (if c then x else none) = some y) : c ∧ x = some y := by
  by_cases hc : c
  · rw [if_pos hc] at h; exact ⟨hc, h⟩
  · rw [if_neg hc] at h; cases h

theorem ref_Sub {k : Nat} {value slice : Expr} {pos : Pos} {pv pi : PM EV} (hv : Ref prog w F k (eval value F.env) (EVR prog w) pv) (hi : Ref prog w F k (eval slice F.env) (EVR prog w) pi)
    (hs : ∀ o i, subscripted slice false o i = operate [o, i] (getItem o i) := by intro _ _; rfl) : Ref prog w F k (eval (.Subscript value slice pos) F.env) (EVR prog w) (pBin subP pv pi) := by
  constructor
  intro A B W st b st' s Q E a S e h q
  obtain ⟨x, st1, e1, e2⟩ := pbind_some e
  obtain ⟨y, st2, e3, e4⟩ := pbind_some e2
  refine Subscript_ (hv.run a S e1 h fun W1 v1 s1 p1 hv1 h1 => hi.run a (S.mono p1.2) e3 h1 fun W2 v2 s2 p2 hv2 h2 => ?_)
  have hv1 := hv1.mono p2
  have q2 := fun v (hv : EVR prog w W2 v b) (h3 : RR prog w F B W2 st' s2) => q W2 v s2 (p1.trans p2) hv h3
  obtain ⟨i, ei, e4⟩ := bind_some e4
  obtain ⟨u, rfl⟩ := iV_inv ei hv2
  rcases elim_cases e4 with e4 | ⟨xs, ex, e4⟩
  · rcases elim_cases e4 with e4 | ⟨xs, ex, e4⟩
    · obtain ⟨xs, eo, e4⟩ := bind_some e4
      obtain ⟨hc, e4⟩ := ite_of e4
      obtain ⟨z, e5, rfl, rfl⟩ := map_pair e4
      obtain ⟨l, vs, n, rfl, g, hl⟩ := list_at h2 hv1 eo
      obtain ⟨v, ev, hvv⟩ := hl.get e5
      exact tail_any (ops := _) ⟨_, g, rfl⟩ slot_list_getitem.lookup (wpAny_getItem_list ⟨_, g, rfl, n, rfl⟩ hc.1 (Int.lt_trans hc.2.2 (by decide)) (by simpa using ev) (q2 v hvv h2)) (hs _ _)
    · obtain ⟨t, rfl⟩ := sV_inv ex hv1
      obtain ⟨hc, e4⟩ := ite_of e4
      obtain ⟨c, e5, rfl, rfl⟩ := map_pair e4
      refine tail_any (ops := _) (typeIs_str _ _ _) PySem.F.slot_str_getitem.lookup (P.getItem_str (c := c) ?_ e5 (q W2 _ _ (p1.trans p2) (V.str _ _) (h2.toks _))) (hs _ _)
      have := hc.1
      have := hc.2
      simp; omega
  · obtain ⟨hc, e4⟩ := ite_of e4
    obtain ⟨z, e5, rfl, rfl⟩ := map_pair e4
    obtain ⟨j, ej, ex'⟩ := bind_some e5
    obtain ⟨l, vs, n, rfl, g, hl⟩ := V.tup_inv (tV_inv ex hv1)
    have g := h2.zk _ _ g
    obtain ⟨v, ev, hvv⟩ := hl.get ex'
    exact tail_any (ops := _) ⟨_, g, rfl⟩ slot_tuple_getitem.lookup (getItem_tuple ⟨_, g, rfl, n, rfl⟩ (by have := hc.1; omega) (by have := hc.2; omega) (j := j) (by rw [← Array.length_toList, hl.length]; exact ej) (by simpa using ev) (q2 v hvv h2)) (hs _ _)

/-- an item of the table of operators -/
noncomputable def exactP (a : EV) : PM EV := fun st => (sV a).bind fun x => (x.cps.toList.head?).bind fun c => if x = ⟨#[c]⟩ then (exactTab.lookup c).map fun i => (.v (.int i), st) else none
theorem mem_of_lookup' {α β : Type} [BEq α] [LawfulBEq α] {l : List (α × β)} {a : α} {b : β} (h : l.lookup a = some b) : (a, b) ∈ l := by
  induction l with
  | nil => cases h
  | cons x r ih =>
    obtain ⟨c, d⟩ := x
    rw [List.lookup_cons] at h
    cases q : a == c with
    | true => rw [q] at h; cases h; rw [eq_of_beq q]; exact .head _
    | false => rw [q] at h; exact .tail _ (ih h)
theorem ref_Exact (ok : F.Ok) {k : Nat} {slice : Expr} {p1 pos : Pos} {pi : PM EV} (hk : F.env.kindOf "EXACT_TOKEN_TYPES" = some .globalImplicit) (hi : Ref prog w F k (eval slice F.env) (EVR prog w) pi)
    (hs : ∀ o i, subscripted slice false o i = operate [o, i] (getItem o i) := by intro _ _; rfl) : Ref prog w F k (eval (.Subscript (.Name "EXACT_TOKEN_TYPES" p1) slice pos) F.env) (EVR prog w) (pbind pi exactP) := by
  constructor
  intro A B W st b st' s Q E a S e h q
  obtain ⟨x, st1, e1, e2⟩ := pbind_some e
  refine Subscript_ (global_val ok S h (x := "EXACT_TOKEN_TYPES") (v := .ref 71) (by decide) hk (hi.run a S e1 h fun W1 v1 s1 p1 hv1 h1 => ?_))
  obtain ⟨z, ez, e2⟩ := bind_some e2
  obtain ⟨c, _, e2⟩ := bind_some e2
  obtain ⟨ec, e2⟩ := ite_of e2
  obtain ⟨i, e3, rfl, rfl⟩ := map_pair e2
  subst ec
  obtain ⟨t, rfl⟩ := sV_inv ez hv1
  obtain ⟨f, hm, hf⟩ := (h1.stat (S.mono p1.2)).exact
  obtain ⟨t', ht'⟩ := hf _ (mem_of_lookup' e3)
  exact tail_any (ops := _) hm.typeIs slot_dict_getitem.lookup (wpAny_getItem_of (strKind_is prog w _ t) hm ht' (q W1 _ _ p1 (V.int _ _) (h1.toks _))) (hs _ _)

/-- slices -/
noncomputable def endV (a : EV) : Option (Option Int) := (iV a).elim ((nV a).map fun _ => none) (fun i => some (some i))
noncomputable def sliceP (a b c : EV) : PM EV := fun st => (nV b).elim ((iV b).bind fun i => (sV a).elim ((listOf st a).bind fun xs => (nV c).bind fun _ => if 0 ≤ i ∧ xs.length ≤ 1000 then some (.v (.lst (xs.drop i.toNat)), st) else none)
  (fun x => (endV c).bind fun j => if x.length ≤ 1000 then some (.v (.str (Txt.slice x (some i) j)), st) else none)) (fun _ => (listOf st a).bind fun xs => (iV c).bind fun k => if 0 ≤ k ∧ xs.length ≤ 1000 then some (.v (.lst (xs.take k.toNat)), st) else none)
noncomputable def pOpt : Option (PM EV) → PM EV
  | some p => p
  | none => pRet (.v .none)
noncomputable def POptRef (prog : Program) (w : World) (F : FE) (k : Nat) : Option Expr → Option (PM EV) → Prop
  | some e, some p => Ref prog w F k (eval e F.env) (EVR prog w) p
  | none, none => True
  | _, _ => False
theorem ref_part_none {k : Nat} : Ref prog w F k (evalPart none F.env) (EVR prog w) (pRet (.v .none)) := by
  constructor
  intro A B W st b st' s Q E a S e h q
  cases e
  rw [evalPart_none]
  exact wpAny_pure (q W _ _ (.refl _) V.none h)
theorem ref_part {k : Nat} {e : Option Expr} {p : Option (PM EV)} (h : POptRef prog w F k e p) : Ref prog w F k (evalPart e F.env) (EVR prog w) (pOpt p) := by
  cases e <;> cases p
  · exact ref_part_none
  · exact h.elim
  · exact h.elim
  · exact h
noncomputable def pSlice (pv : PM EV) (lo hi : Option (PM EV)) : PM EV := pbind pv fun a => pbind (pOpt lo) fun b => pbind (pOpt hi) fun c => sliceP a b c

theorem slice_to (vs : Array Value) {k : Int} (h : 0 ≤ k) : slicePick vs none (some k) none = (vs.toList.take k.toNat).toArray := by
  have := slicePick_upto' vs k.toNat
  rwa [show ((k.toNat : Nat) : Int) = k from by omega] at this
theorem slice_from (vs : Array Value) {k : Int} (h : 0 ≤ k) : slicePick vs (some k) none none = (vs.toList.drop k.toNat).toArray := by
  have := slicePick_from' vs k.toNat
  rwa [show ((k.toNat : Nat) : Int) = k from by omega] at this

theorem ref_Slice {k : Nat} {value : Expr} {lower upper : Option Expr} {p pos : Pos} {pv : PM EV} {lo hi : Option (PM EV)} (hv : Ref prog w F k (eval value F.env) (EVR prog w) pv) (hl : POptRef prog w F k lower lo) (hu : POptRef prog w F k upper hi) :
    Ref prog w F k (eval (.Subscript value (.Slice lower upper none p) pos) F.env) (EVR prog w) (pSlice pv lo hi) := by
  constructor
  intro A B W st b st' s Q E a S e h q
  obtain ⟨x, st1, e1, e⟩ := pbind_some e
  obtain ⟨y, st2, e2, e⟩ := pbind_some e
  obtain ⟨z, st3, e3, e⟩ := pbind_some e
  refine Subscript_ (hv.run a S e1 h fun W1 v1 s1 p1 hv1 h1 => wpAny_Slice ((ref_part hl).run a (S.mono p1.2) e2 h1 fun W2 v2 s2 p2 hv2 h2 => (ref_part hu).run a (S.mono (p1.trans p2).2) e3 h2 fun W3 v3 s3 p3 hv3 h3 => ?_))
  rw [evalPart_none]
  refine wpAny_pure ?_
  have hv1 := (hv1.mono p2).mono p3
  have hv2 := hv2.mono p3
  have pp := (p1.trans p2).trans p3
  have h4 : RR prog w F B W3 st3 { s3 with heap := s3.heap.push { cls := .type "slice", data := .fields #[v2, v3, .none] } } := h3.ext (tk := s3.toks) (pushKeeps _)
  have hsl : ({ s3 with heap := s3.heap.push { cls := .type "slice", data := .fields #[v2, v3, .none] } } : Shared).heap.IsSliceOf s3.heap.objs.size v2 v3 .none := Heap.IsSliceOf.new ..
  have q2 := fun W' v s' (pq : W3.le W') (hv : EVR prog w W' v b) (h3 : RR prog w F B W' st' s') => q W' v s' (pp.trans pq) hv h3
  rcases elim_cases e with e | ⟨_, en, e⟩
  · obtain ⟨i, ei, e⟩ := bind_some e
    obtain ⟨u, rfl⟩ := iV_inv ei hv2
    rcases elim_cases e with e | ⟨x, ex, e⟩
    · obtain ⟨xs, eo, e⟩ := bind_some e
      obtain ⟨_, en, e⟩ := bind_some e
      obtain ⟨hc, rfl, rfl⟩ := ite_some e
      obtain ⟨l, vs, n, rfl, g, hl⟩ := list_at h4 hv1 eo
      obtain rfl := nV_inv en hv3
      have ln := hl.length
      rw [Array.length_toList] at ln
      refine tail_any (ops := _) ⟨_, g, rfl⟩ slot_list_getitem.lookup (wpAny_getItem_list_slice ⟨_, g, rfl, n, rfl⟩ hsl (.int _ u) .none .none (by simp) ?_ (by rw [sizeLine_eq]; omega)) rfl
      rw [slice_from vs hc.1]
      exact h4.newList (hl.drop _) q2
    · obtain ⟨j, ej, e⟩ := bind_some e
      obtain ⟨hz, rfl, rfl⟩ := ite_some e
      obtain ⟨t, rfl⟩ := sV_inv ex hv1
      rcases elim_cases ej with ej | ⟨j', ej', ej⟩
      · obtain ⟨_, en, ej⟩ := Option.map_eq_some_iff.mp ej
        subst ej
        obtain rfl := nV_inv en hv3
        obtain ⟨T, id, hl, hT, hg⟩ := SBH.sliceItem_sn (prog := prog) (w := w) (A := A) (E := E) (t := t) (ui := u) (s := s3) (Q := Q) (P := fun h' => ∀ b o, s3.heap.get? b = some o → h'.get? b = some o) (fun h ob k b o e => pushKeeps ob _ _ (k b o e)) (fun _ _ e => e)
          (fun h' t' k hk => q W3 _ _ pp (V.str _ _) (h3.ext hk)) (by rw [sizeLine_eq]; omega)
        exact tail_any (ops := _) hT hl hg rfl
      · cases ej
        obtain ⟨u', rfl⟩ := iV_inv ej' hv3
        obtain ⟨T, id, hl, hT, hg⟩ := SBH.sliceItem_ss (prog := prog) (w := w) (A := A) (E := E) (t := t) (ui := u) (uj := u') (s := s3) (Q := Q) (P := fun h' => ∀ b o, s3.heap.get? b = some o → h'.get? b = some o) (fun h ob k b o e => pushKeeps ob _ _ (k b o e)) (fun _ _ e => e)
          (fun h' t' k hk => q W3 _ _ pp (V.str _ _) (h3.ext hk)) (by rw [sizeLine_eq]; omega)
        exact tail_any (ops := _) hT hl hg rfl
  · obtain ⟨xs, eo, e⟩ := bind_some e
    obtain ⟨k, ek, e⟩ := bind_some e
    obtain ⟨hc, rfl, rfl⟩ := ite_some e
    obtain ⟨l, vs, n, rfl, g, hl⟩ := list_at h4 hv1 eo
    obtain ⟨u, rfl⟩ := iV_inv ek hv3
    obtain rfl := nV_inv en hv2
    have ln := hl.length
    rw [Array.length_toList] at ln
    refine tail_any (ops := _) ⟨_, g, rfl⟩ slot_list_getitem.lookup (wpAny_getItem_list_slice ⟨_, g, rfl, n, rfl⟩ hsl .none (.int _ u) .none (by simp) ?_ (by rw [sizeLine_eq]; omega)) rfl
    rw [slice_to vs hc.1]
    exact h4.newList (hl.take _) q2
end Mine
end

section
open PySem PySem.W PyProof.Rows PySem.Calls
set_option maxRecDepth 10000
namespace Mine
variable {prog : Program} {w : World} {F : FE} {B : Base} {W : Wd} {st : PS} {s : Shared}

inductive PF where
  | next
  | ret (e : EV)
noncomputable def FR (prog : Program) (w : World) (W : Wd) : Flow → PF → Prop
  | .next, .next => True
  | .ret v, .ret e => EVR prog w W v e
  | _, _ => False

/-- targets: places of names that may be stored to -/
noncomputable def FE.Wr (F : FE) (x : Str) : Prop := ∀ c, F.env.cells.lookup x = some c → F.env.kindOf x = some .cell → c ∈ F.pc

noncomputable def pStore (i : Nat) (e : EV) : PM Unit := fun st => if i < st.loc.length then some ((), setL i e st) else none
/-- a target takes a value -/
noncomputable def TRefT (prog : Program) (w : World) (F : FE) (T : Expr) (asg : PV → PM Unit) : Prop :=
  ∀ {A : Around} {B : Base} {W : Wd} {st : PS} {v : Value} {x : PV} {st' : PS} {s : Shared} {Q : Unit → Shared → Prop} {E : Value → Shared → Prop},
    A.handled = none → V prog w W.Z v x → asg x st = some ((), st') → RR prog w F B W st s →
    (∀ s', RR prog w F B W st' s' → Q () s') → wpAny (model prog w) A (assign T F.env v) Q E s

structure TRef (prog : Program) (w : World) (F : FE) (T : Expr) (asg : PV → PM Unit) : Prop where
  run : TRefT prog w F T asg

theorem tref_Name (ok : F.Ok) {i : Nat} {x : Str} {pos : Pos} (hi : F.nm[i]? = some x) (hw : F.Wr x) : TRef prog w F (.Name x pos) (fun v => pStore i (.v v)) := by
  constructor
  intro A B W st v p st' s Q E hh hv e h q
  simp only [pStore] at e
  split at e
  · cases e
    exact wpAny_assign_Name (store_ref ok h hi (show EVR prog w W v (.v p) from hv) hw q)
  · cases e
noncomputable def pT2 (a b : PV → PM Unit) : PV → PM Unit
  | .tup [u, v] => pbind (a u) fun _ => b v
  | _ => fun _ => none
theorem tup_heap {Z : Frz} {h : Heap} {v : Value} {xs : List PV} (zk : Z.In h) (x : V prog w Z v (.tup xs)) : ∃ a vs, v = .ref a ∧ h.IsTuple a vs ∧ Vs prog w Z vs.toList xs := by
  obtain ⟨a, vs, n, rfl, g, hs⟩ := V.tup_inv x
  exact ⟨a, vs, rfl, ⟨_, zk _ _ g, rfl, _, rfl⟩, hs⟩
theorem RR.extBut (h : RR prog w F B W st s) {h' : Heap} (hx : Heap.ExtBut s.heap.objs.size s.heap h') : RR prog w F B W st { s with heap := h' } :=
  h.ext (tk := s.toks) fun b o e => hx b o (Nat.ne_of_lt (Heap.lt_size e)) e
theorem tref_Tuple2 {a b : Expr} {k : Nat} {pos : Pos} {pa pb : PV → PM Unit} (ha : TRef prog w F a pa) (hb : TRef prog w F b pb)
    (hs : assignEach [a, b] F.env = [(false, assign a F.env), (false, assign b F.env)] := by rfl) : TRef prog w F (.Tuple [a, b] k pos) (pT2 pa pb) := by
  constructor
  intro A B W st v p st' s Q E hh hv e h q
  unfold pT2 at e
  split at e
  · rename_i u x
    obtain ⟨_, st1, e1, e2⟩ := pbind_some e
    obtain ⟨l, vs, rfl, ht, hvs⟩ := tup_heap h.zk hv
    obtain ⟨vl⟩ := vs
    cases hvs with
    | cons hu hx =>
      cases hx with
      | cons hx hn =>
        cases hn
        refine wpAny_assign_Tuple hh ht (by rw [hs]; rfl) (by rw [hs]; rfl) fun h' hx' => ?_
        rw [hs]
        refine wpAny_assignInOrder_more (ha.run hh hu e1 (h.extBut hx') fun s1 h1 => ?_)
        exact wpAny_assignInOrder_more (hb.run hh hx e2 h1 fun s2 h2 => wpAny_assignInOrder_none (q _ h2))
  · cases e
noncomputable def pT3 (a b c : PV → PM Unit) : PV → PM Unit
  | .tup [u, v, x] => pbind (a u) fun _ => pbind (b v) fun _ => c x
  | _ => fun _ => none
theorem tref_Tuple3 {a b c : Expr} {k : Nat} {pos : Pos} {pa pb pc : PV → PM Unit} (ha : TRef prog w F a pa) (hb : TRef prog w F b pb) (hc : TRef prog w F c pc)
    (hs : assignEach [a, b, c] F.env = [(false, assign a F.env), (false, assign b F.env), (false, assign c F.env)] := by rfl) : TRef prog w F (.Tuple [a, b, c] k pos) (pT3 pa pb pc) := by
  constructor
  intro A B W st v p st' s Q E hh hv e h q
  unfold pT3 at e
  split at e
  · rename_i u x y
    obtain ⟨_, st1, e1, e2⟩ := pbind_some e
    obtain ⟨_, st2, e2, e3⟩ := pbind_some e2
    obtain ⟨l, vs, rfl, ht, hvs⟩ := tup_heap h.zk hv
    obtain ⟨vl⟩ := vs
    cases hvs with
    | cons hu hx =>
      cases hx with
      | cons hx hy =>
        cases hy with
        | cons hy hn =>
          cases hn
          refine wpAny_assign_Tuple hh ht (by rw [hs]; rfl) (by rw [hs]; rfl) fun h' hx' => ?_
          rw [hs]
          refine wpAny_assignInOrder_more (ha.run hh hu e1 (h.extBut hx') fun s1 h1 => ?_)
          refine wpAny_assignInOrder_more (hb.run hh hx e2 h1 fun s2 h2 => ?_)
          exact wpAny_assignInOrder_more (hc.run hh hy e3 h2 fun s3 h3 => wpAny_assignInOrder_none (q _ h3))
  · cases e

/-- hidden things that a loop turns: the base shows them as they stand -/
noncomputable def Base.over (B : Base) (wr : List Addr) (wg : List Nat) (s : Shared) : Base := { B with get := fun b => if b ∈ wr then s.heap.get? b else B.get b, gen := fun i => if i ∈ wg then s.gens[i]? else B.gen i }
noncomputable def Alive (wr : List Addr) (wg : List Nat) (s : Shared) : Prop := (∀ b ∈ wr, ∃ o, s.heap.get? b = some o) ∧ ∀ i ∈ wg, ∃ x, s.gens[i]? = some x
noncomputable def FE.Off (F : FE) (wr : List Addr) : Prop := ∀ x c, F.env.cells.lookup x = some c → c ∉ wr
theorem RR.off (h : RR prog w F B W st s) {wr : List Addr} (hn : ∀ b ∈ wr, s.heap.get? b = none) : F.Off wr := fun x c e m => by
  rcases h.cfix x c e with r | ⟨o, r⟩
  · obtain ⟨o, g⟩ := h.alive c (.tail _ (List.mem_append_left _ r)); rw [hn c m] at g; cases g
  · have := h.keep _ _ r; rw [hn c m] at this; cases this
/-- one state grows to another: all stands, new generators are in wg or finished -/
structure Grows (wg : List Nat) (s s' : Shared) : Prop where
  heap : ∀ b o, s.heap.get? b = some o → s'.heap.get? b = some o
  drawn : s'.drawn = s.drawn
  os : s'.os = s.os
  gens : ∀ (i : Nat) (x : GenState), s.gens[i]? = some x → s'.gens[i]? = some x
  fin : ∀ (i : Nat) (x : GenState), s.gens[i]? = none → s'.gens[i]? = some x → x = .finished ∨ i ∈ wg

theorem RR.enter (h : RR prog w F B W st s) {s' : Shared} {wr : List Addr} {wg : List Nat} (hk : Grows wg s s') (hn : ∀ b ∈ wr, s.heap.get? b = none) (hg : ∀ i ∈ wg, s.gens[i]? = none) (ha : Alive wr wg s') :
    RR prog w F (B.over wr wg s') W st s' := by
  have hm : ∀ b ∈ wr, W.Z b = none ∧ b ∉ F.env.locals :: (F.pc ++ W.ρ) := fun b hb => by
    refine ⟨?_, fun m => ?_⟩
    · cases q : W.Z b with
      | none => rfl
      | some o => have := h.zk _ _ q; rw [hn b hb] at this; cases this
    · obtain ⟨o, e⟩ := h.alive b m; rw [hn b hb] at e; cases e
  exact {
    keep := fun b o e => by
      simp only [Base.over] at e
      split at e
      · exact e
      · exact hk.heap _ _ (h.keep b o e)
    zk := fun b o e => hk.heap b o (h.zk b o e)
    rest := {
      drawn := hk.drawn.trans h.rest.drawn
      os := hk.os.trans h.rest.os
      gens := fun i x e => by
        simp only [Base.over] at e
        split at e
        · exact e
        · exact hk.gens i x (h.rest.gens i x e)
      fin := fun i x e e' => by
        simp only [Base.over] at e
        split at e
        · rw [e] at e'; cases e'
        · rename_i hi
          cases q : s.gens[i]? with
          | none => exact (hk.fin i x q e').resolve_right hi
          | some y =>
            have := hk.gens i y q
            rw [e'] at this; cases this
            exact h.rest.fin i _ e q }
    ll := h.ll
    locs := let ⟨m, n, r⟩ := h.locs; ⟨m, n.keeps hk.heap, r⟩
    cels := fun i x c e k l => let ⟨ov, q, r⟩ := h.cels i x c e k l; ⟨ov, q.keeps hk.heap, r⟩
    cfix := fun y c e => by
      rcases h.cfix y c e with r | ⟨o, r⟩
      · exact .inl r
      · refine .inr ?_
        simp only [Base.over]
        split
        · exact ha.1 c (by assumption)
        · exact ⟨o, r⟩
    objs := fun i o e => let ⟨a, g, r⟩ := h.objs i o e; ⟨a, g, r.mono (.refl _) fun o e => hk.heap a o e⟩
    len := h.len
    nd := h.nd
    dis := fun b o e => by
      simp only [Base.over] at e
      split at e
      · exact hm b (by assumption)
      · exact h.dis b o e
    fpriv := h.fpriv
    alive := fun a m => let ⟨o, e⟩ := h.alive a m; ⟨o, hk.heap a o e⟩
    fown := h.fown
    low := h.low }

/-- the hidden things turn, the rest stands -/
structure Turns (wr : List Addr) (wg : List Nat) (s s' : Shared) : Prop where
  heap : ∀ b o, b ∉ wr → s.heap.get? b = some o → s'.heap.get? b = some o
  drawn : s'.drawn = s.drawn
  os : s'.os = s.os
  gens : ∀ (i : Nat) (x : GenState), i ∉ wg → s.gens[i]? = some x → s'.gens[i]? = some x
  fin : ∀ (i : Nat) (x : GenState), i ∉ wg → s.gens[i]? = none → s'.gens[i]? = some x → x = .finished

theorem RR.turn {wr : List Addr} {wg : List Nat} {s' : Shared} (hoff : F.Off wr) (h : RR prog w F (B.over wr wg s) W st s) (ha : Alive wr wg s) (hk : Turns wr wg s s') : RR prog w F (B.over wr wg s') W st s' := by
  have hm : ∀ b ∈ wr, W.Z b = none ∧ b ∉ F.env.locals :: (F.pc ++ W.ρ) := fun b hb => by
    obtain ⟨o, e⟩ := ha.1 b hb
    exact h.dis b o (by simp only [Base.over]; rw [if_pos hb]; exact e)
  have ho : ∀ b, b ∈ F.env.locals :: (F.pc ++ W.ρ) → b ∉ wr := fun b hb hw => (hm b hw).2 hb
  exact {
    keep := fun b o e => by
      simp only [Base.over] at e
      split at e
      · exact e
      · rename_i hb
        exact hk.heap b o hb (h.keep b o (by simp only [Base.over]; rw [if_neg hb]; exact e))
    zk := fun b o e => hk.heap b o (fun hb => by rw [(hm b hb).1] at e; cases e) (h.zk b o e)
    rest := {
      drawn := hk.drawn.trans h.rest.drawn
      os := hk.os.trans h.rest.os
      gens := fun i x e => by
        simp only [Base.over] at e
        split at e
        · exact e
        · rename_i hi
          exact hk.gens i x hi (h.rest.gens i x (by simp only [Base.over]; rw [if_neg hi]; exact e))
      fin := fun i x e e' => by
        simp only [Base.over] at e
        split at e
        · rw [e] at e'; cases e'
        · rename_i hi
          cases q : s.gens[i]? with
          | none => exact hk.fin i x hi q e'
          | some y =>
            have := hk.gens i y hi q
            rw [e'] at this; cases this
            exact h.rest.fin i _ (by simp only [Base.over]; rw [if_neg hi]; exact e) q }
    ll := h.ll
    locs := let ⟨m, ⟨oL, es, ep, g, q⟩, r⟩ := h.locs; ⟨m, ⟨oL, es, ep, hk.heap _ _ (ho _ (.head _)) g, q⟩, r⟩
    cels := fun j x c a b d => let ⟨ov, ⟨oc, g, dd⟩, r⟩ := h.cels j x c a b d; ⟨ov, ⟨oc, hk.heap c oc (hoff x c d) g, dd⟩, r⟩
    cfix := fun y c e => by
      rcases h.cfix y c e with r | ⟨o, r⟩
      · exact .inl r
      · refine .inr ?_
        simp only [Base.over] at r ⊢
        rw [if_neg (hoff y c e)] at r ⊢
        exact ⟨o, r⟩
    objs := fun i o e => let ⟨a, g, r⟩ := h.objs i o e; ⟨a, g, r.mono (.refl _) fun ob e => hk.heap a ob (ho _ (.tail _ (List.mem_append_right _ (List.mem_of_getElem? g)))) e⟩
    len := h.len
    nd := h.nd
    dis := fun b o e => by
      simp only [Base.over] at e
      split at e
      · exact hm b (by assumption)
      · rename_i hb
        exact h.dis b o (by simp only [Base.over]; rw [if_neg hb]; exact e)
    fpriv := h.fpriv
    alive := fun a m => let ⟨o, e⟩ := h.alive a m; ⟨o, hk.heap a o (ho a m) e⟩
    fown := h.fown
    low := h.low }

theorem RR.leave {wr : List Addr} {wg : List Nat} (h : RR prog w F (B.over wr wg s) W st s) (hc : ∀ (x : Str) (c : Addr), F.env.cells.lookup x = some c → c ∈ F.pc ∨ ∃ o, B.get c = some o) (hb : ∀ b ∈ wr, B.get b = none)
    (hg : ∀ i ∈ wg, B.gen i = none ∧ s.gens[i]? = some .finished) : RR prog w F B W st s := by
  have hh : ∀ b o, B.get b = some o → (B.over wr wg s).get b = some o := fun b o e => by
    simp only [Base.over]
    rw [if_neg (fun m => by rw [hb b m] at e; cases e)]; exact e
  exact { h with
    keep := fun b o e => h.keep b o (hh b o e)
    rest := {
      drawn := h.rest.drawn
      os := h.rest.os
      gens := fun i x e => h.rest.gens i x (by simp only [Base.over]; rw [if_neg (fun m => by rw [(hg i m).1] at e; cases e)]; exact e)
      fin := fun i x e e' => by
        by_cases m : i ∈ wg
        · rw [(hg i m).2] at e'; cases e'; rfl
        · exact h.rest.fin i x (by simp only [Base.over]; rw [if_neg m]; exact e) e' }
    cfix := hc
    dis := fun b o e => h.dis b o (hh b o e) }
end Mine
end

section
open PySem PySem.W PyProof.Rows PySem.Calls
set_option maxRecDepth 10000
namespace Mine
variable {prog : Program} {w : World} {F : FE} {B : Base} {W : Wd} {st : PS} {s : Shared}

noncomputable def pSeq (a b : PM PF) : PM PF := pbind a fun f => match f with
  | .next => b
  | .ret e => pRet (.ret e)
noncomputable def pNext : PM PF := pRet .next
noncomputable def pFor (asg : PV → PM Unit) (body : PM PF) : List PV → PM PF
  | [] => pNext
  | x :: xs => pbind (asg x) fun _ => pSeq body (pFor asg body xs)
noncomputable def NoRet (p : PM PF) : Prop := ∀ st r, p st = some r → r.1 = .next

structure Src (prog : Program) (w : World) (okT : Expr → Prop) (I : Addr) (wr : List Addr) (wg : List Nat) (Z0 : Frz) (xs : List PV) (St : Nat → Shared → Prop) : Prop where
  frame : ∀ i s s', St i s → (∀ b ∈ wr, s'.heap.get? b = s.heap.get? b) → Z0.In s.heap → Z0.In s'.heap → (∀ i ∈ wg, s'.gens[i]? = s.gens[i]?) → St i s'
  item : ∀ {F : FE} {T : Expr} {asg : PV → PM Unit} {A : Around} {B : Base} {W : Wd} {st st' : PS} {s : Shared} {i : Nat} {x : PV} {wr' : List Addr} {Q : Shared → Prop} {E : Value → Shared → Prop},
    TRef prog w F T asg → okT T → (∀ b ∈ wr, b ∈ wr') → AOk 1 A → xs[i]? = some x → St i s → Alive wr' wg s → F.Off wr' → Z0.le W.Z → ZStat prog w W.Z → RR prog w F (B.over wr' wg s) W st s → asg x st = some ((), st') →
    (∀ W' s', W.le W' → St (i + 1) s' → Alive wr' wg s' → RR prog w F (B.over wr' wg s') W' st' s' → Q s') →
    wpAny (model prog w) A (pyNext (.ref I)) (fun r s₁ => match r with
      | none => False
      | some v => wpAny (model prog w) A (letOwnedTupleGo T (.ref I) v) (fun _ s₂ => wpAny (model prog w) A (assign T F.env v) (fun _ s₃ => Q s₃) E s₂) E s₁) E s
  done : ∀ {A : Around} {s : Shared} {Q : Shared → Prop} {E : Value → Shared → Prop}, AOk 1 A → St xs.length s → (∀ s', Turns wr wg s s' → (∀ i ∈ wg, s'.gens[i]? = some .finished) → Q s') →
    wpAny (model prog w) A (pyNext (.ref I)) (fun r s₁ => r = none ∧ Q s₁) E s
  self : ∀ {A : Around} {s : Shared} {Q : Value → Shared → Prop} {E : Value → Shared → Prop} {i : Nat}, St i s → Q (.ref I) s → wpAny (model prog w) A (pyIter (.ref I)) Q E s

theorem Turns.wider {wr wr' : List Addr} {wg : List Nat} {s s' : Shared} (h : ∀ b ∈ wr, b ∈ wr') (x : Turns wr wg s s') : Turns wr' wg s s' where
  heap b o hb e := x.heap b o (fun m => hb (h b m)) e
  drawn := x.drawn
  os := x.os
  gens := x.gens
  fin := x.fin
theorem Turns.aliveW {wr wr' : List Addr} {wg : List Nat} {s s' : Shared} (x : Turns wr wg s s') (ha : Alive wr' wg s) (hb : ∀ b ∈ wr, ∃ o, s'.heap.get? b = some o) (hg : ∀ i ∈ wg, ∃ o, s'.gens[i]? = some o) : Alive wr' wg s' :=
  ⟨fun b hm => by
    by_cases m : b ∈ wr
    · exact hb b m
    · obtain ⟨o, e⟩ := ha.1 b hm; exact ⟨o, x.heap b o m e⟩, hg⟩
theorem RR.reover {wr : List Addr} {wg : List Nat} {s₀ : Shared} (h : RR prog w F (B.over wr wg s₀) W st s) (ha : Alive wr wg s₀) : RR prog w F (B.over wr wg s) W st s ∧ Alive wr wg s ∧ (∀ b ∈ wr, s.heap.get? b = s₀.heap.get? b) ∧ ∀ i ∈ wg, s.gens[i]? = s₀.gens[i]? := by
  have hh : ∀ b ∈ wr, s.heap.get? b = s₀.heap.get? b := fun b hb => by
    obtain ⟨o, e⟩ := ha.1 b hb
    have := h.keep b o (by simp only [Base.over]; rw [if_pos hb]; exact e)
    rw [this, e]
  have hg : ∀ i ∈ wg, s.gens[i]? = s₀.gens[i]? := fun i hi => by
    obtain ⟨o, e⟩ := ha.2 i hi
    have := h.rest.gens i o (by simp only [Base.over]; rw [if_pos hi]; exact e)
    rw [this, e]
  have e : B.over wr wg s = B.over wr wg s₀ := by
    have e1 : (fun b => if b ∈ wr then s.heap.get? b else B.get b) = fun b => if b ∈ wr then s₀.heap.get? b else B.get b := funext fun b => by
      split
      · exact hh b (by assumption)
      · rfl
    have e2 : (fun i => if i ∈ wg then s.gens[i]? else B.gen i) = fun i => if i ∈ wg then s₀.gens[i]? else B.gen i := funext fun b => by
      split
      · exact hg b (by assumption)
      · rfl
    simp only [Base.over]
    rw [e1, e2]
  refine ⟨e ▸ h, ⟨fun b hb => ?_, fun i hi => ?_⟩, hh, hg⟩
  · rw [hh b hb]; exact ha.1 b hb
  · rw [hg i hi]; exact ha.2 i hi

theorem codeAny_for {okT : Expr → Prop} {T : Expr} {asg : PV → PM Unit} {body : List Stmt} {pb : PM PF} {k : Nat} {A : Around} {I : Addr} {wr : List Addr} {wg : List Nat} {Z0 : Frz} {xs : List PV} {St : Nat → Shared → Prop} {R : Result → Shared → Prop} {f : PF} {st' : PS}
    (hT : TRef prog w F T asg) (ho : okT T) (hb : Ref prog w F k (execs body F.env) (FR prog w) pb) (hk : 1 ≤ k) (S : Src prog w okT I wr wg Z0 xs St) (hwg : wg = [] ∨ NoRet pb) (a : AOk k A) (hoff : F.Off wr)
    (hz : Z0.le W.Z) (zs : ZStat prog w W.Z) (h0 : St 0 s) (ha : Alive wr wg s) (h : RR prog w F (B.over wr wg s) W st s) (e : pFor asg pb xs st = some (f, st'))
    (hR : ∀ W' s' fl, W.le W' → FR prog w W' fl f → RR prog w F (B.over wr wg s') W' st' s' → (∀ i ∈ wg, s'.gens[i]? = some .finished) → R (.ok fl) s') :
    codeAny (model prog w) A (.forLoop T (.ref I) body [] F.env) R s := by
  obtain ⟨I', hI⟩ : ∃ I' : Nat → Shared → Prop, ∀ n s', I' n s' ↔ ∃ i W' st1, n = xs.length - i ∧ W.le W' ∧ i ≤ xs.length ∧ St i s' ∧ Alive wr wg s' ∧ RR prog w F (B.over wr wg s') W' st1 s' ∧ pFor asg pb (xs.drop i) st1 = some (f, st') := ⟨_, fun _ _ => Iff.rfl⟩
  refine codeAny_forLoop_any I' ?_ _ ((hI _ _).mpr ⟨0, W, st, rfl, .refl _, Nat.zero_le _, h0, ha, h, by simpa using e⟩)
  intro n s' hn
  obtain ⟨i, W', st1, rfl, hle, hi, hst, hal, hr, hp⟩ := (hI _ _).mp hn
  rcases Nat.lt_or_ge i xs.length with hlt | hge
  · have hx : xs[i]? = some xs[i] := List.getElem?_eq_getElem hlt
    rw [List.drop_eq_getElem_cons hlt] at hp
    obtain ⟨_, st2, e1, e2⟩ := pbind_some hp
    refine wpAny_mono (S.item (Q := fun s₃ => wpAny (model prog w) A (execs body F.env) (fun fl s₃ => match fl with
            | .next | .cont => ∃ m, m < xs.length - i ∧ I' m s₃
            | .brk => R (.ok .next) s₃
            | .ret v => R (.ok (.ret v)) s₃) (notedBy (model prog w) A F.env fun e s' => R (.error e) s') s₃) hT ho (fun _ m => m) (a.le hk) hx hst hal hoff (hz.trans hle.2) (zs.mono hle.2) hr e1 fun W2 s2 l2 st2' al2 r2 => ?_) (fun r s₁ q => ?_) fun _ _ q => q
    · obtain ⟨g, st3, e3, e4⟩ := pbind_some e2
      refine hb.run a (zs.mono (hle.trans l2).2) e3 r2 fun W3 fl s3 l3 hf r3 => ?_
      obtain ⟨r4, al4, hh, hg⟩ := r3.reover al2
      cases fl with
      | next =>
        cases g with
        | next =>
          refine ⟨xs.length - (i + 1), by omega, (hI _ _).mpr ⟨i + 1, W3, st3, rfl, (hle.trans l2).trans l3, hlt, ?_, al4, r4, e4⟩⟩
          exact S.frame _ _ _ st2' hh (fun b o e => r2.zk b o ((hz.trans (hle.trans l2).2) b o e)) (fun b o e => r4.zk b o ((hz.trans ((hle.trans l2).trans l3).2) b o e)) hg
        | ret => exact hf.elim
      | ret v =>
        cases g with
        | next => exact hf.elim
        | ret x =>
          cases e4
          refine hR W3 s3 _ ((hle.trans l2).trans l3) hf r4 fun i hi => ?_
          rcases hwg with q | q
          · rw [q] at hi; cases hi
          · have := q _ _ e3; cases this
      | brk => exact hf.elim
      | cont => exact hf.elim
    · cases r with
      | none => exact q.elim
      | some v => exact q
  · have : i = xs.length := Nat.le_antisymm hi hge
    subst this
    rw [List.drop_length] at hp
    cases hp
    refine wpAny_mono (S.done (Q := fun s₁ => R (.ok .next) s₁) (a.le hk) hst fun s1 t hg => hR W' s1 .next hle trivial (hr.turn hoff hal t) hg) (fun r s₁ q => ?_) fun _ _ q => q
    obtain ⟨rfl, q⟩ := q
    exact wpAny_execs_nil q

/-- what is gone through: evaluated, then its iterator made -/
noncomputable def IterRefT (prog : Program) (w : World) (F : FE) (k : Nat) (iter : Expr) (okT : Expr → Prop) (ret : Prop) (pit : PM (List PV)) : Prop :=
  ∀ {A : Around} {B : Base} {W : Wd} {st : PS} {xs : List PV} {st' : PS} {s : Shared} {Q : Value → Shared → Prop} {E : Value → Shared → Prop},
    AOk k A → ZStat prog w W.Z → pit st = some (xs, st') → RR prog w F B W st s →
    (∀ W' s₁ s' I wr wg St, W.le W' → RR prog w F B W' st' s₁ → Src prog w okT I wr wg W'.Z xs St → Grows wg s₁ s' → (∀ b ∈ wr, s₁.heap.get? b = none) → (∀ i ∈ wg, s₁.gens[i]? = none) → Alive wr wg s' → (ret → wg = []) → St 0 s' → Q (.ref I) s') →
    wpAny (model prog w) A (eval iter F.env) (fun x s₁ => wpAny (model prog w) A (pyIter x) Q E s₁) E s

structure IterRef (prog : Program) (w : World) (F : FE) (k : Nat) (iter : Expr) (okT : Expr → Prop) (ret : Prop) (pit : PM (List PV)) : Prop where
  run : IterRefT prog w F k iter okT ret pit

theorem ref_For {okT : Expr → Prop} {ret : Prop} {T iter : Expr} {asg : PV → PM Unit} {body : List Stmt} {pos : Pos} {pit : PM (List PV)} {pb : PM PF} {k : Nat} (hit : IterRef prog w F k iter okT ret pit) (hT : TRef prog w F T asg) (ho : okT T)
    (hb : Ref prog w F k (execs body F.env) (FR prog w) pb) (hk : 1 ≤ k) (hwg : ret ∨ NoRet pb) (hs : ∀ x, foldedSetIterable iter F.env x = pure x := by intro _; rfl) :
    Ref prog w F k (exec (.For T iter body [] pos) F.env) (FR prog w) (pbind pit (pFor asg pb)) := by
  constructor
  intro A B W st f st' s Q E a S e h q
  obtain ⟨xs, st1, e1, e2⟩ := pbind_some e
  refine wpAny_For (hit.run a S e1 h fun W1 s1 s2 I wr wg St l1 h1 src gr hn hg al hr st0 => ?_) hs
  refine codeAny_for (B := B) hT ho hb hk src (hwg.imp hr id) a (h1.off hn) (.refl _) (S.mono l1.2) st0 al (h1.enter gr hn hg al) e2 fun W' s' fl l' hf hr' hgf => ?_
  refine q W' fl s' (l1.trans l') hf (hr'.leave h.cfix (fun b hb => ?_) fun i hi => ⟨?_, hgf i hi⟩)
  · cases q : B.get b with
    | none => rfl
    | some o => have := h1.keep _ _ q; rw [hn b hb] at this; cases this
  · cases q : B.gen i with
    | none => rfl
    | some o => have := h1.rest.gens _ _ q; rw [hg i hi] at this; cases this

/-- statements -/
theorem ref_nil {k : Nat} : Ref prog w F k (execs [] F.env) (FR prog w) pNext := by
  constructor
  intro A B W st f st' s Q E a S e h q
  cases e
  exact wpAny_execs_nil (q W _ s (.refl _) trivial h)
theorem ref_cons {k : Nat} {x : Stmt} {r : List Stmt} {p q : PM PF} (hx : Ref prog w F k (exec x F.env) (FR prog w) p) (hr : Ref prog w F k (execs r F.env) (FR prog w) q) : Ref prog w F k (execs (x :: r) F.env) (FR prog w) (pSeq p q) := by
  constructor
  intro A B W st f st' s Q E a S e h k
  obtain ⟨g, st1, e1, e2⟩ := pbind_some e
  refine wpAny_execs_cons (hx.run a S e1 h fun W1 fl s1 l1 hf h1 => ?_)
  cases g with
  | next => cases fl with
    | next => exact hr.run a (S.mono l1.2) e2 h1 fun W2 fl s2 l2 hf h2 => k W2 fl s2 (l1.trans l2) hf h2
    | _ => exact hf.elim
  | ret x => cases fl with
    | ret v => cases e2; exact k W1 _ s1 l1 hf h1
    | _ => exact hf.elim
/-- a ghost step ahead of statements: a name's own thing is frozen -/
theorem ref_frz {k : Nat} {r : List Stmt} {i : Nat} {q : PM PF} (hr : Ref prog w F k (execs r F.env) (FR prog w) q) : Ref prog w F k (execs r F.env) (FR prog w) (pbind (pFrz i) fun _ => q) := by
  constructor
  intro A B W st f st' s Q E a S e h kk
  obtain ⟨_, st1, e1, e2⟩ := pbind_some e
  obtain ⟨W1, l1, h1⟩ := h.freeze e1
  exact hr.run a (S.mono l1.2) e2 h1 fun W2 fl s2 l2 hf h2 => kk W2 fl s2 (l1.trans l2) hf h2

noncomputable def pAsg (i : Nat) (p : PM EV) : PM PF := pbind p fun e => pbind (pStore i e) fun _ => pNext
theorem store_p (ok : F.Ok) (h : RR prog w F B W st s) {i : Nat} {x : Str} {v : Value} {e : EV} {st' : PS} (hi : F.nm[i]? = some x) (hw : F.Wr x) (hv : EVR prog w W v e) (hp : pStore i e st = some ((), st'))
    {A : Around} {Q : Unit → Shared → Prop} {E : Value → Shared → Prop} (k : ∀ s', RR prog w F B W st' s' → Q () s') : wpAny (model prog w) A (storeName F.env x v) Q E s := by
  unfold pStore at hp
  split at hp
  · cases hp; exact store_ref ok h hi hv hw k
  · cases hp
theorem ref_Assign (ok : F.Ok) {k : Nat} {i : Nat} {x : Str} {pos' pos : Pos} {value : Expr} {p : PM EV} (hi : F.nm[i]? = some x) (hw : F.Wr x) (hv : Ref prog w F k (eval value F.env) (EVR prog w) p)
    (hs : swapsWith value (some (.Name x pos')) pos.line F.env = pure false := by rfl) : Ref prog w F k (exec (.Assign [.Name x pos'] value pos) F.env) (FR prog w) (pAsg i p) := by
  constructor
  intro A B W st f st' s Q E a S e h q
  obtain ⟨y, st1, e1, e2⟩ := pbind_some e
  obtain ⟨_, st2, e2, e3⟩ := pbind_some e2
  cases e3
  exact wpAny_Assign_Name (hv.run a S e1 h fun W1 v s1 l1 hv1 h1 => store_p ok h1 hi hw hv1 e2 fun s2 h2 => q W1 _ s2 l1 trivial h2) hs
/-- names of the frame that are stored to by value of a target -/
noncomputable def pAsgT (asg : PV → PM Unit) (p : PM EV) : PM PF := pbind p fun e => match e with
  | .v x => pbind (asg x) fun _ => pNext
  | .m _ => fun _ => none

noncomputable def pAug (i : Nat) (p : PM EV) : PM PF := pbind (pLoad i) fun a => pbind p fun b => match a, b with
  | .v (.int x), .v (.int y) => pbind (pStore i (.v (.int (x + y)))) fun _ => pNext
  | _, _ => fun _ => none
theorem ref_AugAdd (ok : F.Ok) {k : Nat} {i : Nat} {x : Str} {pos' pos : Pos} {value : Expr} {p : PM EV} (hi : F.nm[i]? = some x) (hw : F.Wr x) (hv : Ref prog w F k (eval value F.env) (EVR prog w) p) :
    Ref prog w F k (exec (.AugAssign (.Name x pos') .Add value pos) F.env) (FR prog w) (pAug i p) := by
  constructor
  intro A B W st f st' s Q E a S e h q
  obtain ⟨y, st1, e1, e2⟩ := pbind_some e
  obtain ⟨z, st2, e3, e4⟩ := pbind_some e2
  unfold pLoad at e1
  split at e1
  · rename_i ev he
    cases e1
    have body : ∀ v0, EVR prog w W v0 y → wpAny (model prog w) A (eval value F.env) (fun v s₂ => wpAny (model prog w) A (inplaceOp .Add v0 v) (fun r s₃ => wpAny (model prog w) A (storeName F.env x r) (fun _ => Q .next) E s₃) E s₂) E s := by
      intro v0 hv0
      refine hv.run a S e3 h fun W1 v s1 l1 hv1 h1 => ?_
      have hv0 := hv0.mono l1
      split at e4
      · obtain ⟨t, rfl⟩ := V.int_inv hv0
        obtain ⟨u, rfl⟩ := V.int_inv hv1
        obtain ⟨_, st3, e5, e6⟩ := pbind_some e4
        cases e6
        exact P.iadd_int (store_p ok (h1.toks _) hi hw (show EVR prog w W1 _ (.v _) from V.int _ _) e5 fun s2 h2 => q W1 _ s2 l1 trivial h2)
      · cases e4
    refine wpAny_AugAssign_Name ?_
    rcases ok.kinds x (List.mem_of_getElem? hi) with hk | ⟨hk, c, hc⟩
    · obtain ⟨m, hn, hm⟩ := h.locs
      obtain ⟨v', e1, e2⟩ := hm i x _ hi hk he
      exact wpAny_loadName_local ok.kind hk hn e1 (body _ e2)
    · obtain ⟨ov, hcell, r⟩ := h.cels i x c hi hk hc
      obtain ⟨v', rfl, e2⟩ := r _ he
      exact wpAny_loadName_cell ok.kind hk hc hcell (body _ e2)
  · cases e1

theorem ref_If {k : Nat} {t : Expr} {b o : List Stmt} {pos : Pos} {pt : PM Bool} {pb po : PM PF} (ht : Ref prog w F k (isTrue t F.env (eval t F.env)) IsB pt) (hb : Ref prog w F k (execs b F.env) (FR prog w) pb) (ho : Ref prog w F k (execs o F.env) (FR prog w) po) :
    Ref prog w F k (exec (.If t b o pos) F.env) (FR prog w) (pIf pt pb po) := by
  constructor
  intro A B W st f st' s Q E a S e h q
  obtain ⟨c, st1, e1, e2⟩ := pbind_some e
  refine wpAny_If (ht.run a S e1 h fun W1 c' s1 l1 hc h1 => ?_)
  subst hc
  cases c'
  · exact ho.run a (S.mono l1.2) e2 h1 fun W2 fl s2 l2 hf h2 => q W2 fl s2 (l1.trans l2) hf h2
  · exact hb.run a (S.mono l1.2) e2 h1 fun W2 fl s2 l2 hf h2 => q W2 fl s2 (l1.trans l2) hf h2
noncomputable def pReturn (p : PM EV) : PM PF := pbind p fun e => pRet (.ret e)
theorem ref_Return {k : Nat} {x : Expr} {pos : Pos} {p : PM EV} (hx : Ref prog w F k (eval x F.env) (EVR prog w) p) : Ref prog w F k (exec (.Return (some x) pos) F.env) (FR prog w) (pReturn p) := by
  constructor
  intro A B W st f st' s Q E a S e h q
  obtain ⟨c, st1, e1, e2⟩ := pbind_some e
  cases e2
  exact wpAny_Return_some (hx.run a S e1 h fun W1 v s1 l1 hv h1 => q W1 (.ret v) s1 l1 hv h1)

/-- a statement that is an expression whose value is none -/
noncomputable def pExpr (p : PM Unit) : PM PF := pbind p fun _ => pNext
noncomputable abbrev IsNone (_ : Wd) (v : Value) (_ : Unit) : Prop := v = .none
theorem ref_Expr {k : Nat} {x : Expr} {pos : Pos} {p : PM Unit} (hx : Ref prog w F k (eval x F.env) IsNone p) (hi : interactive F.env = false := by rfl) (hs : swapsWith x none pos.line F.env = pure false := by rfl) :
    Ref prog w F k (exec (.Expr x pos) F.env) (FR prog w) (pExpr p) := by
  constructor
  intro A B W st f st' s Q E a S e h q
  obtain ⟨c, st1, e1, e2⟩ := pbind_some e
  cases e2
  refine wpAny_Expr (hx.run a S e1 h fun W1 v s1 l1 hv h1 => ?_) hi hs
  subst hv
  exact q W1 _ s1 l1 trivial h1

/-- while -/
noncomputable def pWhile (pt : PM Bool) (pb : PM PF) : Nat → PM PF
  | 0 => fun _ => none
  | n + 1 => pIf pt (pSeq pb (pWhile pt pb n)) pNext
theorem ref_While {k : Nat} {t : Expr} {b : List Stmt} {pos : Pos} {pt : PM Bool} {pb : PM PF} (N : Nat) (ht : Ref prog w F k (isTrue t F.env (eval t F.env)) IsB pt) (hb : Ref prog w F k (execs b F.env) (FR prog w) pb) :
    Ref prog w F k (exec (.While t b [] pos) F.env) (FR prog w) (pWhile pt pb N) := by
  constructor
  intro A B W st f st' s Q E a S e h q
  refine wpAny_While (codeAny_whileLoop (fun n s' => ∃ W' st1, W.le W' ∧ RR prog w F B W' st1 s' ∧ pWhile pt pb n st1 = some (f, st')) ?_ N ⟨W, st, .refl _, h, e⟩)
  rintro n s' ⟨W', st1, l, r, e⟩
  cases n with
  | zero => cases e
  | succ n =>
    obtain ⟨c, st2, e1, e2⟩ := pbind_some e
    refine ht.run a (S.mono l.2) e1 r fun W1 c' s1 l1 hc r1 => ?_
    subst hc
    cases c'
    · cases e2
      exact wpAny_execs_nil (q W1 _ s1 (l.trans l1) trivial r1)
    · obtain ⟨g, st3, e3, e4⟩ := pbind_some e2
      refine hb.run a (S.mono (l.trans l1).2) e3 r1 fun W2 fl s2 l2 hf r2 => ?_
      cases g with
      | next => cases fl with
        | next => exact ⟨n, Nat.lt_succ_self _, W2, st3, (l.trans l1).trans l2, r2, e4⟩
        | _ => exact hf.elim
      | ret x => cases fl with
        | ret v => cases e4; exact q W2 _ s2 ((l.trans l1).trans l2) hf r2
        | _ => exact hf.elim
end Mine
end

section
open PySem PySem.W PyProof.Rows PySem.Calls
set_option maxRecDepth 10000
namespace Mine
variable {prog : Program} {w : World} {F : FE} {B : Base} {W : Wd} {st : PS} {s : Shared}

noncomputable def okName (T : Expr) : Prop := ∃ x p, T = .Name x p
noncomputable def okTup (T : Expr) : Prop := ∃ e k p, T = .Tuple e k p
noncomputable def okAny (T : Expr) : Prop := okName T ∨ okTup T

theorem go_name {T : Expr} (h : okName T) {M : Model} {A : Around} {it v : Value} {s : Shared} {Q : Unit → Shared → Prop} {E : Value → Shared → Prop} (q : Q () s) : wpAny M A (letOwnedTupleGo T it v) Q E s := by
  obtain ⟨x, p, rfl⟩ := h
  exact wpAny_pure q
theorem go_iter {N : String} (hN : ["enumerate", "zip", "dict_itemiterator", "dict_reverseitemiterator", "odict_iterator", "itertools.zip_longest", "itertools.pairwise"].contains N = false) {T : Expr} (h : okAny T) {A : Around} {I : Addr} {v : Value} {s : Shared} {o : Obj} {fs : Array Value}
    (g : s.heap.get? I = some o) (hc : o.cls = .type N) (hd : o.data = .fields fs) {Q : Unit → Shared → Prop} {E : Value → Shared → Prop} (q : Q () s) : wpAny (model prog w) A (letOwnedTupleGo T (.ref I) v) Q E s := by
  rcases h with h | ⟨e, k, p, rfl⟩
  · exact go_name h q
  · cases v with
    | ref t =>
      unfold letOwnedTupleGo
      refine wpAny_bind (wpAny_load g ?_)
      rw [hc, hd]
      show wpAny _ A (if (["enumerate", "zip", "dict_itemiterator", "dict_reverseitemiterator", "odict_iterator", "itertools.zip_longest", "itertools.pairwise"].contains N && fs[0]? == some (rawInt t)) = true then _ else _) Q E s
      rw [hN, Bool.false_and, if_neg (by decide)]
      exact wpAny_pure q
    | _ => exact wpAny_pure q

theorem turns_of {wr : List Addr} {s : Shared} {h' : Heap} {tk : Nat} (hk : ∀ b o, b ∉ wr → s.heap.get? b = some o → h'.get? b = some o) : Turns wr [] s { s with heap := h', toks := tk } where
  heap := hk
  drawn := rfl
  os := rfl
  gens _ _ _ e := e
  fin i x _ e e' := by
    have e' : s.gens[i]? = some x := e'
    rw [e] at e'; cases e'

/-- a walk over things that stand -/
theorem Src.ofWalks {okT : Expr → Prop} {I : Addr} {fp : List Addr} {Z0 : Frz} {xs : List PV} {P : Nat → Value → Prop} {Sh : Nat → Heap → Prop} (hW : ∀ A : Around, A.handled = none → Walks prog w A I fp [I] xs.length P Sh)
    (hfp : ∀ b ∈ fp, b = I ∨ ∃ o, Z0 b = some o) (hP : ∀ i v x, P i v → xs[i]? = some x → V prog w Z0 v x) (hgo : ∀ {A : Around} {T : Expr} {v : Value} {i : Nat} {s : Shared} {Q : Unit → Shared → Prop} {E : Value → Shared → Prop}, okT T → Sh i s.heap → Q () s → wpAny (model prog w) A (letOwnedTupleGo T (.ref I) v) Q E s)
    (hal : ∀ i h, Sh i h → ∃ o, h.get? I = some o)
    (hself : ∀ i (A : Around) (s : Shared) (Q : Value → Shared → Prop) (E : Value → Shared → Prop), Sh i s.heap → Q (.ref I) s → wpAny (model prog w) A (pyIter (.ref I)) Q E s) :
    Src prog w okT I [I] [] Z0 xs (fun i s => Sh i s.heap) where
  frame i s s' hst hw z z' _ := (hW { } rfl).frame i _ _ hst fun b hb o e => by
    rcases hfp b hb with rfl | ⟨o', e'⟩
    · rw [hw b (by simp)]; exact e
    · rw [z b o' e'] at e; cases e; exact z' b _ e'
  item {F T asg A B W st st' s i x wr' Q E} hT ho hsub a hx hst hal' hoff hz zs h e q := by
    have hi : i < xs.length := (List.getElem?_eq_some_iff.mp hx).1
    refine (hW A a.h).item i s _ _ hi hst fun v h' tk hv hst' hk => ?_
    have hI : ∃ o, h'.get? I = some o := hal _ _ hst'
    have t0 : Turns [I] [] s { s with heap := h', toks := tk } := turns_of hk
    have t : Turns wr' [] s { s with heap := h', toks := tk } := t0.wider hsub
    have h1 := h.turn hoff hal' t
    have al1 := t0.aliveW hal' (fun b hb => by rw [List.mem_singleton.mp hb]; exact hI) (fun i hi => by cases hi)
    refine hgo ho hst' (hT.run a.h ((hP i v x hv hx).mono hz) e h1 fun s2 h2 => ?_)
    obtain ⟨h3, al3, hh, hg⟩ := h2.reover al1
    refine q W s2 (.refl _) ?_ al3 h3
    refine (hW { } rfl).frame (i + 1) _ _ hst' fun b hb o e => ?_
    rcases hfp b hb with rfl | ⟨o', e'⟩
    · rw [hh b (hsub b (by simp))]; exact e
    · have := h1.zk b o' (hz b o' e')
      have e : h'.get? b = some o := e
      rw [show h'.get? b = some o' from this] at e; cases e
      exact h2.zk b _ (hz b _ e')
  done {A s Q E} a hst q := (hW A a.h).done s _ _ hst fun h' tk hk => ⟨rfl, q _ (turns_of hk) (fun i hi => by cases hi)⟩
  self {A s Q E i} hst q := hself i A s Q E hst q

theorem grows_of {s : Shared} {h' : Heap} {tk : Nat} (hk : ∀ b o, s.heap.get? b = some o → h'.get? b = some o) : Grows [] s { s with heap := h', toks := tk } where
  heap := hk
  drawn := rfl
  os := rfl
  gens _ _ e := e
  fin i x e e' := by
    have e' : s.gens[i]? = some x := e'
    rw [e] at e'; cases e'

theorem Src.list {I a : Addr} {vs : Array Value} {n : Nat} {Z0 : Frz} {xs : List PV} (hne : a ≠ I) (g : Z0 a = some ⟨.type "list", none, .seq vs n, #[]⟩) (hv : Vs prog w Z0 vs.toList xs) :
    Src prog w okAny I [I] [] Z0 xs (fun i s => s.heap.IsListIter I a i ∧ s.heap.IsList a vs) := by
  have hl : xs.length = vs.size := by rw [← hv.length, Array.length_toList]
  refine Src.ofWalks (fp := [I, a]) (P := fun i v => vs[i]? = some v) (Sh := fun i h => h.IsListIter I a i ∧ h.IsList a vs) (fun A hh => hl ▸ Walks.list hh I a hne vs) (fun b hb => ?_) (fun i v x e e' => hv.all i v x (by simpa using e) e') (fun ho hst q => ?_) (fun i h hst => ?_) (fun i A s Q E hst q => wpAny_pyIter_listiter hst.1 q)
  · rcases List.mem_cons.mp hb with rfl | hb
    · exact .inl rfl
    · rw [List.mem_singleton.mp hb]; exact .inr ⟨_, g⟩
  · obtain ⟨⟨o, ho', hc, hd⟩, _⟩ := hst
    exact go_iter (N := "list_iterator") (by decide) ho ho' hc hd q
  · obtain ⟨⟨o, ho', hc, hd⟩, _⟩ := hst; exact ⟨o, ho'⟩
theorem Src.tuple {I a : Addr} {vs : Array Value} {n : Nat} {Z0 : Frz} {xs : List PV} (hne : a ≠ I) (g : Z0 a = some ⟨.type "tuple", none, .seq vs n, #[]⟩) (hv : Vs prog w Z0 vs.toList xs) :
    Src prog w okAny I [I] [] Z0 xs (fun i s => s.heap.IsTupleIter I a i ∧ s.heap.IsTuple a vs) := by
  have hl : xs.length = vs.size := by rw [← hv.length, Array.length_toList]
  refine Src.ofWalks (fp := [I, a]) (P := fun i v => vs[i]? = some v) (Sh := fun i h => h.IsTupleIter I a i ∧ h.IsTuple a vs) (fun A hh => hl ▸ Walks.tuple hh I a hne vs) (fun b hb => ?_) (fun i v x e e' => hv.all i v x (by simpa using e) e') (fun ho hst q => ?_) (fun i h hst => ?_) (fun i A s Q E hst q => wpAny_pyIter_tupleiter hst.1 q)
  · rcases List.mem_cons.mp hb with rfl | hb
    · exact .inl rfl
    · rw [List.mem_singleton.mp hb]; exact .inr ⟨_, g⟩
  · obtain ⟨⟨o, ho', hc, hd⟩, _⟩ := hst
    exact go_iter (N := "tuple_iterator") (by decide) ho ho' hc hd q
  · obtain ⟨⟨o, ho', hc, hd⟩, _⟩ := hst; exact ⟨o, ho'⟩
theorem Src.range {I : Addr} {Z0 : Frz} (n : Nat) :
    Src prog w okName I [I] [] Z0 ((List.range n).map fun (i : Nat) => PV.int i) (fun i s => IsRangeIter s.heap I (0 + (i : Nat) * 1) ((n : Int) - (i : Nat)) 1) := by
  refine Src.ofWalks (fp := [I]) (P := fun i v => ∃ t, v = .int (0 + i * 1) t) (Sh := fun i h => IsRangeIter h I (0 + (i : Nat) * 1) ((n : Int) - (i : Nat)) 1) (fun A hh => by simpa using Walks.range hh I 0 1 n) (fun b hb => .inl (List.mem_singleton.mp hb)) (fun i v x e e' => ?_) (fun ho hst q => go_name ho q) (fun i h hst => ⟨_, hst⟩) (fun i A s Q E hst q => wpAny_pyIter_rangeiter hst q)
  obtain ⟨t, rfl⟩ := e
  rw [List.getElem?_map] at e'
  obtain ⟨j, e1, e2⟩ := Option.map_eq_some_iff.mp e'
  have := List.getElem?_eq_some_iff.mp e1
  obtain ⟨l, e3⟩ := this
  rw [List.getElem_range] at e3
  subst e3
  rw [← e2]
  have : (0 : Int) + (i : Nat) * 1 = (i : Nat) := by omega
  rw [this]
  exact V.int _ _

noncomputable def iterL : EV → Option (List PV)
  | .v (.lst xs) => some xs
  | .v (.tup xs) => some xs
  | _ => none
noncomputable def pIter (p : PM EV) : PM (List PV) := pbind p fun e => fun st => (iterL e).map fun xs => (xs, st)
theorem iref_list {k : Nat} {e : Expr} {p : PM EV} {ret : Prop} (h : Ref prog w F k (eval e F.env) (EVR prog w) p) : IterRef prog w F k e okAny ret (pIter p) := by
  constructor
  intro A B W st xs st' s Q E a S he hr q
  obtain ⟨x, st1, e1, e2⟩ := pbind_some he
  obtain ⟨ys, e3, e4⟩ := Option.map_eq_some_iff.mp e2
  cases e4
  refine h.run a S e1 hr fun W1 v s1 l1 hv h1 => ?_
  cases x with
  | m i => cases e3
  | v x =>
    cases x <;> first | cases e3 | skip
    · obtain ⟨t, vs, n, rfl, g, hvs⟩ := V.tup_inv (show V prog w W1.Z v (.tup xs) from hv)
      have ht : s1.heap.IsTuple t vs := ⟨_, h1.zk _ _ g, rfl, n, rfl⟩
      have hne : t ≠ s1.heap.objs.size := Nat.ne_of_lt (Heap.lt_size (h1.zk _ _ g))
      refine wpAny_pyIter_tuple ht ?_
      exact q W1 s1 _ _ [s1.heap.objs.size] [] _ l1 h1 (Src.tuple hne g hvs) (grows_of (tk := s1.toks) (pushKeeps _)) (fun b hb => by rw [List.mem_singleton.mp hb]; exact none_of_size (Nat.le_refl _)) (fun _ hi => by cases hi)
        ⟨fun b hb => by rw [List.mem_singleton.mp hb]; exact ⟨_, Heap.get?_push_size _ rfl⟩, fun _ hi => by cases hi⟩ (fun _ => rfl) ⟨⟨_, Heap.get?_push_size _ rfl, rfl, rfl⟩, ht.push _⟩
    · obtain ⟨t, vs, n, rfl, g, hvs⟩ := V.lst_inv (show V prog w W1.Z v (.lst xs) from hv)
      have ht : s1.heap.IsList t vs := ⟨_, h1.zk _ _ g, rfl, n, rfl⟩
      have hne : t ≠ s1.heap.objs.size := Nat.ne_of_lt (Heap.lt_size (h1.zk _ _ g))
      refine wpAny_pyIter_list ht ?_
      exact q W1 s1 _ _ [s1.heap.objs.size] [] _ l1 h1 (Src.list hne g hvs) (grows_of (tk := s1.toks) (pushKeeps _)) (fun b hb => by rw [List.mem_singleton.mp hb]; exact none_of_size (Nat.le_refl _)) (fun _ hi => by cases hi)
        ⟨fun b hb => by rw [List.mem_singleton.mp hb]; exact ⟨_, Heap.get?_push_size _ rfl⟩, fun _ hi => by cases hi⟩ (fun _ => rfl) ⟨⟨_, Heap.get?_push_size _ rfl, rfl, rfl⟩, ht.push _⟩

/-- calls of a type or built-in with one plain argument -/
theorem call_type1 {k : Nat} (ok : F.Ok) (S : ZStat prog w W.Z) (h : RR prog w F B W st s) {x : Str} {T : String} {p pos : Pos} {e : Expr} (hx : (x, .type T) ∈ btab) (hk : F.env.kindOf x = some .globalImplicit)
    {A : Around} (a : AOk k A) {pe : PM EV} (he : Ref prog w F k (eval e F.env) (EVR prog w) pe) {y : EV} {st' : PS} (ey : pe st = some (y, st')) {Q : Value → Shared → Prop} {E : Value → Shared → Prop}
    (q : ∀ W' v s', W.le W' → EVR prog w W' v y → RR prog w F B W' st' s' → wpAny (model prog w) A (call (.type T) [v]) Q E s')
    (hs : starEach [e] F.env = (false, eval e F.env) :: starEach [] F.env := by rfl) (hd : (x == ("__debug__" : Str)) = false := by decide) : wpAny (model prog w) A (eval (.Call (.Name x p) [e] [] pos) F.env) Q E s := by
  refine wpAny_Call_NameR (builtin_val ok S h hx hk ?_ hd)
  refine callWith_type1 ?_ hs
  rw [hs]
  exact spliced_cons (he.run a S ey h fun W1 v s1 l1 hv h1 => spliced_nil (q W1 v s1 l1 hv h1))
theorem call_builtin1 {k : Nat} (ok : F.Ok) (S : ZStat prog w W.Z) (h : RR prog w F B W st s) {x : Str} {T : String} {p pos : Pos} {e : Expr} (hx : (x, .builtin T) ∈ btab) (hk : F.env.kindOf x = some .globalImplicit)
    {A : Around} (a : AOk k A) {pe : PM EV} (he : Ref prog w F k (eval e F.env) (EVR prog w) pe) {y : EV} {st' : PS} (ey : pe st = some (y, st')) {Q : Value → Shared → Prop} {E : Value → Shared → Prop}
    (q : ∀ W' v s', W.le W' → EVR prog w W' v y → RR prog w F B W' st' s' → wpAny (model prog w) A (call (.builtin T) [v]) Q E s')
    (hs : starEach [e] F.env = (false, eval e F.env) :: starEach [] F.env := by rfl) (hd : (x == ("__debug__" : Str)) = false := by decide) : wpAny (model prog w) A (eval (.Call (.Name x p) [e] [] pos) F.env) Q E s := by
  refine wpAny_Call_NameR (builtin_val ok S h hx hk ?_ hd)
  refine callWith_builtin1 ?_ hs
  rw [hs]
  exact spliced_cons (he.run a S ey h fun W1 v s1 l1 hv h1 => spliced_nil (q W1 v s1 l1 hv h1))

noncomputable def rangeL : EV → Option (List PV)
  | .v (.int n) => if -1000 ≤ n ∧ n ≤ 1000 then some ((List.range n.toNat).map fun (i : Nat) => PV.int i) else none
  | _ => none
noncomputable def pRange (p : PM EV) : PM (List PV) := pbind p fun e => fun st => (rangeL e).map fun xs => (xs, st)
theorem iref_range (ok : F.Ok) {k : Nat} {e : Expr} {p pos : Pos} {pe : PM EV} {ret : Prop} (hk : F.env.kindOf "range" = some .globalImplicit) (h : Ref prog w F k (eval e F.env) (EVR prog w) pe)
    (hs : starEach [e] F.env = (false, eval e F.env) :: starEach [] F.env := by rfl) : IterRef prog w F k (.Call (.Name "range" p) [e] [] pos) okName ret (pRange pe) := by
  constructor
  intro A B W st xs st' s Q E a S he hr q
  obtain ⟨x, st1, e1, e2⟩ := pbind_some he
  obtain ⟨ys, e3, e4⟩ := Option.map_eq_some_iff.mp e2
  cases e4
  refine call_type1 ok S hr (x := "range") (T := "range") (by decide) hk a h e1 (fun W1 v s1 l1 hv h1 => ?_) hs
  unfold rangeL at e3
  split at e3
  · split at e3
    · rename_i n hn
      cases e3
      obtain ⟨t, rfl⟩ := V.int_inv hv
      refine call_range_1 ?_
      refine wpAny_pyIter_range (IsRange.new ..) (small_one (by decide) (by decide) (by omega) (by omega)) ?_
      have hsz : Builtin.Range.rangeSize 0 n 1 = (n.toNat : Int) := by rw [rangeSize_one]; split <;> omega
      have h2 := h1.ext (h' := s1.heap.push { cls := .type "range", data := .fields #[.int 0 s1.toks, .int n t, .int 1 (s1.toks + 1)] }) (tk := s1.toks + 1 + 1) (pushKeeps _)
      refine q W1 _ _ _ [_] [] _ l1 h2 (Src.range n.toNat) (grows_of (tk := s1.toks + 1 + 1) (pushKeeps _)) (fun b hb => by rw [List.mem_singleton.mp hb]; exact none_of_size (Nat.le_refl _)) (fun _ hi => by cases hi)
        ⟨fun b hb => by rw [List.mem_singleton.mp hb]; exact ⟨_, Heap.get?_push_size _ rfl⟩, fun _ hi => by cases hi⟩ (fun _ => rfl) ?_
      have e1 : (0 + ((0 : Nat) : Int) * 1) = 0 := by simp
      have e2 : ((n.toNat : Int) - ((0 : Nat) : Int)) = Builtin.Range.rangeSize 0 n 1 := by rw [hsz]; simp
      rw [e1, e2]
      exact Heap.get?_push_size _ rfl
    · cases e3
  · cases e3
end Mine
end

section
open PySem PySem.W PyProof.Rows PySem.Calls
set_option maxRecDepth 10000
namespace Mine
variable {prog : Program} {w : World} {F : FE} {B : Base} {W : Wd} {st : PS} {s : Shared}

noncomputable def enumV : Nat → List PV → List PV
  | _, [] => []
  | i, x :: xs => .tup [.int i, x] :: enumV (i + 1) xs
theorem enumV_get : ∀ (xs : List PV) (k i : Nat), (enumV k xs)[i]? = (xs[i]?).map fun x => .tup [.int ((k + i : Nat) : Int), x]
  | [], _, _ => by simp [enumV]
  | x :: xs, k, 0 => by simp [enumV]
  | x :: xs, k, i + 1 => by
    simp only [enumV, List.getElem?_cons_succ]
    rw [enumV_get xs (k + 1) i]
    congr 1
    funext y
    rw [show k + 1 + i = k + (i + 1) from by omega]
theorem enumV_length : ∀ (xs : List PV) (k : Nat), (enumV k xs).length = xs.length
  | [], _ => rfl
  | _ :: xs, k => by simp [enumV, enumV_length xs]

/-- a thing that came up in between is frozen -/
theorem RR.frzNew {B' : Base} {s₀ : Shared} {a : Addr} {o : Obj} (h0 : RR prog w F B' W st s₀) (h : RR prog w F B W st s) (hn : s₀.heap.get? a = none) (hb : B.get a = none) (g : s.heap.get? a = some o) :
    RR prog w F B { W with Z := fun b => if b = a then some o else W.Z b } st s ∧ W.le { W with Z := fun b => if b = a then some o else W.Z b } := by
  have hz : W.Z a = none := by
    cases q : W.Z a with
    | none => rfl
    | some x => have := h0.zk _ _ q; rw [hn] at this; cases this
  have z : W.Z.le fun b => if b = a then some o else W.Z b := fun b x e => by
    by_cases q : b = a
    · subst q; rw [hz] at e; cases e
    · simpa [q] using e
  have hm : a ∉ F.env.locals :: (F.pc ++ W.ρ) := fun m => by
    obtain ⟨o, e⟩ := h0.alive _ m; rw [hn] at e; cases e
  refine ⟨h.frz z (fun b x e => ?_) (fun b x e => ?_), ⟨List.prefix_refl _, z⟩⟩
  · by_cases q : b = a
    · subst q; simp at e; subst e; exact g
    · simp [q] at e; exact h.zk _ _ e
  · by_cases q : b = a
    · subst q
      refine .inr ⟨hb, fun m => hm ?_, fun i o e _ => hm (.tail _ (List.mem_append_right _ (List.mem_of_getElem? e)))⟩
      rcases List.mem_cons.mp m with rfl | m
      · exact .head _
      · exact .tail _ (List.mem_append_left _ m)
    · simp [q] at e; exact .inl e
theorem RR.over_none {wr : List Addr} {wg : List Nat} {s₁ : Shared} (h : RR prog w F (B.over wr wg s) W st s) (ha : Alive wr wg s) {a : Addr} (hn : s.heap.get? a = none) : a ∉ wr ∧ (B.over wr wg s₁).get a = none := by
  have hw : a ∉ wr := fun m => by obtain ⟨o, e⟩ := ha.1 a m; rw [hn] at e; cases e
  refine ⟨hw, ?_⟩
  simp only [Base.over]
  rw [if_neg hw]
  cases q : B.get a with
  | none => rfl
  | some o =>
    have := h.keep a o (by simp only [Base.over]; rw [if_neg hw]; exact q)
    rw [hn] at this; cases this

theorem Src.enum {e it l : Addr} {vs : Array Value} {n : Nat} {Z0 : Frz} {xs : List PV} (hei : e ≠ it) (hle : l ≠ e) (hli : l ≠ it) (g : Z0 l = some ⟨.type "list", none, .seq vs n, #[]⟩) (hv : Vs prog w Z0 vs.toList xs) :
    Src prog w okTup e [e, it] [] Z0 (enumV 0 xs) (fun i s => (∃ old, IsEnum s.heap e it i old) ∧ s.heap.IsListIter it l i ∧ s.heap.IsList l vs) where
  frame i s s' hst hw z z' _ := by
    obtain ⟨⟨old, he⟩, hit, hl⟩ := hst
    refine ⟨⟨old, (hw e (by simp)).trans he⟩, hit.at fun o x => (hw it (by simp)).trans x, ⟨_, z' _ _ g, rfl, n, rfl⟩⟩
  item {F T asg A B W st st' s i x wr' Q E} hT ho hsub a hx hst hal hoff hz zs h e1 q := by
    obtain ⟨⟨old, he⟩, hit, hl⟩ := hst
    obtain ⟨te, tk, tp, rfl⟩ := ho
    rw [enumV_get] at hx
    obtain ⟨x, hx2, rfl⟩ := Option.map_eq_some_iff.mp hx
    obtain ⟨v, ev, hvv⟩ := hv.get hx2
    refine wpAny_pyNext_enum_item (A := A) he hit hl (by simpa using ev) hei fun h' ho hit' hT' hsz hk => ?_
    have helt : e < s.heap.objs.size := Heap.lt_size he
    have hilt : it < s.heap.objs.size := by obtain ⟨_, x, _⟩ := hit; exact Heap.lt_size x
    refine wpAny_letOwnedTupleGo_enum ho fun h2 he2 hs2 => ?_
    have hk2 : ∀ b o, b ∉ [e, it] → s.heap.get? b = some o → h2.get? b = some o := fun b o hb x =>
      (hs2.2 b fun q => hb (by simp [q])).trans (hk b o (fun q => hb (by simp [q])) (fun q => hb (by simp [q])) x)
    have t0 : Turns [e, it] [] s { s with heap := h2, toks := s.toks + 1 } := turns_of hk2
    have h1 := h.turn hoff hal (t0.wider hsub)
    have hit2 : h2.IsListIter it l (i + 1) := hit'.at fun o x => (hs2.2 it hei.symm).trans x
    have al1 : Alive wr' [] { s with heap := h2, toks := s.toks + 1 } := t0.aliveW hal (fun b hb => by
      rcases List.mem_cons.mp hb with rfl | hb
      · exact ⟨_, he2⟩
      · rw [List.mem_singleton.mp hb]; obtain ⟨o, x, _⟩ := hit2; exact ⟨o, x⟩) (fun _ hi => by cases hi)
    have hTn : s.heap.get? s.heap.objs.size = none := none_of_size (Nat.le_refl _)
    have gT : h2.get? s.heap.objs.size = some _ := (hs2.2 _ (Nat.ne_of_gt helt)).trans hT'
    obtain ⟨h3, l3⟩ := RR.frzNew (s₀ := s) (a := s.heap.objs.size) h h1 hTn (h.over_none hal hTn).2 gT
    have hval : V prog w (fun b => if b = s.heap.objs.size then some ⟨.type "tuple", none, .seq #[.int i s.toks, v] 0, #[]⟩ else W.Z b) (.ref s.heap.objs.size) (.tup [.int ((0 + i : Nat) : Int), x]) := by
      refine V.tup' (n := 0) (vs := #[.int i s.toks, v]) (if_pos rfl) ?_
      have hz' : Z0.le _ := hz.trans l3.2
      rw [Nat.zero_add]
      exact .cons (V.int _ _) (.cons (hvv.mono hz') .nil)
    refine hT.run a.h hval e1 h3 fun s4 h4 => ?_
    obtain ⟨h5, al5, hh, hg⟩ := h4.reover al1
    refine q _ s4 l3 ⟨⟨v, ?_⟩, hit2.at fun o x => (hh it (hsub it (by simp))).trans x, ⟨_, h4.zk _ _ (l3.2 _ _ (hz _ _ g)), rfl, n, rfl⟩⟩ al5 h5
    have := (hh e (hsub e (by simp))).trans he2
    simpa using this
  done {A s Q E} a hst q := by
    obtain ⟨⟨old, he⟩, hit, hl⟩ := hst
    rw [enumV_length] at he hit
    have hsz : vs.size = xs.length := by rw [← hv.length, Array.length_toList]
    refine wpAny_pyNext_enum_end a.h he hit hl (by simp [hsz]) fun h' hx => ⟨rfl, q _ (turns_of (tk := s.toks) fun b o hb y => hx b o (fun e' => hb (by simp [e'])) y) (fun i hi => by cases hi)⟩
  self {A s Q E i} hst q := by
    obtain ⟨⟨old, he⟩, _, _⟩ := hst
    exact wpAny_pyIter_enum he q

noncomputable def enumL : EV → Option (List PV)
  | .v (.lst xs) => some (enumV 0 xs)
  | _ => none
noncomputable def pEnum (p : PM EV) : PM (List PV) := pbind p fun e => fun st => (enumL e).map fun xs => (xs, st)
theorem iref_enum (ok : F.Ok) {k : Nat} {e : Expr} {p pos : Pos} {pe : PM EV} {ret : Prop} (hk : F.env.kindOf "enumerate" = some .globalImplicit) (h : Ref prog w F k (eval e F.env) (EVR prog w) pe)
    (hs : starEach [e] F.env = (false, eval e F.env) :: starEach [] F.env := by rfl) : IterRef prog w F k (.Call (.Name "enumerate" p) [e] [] pos) okTup ret (pEnum pe) := by
  constructor
  intro A B W st xs st' s Q E a S he hr q
  obtain ⟨x, st1, e1, e2⟩ := pbind_some he
  obtain ⟨ys, e3, e4⟩ := Option.map_eq_some_iff.mp e2
  cases e4
  refine call_type1 ok S hr (x := "enumerate") (T := "enumerate") (by decide) hk a h e1 (fun W1 v s1 l1 hv h1 => ?_) hs
  unfold enumL at e3
  split at e3
  · rename_i ys
    cases e3
    obtain ⟨t, vs, n, rfl, g, hvs⟩ := V.lst_inv (show V prog w W1.Z v (.lst ys) from hv)
    have gt := h1.zk _ _ g
    have hl : s1.heap.IsList t vs := ⟨_, gt, rfl, n, rfl⟩
    have hlt := Heap.lt_size gt
    refine call_enumerate_list hl fun h' he hit hsz hk => wpAny_pyIter_enum he ?_
    refine q W1 s1 { s1 with heap := h' } _ [s1.heap.objs.size + 1, s1.heap.objs.size] [] _ l1 h1 (Src.enum (l := t) (by exact Nat.succ_ne_self _) (by exact Nat.ne_of_lt (Nat.lt_succ_of_lt hlt)) (Nat.ne_of_lt hlt) g hvs) (grows_of (tk := s1.toks) hk)
      (fun b hb => ?_) (fun _ hi => by cases hi) ⟨fun b hb => ?_, fun _ hi => by cases hi⟩ (fun _ => rfl) ⟨⟨_, he⟩, hit, hl.at fun o x => hk _ _ x⟩
    · rcases List.mem_cons.mp hb with rfl | hb
      · exact none_of_size (Nat.le_succ _)
      · rw [List.mem_singleton.mp hb]; exact none_of_size (Nat.le_refl _)
    · rcases List.mem_cons.mp hb with rfl | hb
      · exact ⟨_, he⟩
      · rw [List.mem_singleton.mp hb]; obtain ⟨o, x, _⟩ := hit; exact ⟨o, x⟩
  · cases e3

/-- the values of a dict -/
theorem Src.values {I a : Addr} {kvs : List (Str × Value)} {ep : Nat} {o : Obj} {Z0 : Frz} {es : List (Str × PV)} (hne : a ≠ I) (g : Z0 a = some o) (hv : Ds prog w Z0 kvs es) :
    Src prog w okName I [I] [] Z0 (es.map (·.2)) (fun i s => s.heap.IsValIter I a i kvs.length ep ∧ s.heap.DictAt (strKind prog w) a kvs ep) := by
  have hl : (es.map (·.2)).length = kvs.length := by rw [List.length_map, hv.length]
  refine Src.ofWalks (fp := [I, a]) (P := fun i v => ∃ k, kvs[i]? = some (k, v)) (Sh := fun i h => h.IsValIter I a i kvs.length ep ∧ h.DictAt (strKind prog w) a kvs ep) (fun A hh => by rw [hl]; exact Walks.dictValues hh I a hne kvs ep) (fun b hb => ?_) (fun i v x e e' => ?_) (fun ho hst q => go_name ho q) (fun i h hst => ?_) (fun i A s Q E hst q => wpAny_pyIter_valiter hst.1 q)
  · rcases List.mem_cons.mp hb with rfl | hb
    · exact .inl rfl
    · rw [List.mem_singleton.mp hb]; exact .inr ⟨_, g⟩
  · obtain ⟨k, e⟩ := e
    exact hv.vals.all i v x (by simp [e]) e'
  · obtain ⟨⟨o, ho', _⟩, _⟩ := hst; exact ⟨o, ho'⟩

noncomputable def valsL : EV → Option (List PV)
  | .v (.dct es) => some (es.map (·.2))
  | _ => none
noncomputable def pVals (p : PM EV) : PM (List PV) := pbind p fun e => fun st => (valsL e).map fun xs => (xs, st)
theorem Heap.DictOf.noDict' {h : Heap} {a : Addr} {kvs : List (Str × Value)} (x : h.DictOf (strKind prog w) a kvs) : ∀ b, (Value.ref a) = .ref b → ∃ ob, h.get? b = some ob ∧ ob.dict = none := x.mapOf.noDict
theorem iref_values {k : Nat} {o : Expr} {apos pos : Pos} {pe : PM EV} {ret : Prop} (h : Ref prog w F k (eval o F.env) (EVR prog w) pe)
    (hbase : attributeBase o "values" F.env (eval o F.env) = eval o F.env := by rfl) (hline : (apos.endLine == pos.line) = true := by rfl) : IterRef prog w F k (.Call (.Attribute o "values" apos) [] [] pos) okName ret (pVals pe) := by
  constructor
  intro A B W st xs st' s Q E a S he hr q
  obtain ⟨x, st1, e1, e2⟩ := pbind_some he
  obtain ⟨ys, e3, e4⟩ := Option.map_eq_some_iff.mp e2
  cases e4
  refine wpAny_Call_method (T := "dict") (id := "dict.values") hbase rfl hline PySem.F.plainAttrs_dict PySem.F.slot_dict_values PySem.F.type_dict_values (h.run a S e1 hr fun W1 v s1 l1 hv h1 => ?_)
  unfold valsL at e3
  split at e3
  · rename_i es
    cases e3
    obtain ⟨d, kvs, o, rfl, lo, g, hd, hds⟩ := V.dct_inv (show V prog w W1.Z v (.dct es) from hv)
    have gd := h1.zk _ _ g
    have hm := hd _ gd
    obtain ⟨ep, hat⟩ := hm.dictAt
    refine ⟨hm.typeIs, hm.mapOf.noDict, method_meetsIn PySem.F.slot_dict_values PySem.F.entry_dict_values rfl (PySem.evalArgs_none ⟨rfl, hm.typeIs, PySem.F.args_dict_values_1 _, _, meets_dict_values (strKind prog w) d lo, ⟨kvs, hm⟩, ?_⟩)⟩
    have hlt := Heap.lt_size gd
    let s2 : Shared := { s1 with heap := s1.heap.push { cls := .type "dict_values", data := .fields #[.ref d] } }
    refine wpAny_pyIter_values (d := d) (kvs := kvs) (ep := ep) ⟨_, Heap.get?_push_size _ rfl, rfl, rfl⟩ (hat.push _) ?_
    have h2 : RR prog w F B W1 st' s2 := h1.ext (tk := s1.toks) (pushKeeps _)
    refine q W1 s2 _ _ [s2.heap.objs.size] [] _ l1 h2 (Src.values (ep := ep) (o := o) ?_ g hds) (grows_of (tk := s1.toks) (pushKeeps _)) (fun b hb => by rw [List.mem_singleton.mp hb]; exact none_of_size (Nat.le_refl _)) (fun _ hi => by cases hi)
      ⟨fun b hb => by rw [List.mem_singleton.mp hb]; exact ⟨_, Heap.get?_push_size _ rfl⟩, fun _ hi => by cases hi⟩ (fun _ => rfl) ⟨⟨_, Heap.get?_push_size _ rfl, rfl, rfl⟩, (hat.push _).push _⟩
    show d ≠ (s1.heap.push _).objs.size
    rw [Heap.size_push]
    exact Nat.ne_of_lt (Nat.lt_succ_of_lt hlt)
  · cases e3

theorem entry_dict_itemiterator_iter : entryFor table "dict_itemiterator.__iter__" = some Builtin.«dict_keyiterator.__iter__» :=
  entryFor_alias (id' := "dict_keyiterator.__iter__") (by rw [fastTable_eq_tree]; kernel_rfl) (by decide +kernel) (by decide +kernel) (by rw [fastTable_eq_tree]; kernel_rfl)
/-- the items of a dict -/
noncomputable def itemsV (es : List (Str × PV)) : List PV := es.map fun p => .tup [.str p.1, p.2]
theorem Src.items {it d : Addr} {kvs : List (Str × Value)} {ep : Nat} {o : Obj} {Z0 : Frz} {es : List (Str × PV)} (hne : d ≠ it) (g : Z0 d = some o) (hv : Ds prog w Z0 kvs es) :
    Src prog w okTup it [it] [] Z0 (itemsV es) (fun i s => (∃ ok ov, IsItemIter s.heap it d i kvs.length ep ok ov) ∧ s.heap.DictAt (strKind prog w) d kvs ep) where
  frame i s s' hst hw z z' _ := by
    obtain ⟨⟨ok, ov, he⟩, hl⟩ := hst
    exact ⟨⟨ok, ov, (hw it (by simp)).trans he⟩, hl.at fun ob e => by rw [z _ _ g] at e; cases e; exact z' _ _ g⟩
  item {F T asg A B W st st' s i x wr' Q E} hT ho hsub a hx hst hal hoff hz zs h e1 q := by
    obtain ⟨⟨ok, ov, he⟩, hm⟩ := hst
    obtain ⟨te, tk, tp, rfl⟩ := ho
    unfold itemsV at hx
    rw [List.getElem?_map] at hx
    obtain ⟨⟨kx, x⟩, hx2, rfl⟩ := Option.map_eq_some_iff.mp hx
    have hlt : i < es.length := (List.getElem?_eq_some_iff.mp hx2).1
    have hlt' : i < kvs.length := by rw [hv.length]; exact hlt
    obtain ⟨⟨k2, v⟩, ev⟩ : ∃ p, kvs[i]? = some p := ⟨kvs[i], by simp [hlt']⟩
    have hkk : k2 = kx := by
      have := congrArg (·[i]?) hv.keys
      simp [ev, hx2] at this
      exact this
    subst hkk
    have hvv : V prog w Z0 v x := hv.all i _ _ ev hx2
    refine wpAny_pyNext_items_item (A := A) he hm ev fun key h' hkey ho ht hsz hk => ?_
    have hilt : it < s.heap.objs.size := Heap.lt_size he
    refine wpAny_letOwnedTupleGo_items ho fun h2 he2 hs2 => ?_
    have hk2 : ∀ b o, b ∉ [it] → s.heap.get? b = some o → h2.get? b = some o := fun b o hb x =>
      (hs2.2 b fun q => hb (by simp [q])).trans (hk b o (fun q => hb (by simp [q])) x)
    have t0 : Turns [it] [] s { s with heap := h2, toks := s.toks } := turns_of hk2
    have h1 := h.turn hoff hal (t0.wider hsub)
    have al1 : Alive wr' [] { s with heap := h2, toks := s.toks } := t0.aliveW hal (fun b hb => by
      rw [List.mem_singleton.mp hb]; exact ⟨_, he2⟩) (fun _ hi => by cases hi)
    have hTn : s.heap.get? s.heap.objs.size = none := none_of_size (Nat.le_refl _)
    have gT : h2.get? s.heap.objs.size = some _ := (hs2.2 _ (Nat.ne_of_gt hilt)).trans ht
    obtain ⟨h3, l3⟩ := RR.frzNew (s₀ := s) (a := s.heap.objs.size) h h1 hTn (h.over_none hal hTn).2 gT
    have hkv : V prog w Z0 key (.str k2) := by
      cases key with
      | str y t => rw [of_decide_eq_true (show decide (y = k2) = true from hkey)]; exact V.str _ _
      | _ => exact absurd (show false = true from hkey) (by decide)
    have hval : V prog w (fun b => if b = s.heap.objs.size then some ⟨.type "tuple", none, .seq #[key, v] 0, #[]⟩ else W.Z b) (.ref s.heap.objs.size) (.tup [.str k2, x]) := by
      refine V.tup' (n := 0) (vs := #[key, v]) (if_pos rfl) ?_
      have hz' : Z0.le _ := hz.trans l3.2
      exact .cons (hkv.mono hz') (.cons (hvv.mono hz') .nil)
    refine hT.run a.h hval e1 h3 fun s4 h4 => ?_
    obtain ⟨h5, al5, hh, hg⟩ := h4.reover al1
    refine q _ s4 l3 ⟨⟨key, v, (hh it (hsub it (by simp))).trans he2⟩, ?_⟩ al5 h5
    exact hm.at fun ob e => by rw [h.zk _ _ (hz _ _ g)] at e; cases e; exact h4.zk _ _ (l3.2 _ _ (hz _ _ g))
  done {A s Q E} a hst q := by
    obtain ⟨⟨ok, ov, he⟩, hm⟩ := hst
    have e : (itemsV es).length = kvs.length := by simp [itemsV, hv.length]
    rw [e] at he
    refine wpAny_pyNext_items_end a.h he hm (by simp) fun h' hx => ⟨rfl, q _ (turns_of (tk := s.toks) fun b o hb y => hx b o (fun e' => hb (by simp [e'])) y) (fun i hi => by cases hi)⟩
  self {A s Q E i} hst q := by
    obtain ⟨⟨ok, ov, he⟩, _⟩ := hst
    have hT : s.TypeIs (.ref it) "dict_itemiterator" := ⟨_, he, rfl⟩
    refine wpAny_pyIter_slot hT PySem.F.slot_dict_itemiterator_iter (wpAny_call_entry PySem.F.slot_dict_itemiterator_iter hT entry_dict_itemiterator_iter ?_ (PySem.F.args_dict_itemiterator_iter_1 _))
    show wpAny _ _ (ret (.ref it)) _ _ s
    exact wpAny_pure ⟨_, rfl, "dict_itemiterator", _, hT, PySem.F.slot_dict_itemiterator_next.lookup, q⟩

noncomputable def itemsL : EV → Option (List PV)
  | .v (.dct es) => some (itemsV es)
  | _ => none
noncomputable def pItems (p : PM EV) : PM (List PV) := pbind p fun e => fun st => (itemsL e).map fun xs => (xs, st)
theorem iref_items {k : Nat} {o : Expr} {apos pos : Pos} {pe : PM EV} {ret : Prop} (h : Ref prog w F k (eval o F.env) (EVR prog w) pe)
    (hbase : attributeBase o "items" F.env (eval o F.env) = eval o F.env := by rfl) (hline : (apos.endLine == pos.line) = true := by rfl) : IterRef prog w F k (.Call (.Attribute o "items" apos) [] [] pos) okTup ret (pItems pe) := by
  constructor
  intro A B W st xs st' s Q E a S he hr q
  obtain ⟨x, st1, e1, e2⟩ := pbind_some he
  obtain ⟨ys, e3, e4⟩ := Option.map_eq_some_iff.mp e2
  cases e4
  refine wpAny_Call_method (T := "dict") (id := "dict.items") hbase rfl hline PySem.F.plainAttrs_dict PySem.F.slot_dict_items PySem.F.type_dict_items (h.run a S e1 hr fun W1 v s1 l1 hv h1 => ?_)
  unfold itemsL at e3
  split at e3
  · rename_i es
    cases e3
    obtain ⟨d, kvs, o, rfl, lo, g, hd, hds⟩ := V.dct_inv (show V prog w W1.Z v (.dct es) from hv)
    have gd := h1.zk _ _ g
    have hm := hd _ gd
    obtain ⟨ep, hat⟩ := hm.dictAt
    refine ⟨hm.typeIs, hm.mapOf.noDict, method_meetsIn PySem.F.slot_dict_items PySem.F.entry_dict_items rfl (PySem.evalArgs_none ⟨rfl, hm.typeIs, PySem.F.args_dict_items_1 _, _, meets_dict_items (strKind prog w) d lo, ⟨kvs, hm⟩, ?_⟩)⟩
    have hlt := Heap.lt_size gd
    let s2 : Shared := { s1 with heap := s1.heap.push { cls := .type "dict_items", data := .fields #[.ref d] } }
    refine wpAny_pyIter_items (d := d) (kvs := kvs) (ep := ep) ⟨_, Heap.get?_push_size _ rfl, rfl, rfl⟩ (hat.push _) ?_
    have h2 : RR prog w F B W1 st' s2 := h1.ext (tk := s1.toks) (pushKeeps _)
    refine q W1 s2 _ _ [s2.heap.objs.size] [] _ l1 h2 (Src.items (ep := ep) (o := o) ?_ g hds) (grows_of (tk := s1.toks) (pushKeeps _)) (fun b hb => by rw [List.mem_singleton.mp hb]; exact none_of_size (Nat.le_refl _)) (fun _ hi => by cases hi)
      ⟨fun b hb => by rw [List.mem_singleton.mp hb]; exact ⟨_, Heap.get?_push_size _ rfl⟩, fun _ hi => by cases hi⟩ (fun _ => rfl) ⟨⟨_, _, Heap.get?_push_size _ rfl⟩, (hat.push _).push _⟩
    show d ≠ (s1.heap.push _).objs.size
    rw [Heap.size_push]
    exact Nat.ne_of_lt (Nat.lt_succ_of_lt hlt)
  · cases e3
end Mine
end

section
open PySem PySem.W PyProof.Rows PySem.Calls
set_option maxRecDepth 10000
namespace Mine
variable {prog : Program} {w : World} {F : FE} {B : Base} {W : Wd} {st : PS} {s : Shared}

/-- nothing is said -/
noncomputable def pDead {α : Type} : PM α := fun _ => none
theorem ref_dead {k : Nat} {α β : Type} {t : Sem α} {VR : Wd → α → β → Prop} : Ref prog w F k t VR pDead := by
  constructor
  intro A B W st b st' s Q E a S e; cases e

/-- items of a display -/
noncomputable def RefAll (prog : Program) (w : World) (F : FE) (k : Nat) : List Expr → List (PM EV) → Prop
  | [], [] => True
  | e :: es, p :: ps => (starEach (e :: es) F.env = (false, eval e F.env) :: starEach es F.env) ∧ Ref prog w F k (eval e F.env) (EVR prog w) p ∧ RefAll prog w F k es ps
  | _, _ => False
noncomputable def pAll : List (PM EV) → PM (List PV)
  | [] => pRet []
  | p :: ps => pbind p fun e => match e with
    | .v x => pbind (pAll ps) fun xs => pRet (x :: xs)
    | .m _ => fun _ => none
noncomputable def VsR (prog : Program) (w : World) (W : Wd) (vs : List Value) (xs : List PV) : Prop := Vs prog w W.Z vs xs
theorem ref_items {k : Nat} {pos : Pos} : ∀ {es : List Expr} {ps : List (PM EV)}, RefAll prog w F k es ps → Ref prog w F k (spliced (backTo pos (starEach es F.env))) (VsR prog w) (pAll ps) := by
  intro es
  induction es with
  | nil =>
    intro ps h
    cases ps with
    | cons => exact h.elim
    | nil =>
      constructor
      intro A B W st b st' s Q E a S e h q
      cases e
      exact wpAny_items_nil (q W _ s (.refl _) .nil h)
  | cons x xs ih =>
    intro ps h
    cases ps with
    | nil => exact h.elim
    | cons p ps =>
      obtain ⟨h1, h2, h3⟩ := h
      constructor
      intro A B W st b st' s Q E a S e hr q
      obtain ⟨y, st1, e1, e2⟩ := pbind_some e
      refine wpAny_items_cons (h2.run a S e1 hr fun W1 v s1 l1 hv h1' => ?_) h1
      cases y with
      | m i => cases e2
      | v y =>
        obtain ⟨ys, st2, e3, e4⟩ := pbind_some e2
        cases e4
        refine (ih h3).run a (S.mono l1.2) e3 h1' fun W2 vs s2 l2 hvs h2' => ?_
        exact q W2 (v :: vs) s2 (l1.trans l2) (.cons (V.mono l2.2 hv) hvs) h2'

noncomputable def pLst (ps : List (PM EV)) : PM EV := pbind (pAll ps) fun xs => fun st => if xs.length ≤ 1000 then some (.v (.lst xs), st) else none
noncomputable def pTup (ps : List (PM EV)) : PM EV := pbind (pAll ps) fun xs => fun st => if xs.length ≤ 1000 then some (.v (.tup xs), st) else none
theorem ref_List {k : Nat} {es : List Expr} {pos : Pos} {ps : List (PM EV)} (h : RefAll prog w F k es ps) : Ref prog w F k (eval (.List es pos) F.env) (EVR prog w) (pLst ps) := by
  constructor
  intro A B W st b st' s Q E a S e hr q
  obtain ⟨xs, st1, e1, e2⟩ := pbind_some e
  split at e2
  · rename_i hz
    cases e2
    refine wpAny_List ((ref_items h).run a S e1 hr fun W1 vs s1 l1 hv h1 => ⟨?_, ?_⟩)
    · have := Vs.length hv; rw [sizeLine_eq]; omega
    · exact h1.newList hv fun W2 v s2 l2 hv2 h2 => q W2 v s2 (l1.trans l2) hv2 h2
  · cases e2
theorem ref_Tuple {k : Nat} {es : List Expr} {kk : Nat} {pos : Pos} {ps : List (PM EV)} (h : RefAll prog w F k es ps) : Ref prog w F k (eval (.Tuple es kk pos) F.env) (EVR prog w) (pTup ps) := by
  constructor
  intro A B W st b st' s Q E a S e hr q
  obtain ⟨xs, st1, e1, e2⟩ := pbind_some e
  split at e2
  · rename_i hz
    cases e2
    refine wpAny_Tuple ((ref_items h).run a S e1 hr fun W1 vs s1 l1 hv h1 => ⟨?_, ?_⟩)
    · have := Vs.length hv; rw [sizeLine_eq]; omega
    · exact h1.newTuple hv fun W2 v s2 l2 hv2 h2 => q W2 v s2 (l1.trans l2) hv2 h2
  · cases e2
/-- new things of the frame's own -/
noncomputable def pNewM (o : MO) : PM EV := fun st => some (.m st.own.length, { st with own := st.own ++ [some o] })
theorem ref_ListM {k : Nat} {pos : Pos} : Ref prog w F k (eval (.List [] pos) F.env) (EVR prog w) (pNewM (.list [])) := by
  constructor
  intro A B W st b st' s Q E a S e hr q
  cases e
  exact wpAny_List (wpAny_items_nil ⟨by decide, hr.newListM S .nil q⟩)
theorem ref_DictM {k : Nat} {pos : Pos} : Ref prog w F k (eval (.Dict [] [] pos) F.env) (EVR prog w) (pNewM (.dict [])) := by
  constructor
  intro A B W st b st' s Q E a S e hr q
  cases e
  refine wpAny_Dict_empty ?_
  exact hr.allocM (o := .dict []) S rfl (fun h' e => ⟨[], by
    obtain ⟨o, es, ep, g, r⟩ := Heap.DictOf.new (knd := strKind prog w) s.heap
    rw [Heap.get?_push_size _ rfl] at g; cases g
    exact ⟨_, es, ep, e, r⟩, .nil⟩) q
/-- an empty dict, frozen -/
theorem ref_DictE {k : Nat} {pos : Pos} : Ref prog w F k (eval (.Dict [] [] pos) F.env) (EVR prog w) (pRet (.v (.dct []))) := by
  constructor
  intro A B W st b st' s Q E a S e hr q
  cases e
  refine wpAny_Dict_empty ?_
  have lo := low_of (hr.stat S) (Nat.le_refl s.heap.objs.size)
  exact hr.allocZ rfl (fun Z z e => V.dct (kvs := []) lo e (fun h' e' => by
    obtain ⟨o, es, ep, g, r⟩ := Heap.DictOf.new (knd := strKind prog w) s.heap
    rw [Heap.get?_push_size _ rfl] at g; cases g
    exact ⟨_, es, ep, e', r⟩) rfl (fun i v x e => by simp at e)) q

/-- a hidden thing comes out, frozen -/
theorem RR.leaveZ {wr : List Addr} {wg : List Nat} (h : RR prog w F (B.over wr wg s) W st s) (hc : ∀ (x : Str) (c : Addr), F.env.cells.lookup x = some c → c ∈ F.pc ∨ ∃ o, B.get c = some o) (hb : ∀ b ∈ wr, B.get b = none)
    (hg : ∀ i ∈ wg, B.gen i = none ∧ s.gens[i]? = some .finished) {a : Addr} {o : Obj} (ha : a ∈ wr) (g : s.heap.get? a = some o) :
    RR prog w F B { W with Z := fun b => if b = a then some o else W.Z b } st s ∧ W.le { W with Z := fun b => if b = a then some o else W.Z b } := by
  obtain ⟨hz, hm⟩ := h.dis a o (by simp only [Base.over]; rw [if_pos ha]; exact g)
  have z : W.Z.le fun b => if b = a then some o else W.Z b := fun b x e => by
    by_cases q : b = a
    · subst q; rw [hz] at e; cases e
    · simpa [q] using e
  refine ⟨(h.leave hc hb hg).frz z (fun b x e => ?_) (fun b x e => ?_), ⟨List.prefix_refl _, z⟩⟩
  · by_cases q : b = a
    · subst q; simp at e; subst e; exact g
    · simp [q] at e; exact h.zk _ _ e
  · by_cases q : b = a
    · subst q
      refine .inr ⟨hb b ha, fun m => hm ?_, fun i o e _ => hm (.tail _ (List.mem_append_right _ (List.mem_of_getElem? e)))⟩
      rcases List.mem_cons.mp m with rfl | m
      · exact .head _
      · exact .tail _ (List.mem_append_left _ m)
    · simp [q] at e; exact .inl e
theorem RR.fresh_base (h : RR prog w F B W st s) {wr : List Addr} (hn : ∀ b ∈ wr, s.heap.get? b = none) : ∀ b ∈ wr, B.get b = none := fun b hb => by
  cases q : B.get b with
  | none => rfl
  | some o => have := h.keep _ _ q; rw [hn b hb] at this; cases this
theorem RR.fresh_gen (h : RR prog w F B W st s) {wg : List Nat} (hn : ∀ i ∈ wg, s.gens[i]? = none) : ∀ i ∈ wg, B.gen i = none := fun b hb => by
  cases q : B.gen b with
  | none => rfl
  | some o => have := h.rest.gens _ _ q; rw [hn b hb] at this; cases this

/-- a dict display of one pair, frozen -/
noncomputable def pDict1 (pk pv : PM EV) : PM EV := pbind pk fun a => pbind pv fun b => match a, b with
  | .v (.str x), .v y => pRet (.v (.dct [(x, y)]))
  | _, _ => fun _ => none
theorem grows_frz (h : RR prog w F B W st s) {s' : Shared} {a : Addr} {o : Obj} (hk : RR prog w F B W st s') (hn : s.heap.get? a = none) (g : s'.heap.get? a = some o) :
    RR prog w F B { W with Z := fun b => if b = a then some o else W.Z b } st s' ∧ W.le { W with Z := fun b => if b = a then some o else W.Z b } := by
  refine RR.frzNew h hk hn ?_ g
  cases q : B.get a with
  | none => rfl
  | some x => have := h.keep _ _ q; rw [hn] at this; cases this
theorem ref_Dict1 {k : Nat} {ke ve : Expr} {pos : Pos} {pk pv : PM EV} (hk : Ref prog w F k (eval ke F.env) (EVR prog w) pk) (hv : Ref prog w F k (eval ve F.env) (EVR prog w) pv)
    (hshape : (evalEachOpt [some ke] F.env).zip ((evalEach [ve] F.env).map fun v => do let x ← v; standAt pos; pure x) = [(some (eval ke F.env), do let x ← eval ve F.env; standAt pos; pure x)] := by rfl) :
    Ref prog w F k (eval (.Dict [some ke] [ve] pos) F.env) (EVR prog w) (pDict1 pk pv) := by
  constructor
  intro A B W st b st' s Q E a S e hr q
  obtain ⟨x, st1, e1, e2⟩ := pbind_some e
  obtain ⟨y, st2, e3, e4⟩ := pbind_some e2
  split at e4
  · rename_i x y
    cases e4
    have hd0 : s.heap.get? s.heap.objs.size = none := none_of_size (Nat.le_refl _)
    have h0 : RR prog w F (B.over [s.heap.objs.size] [] { s with heap := s.heap.push { cls := .type "dict", data := .dict #[] } }) W st { s with heap := s.heap.push { cls := .type "dict", data := .dict #[] } } :=
      hr.enter (grows_of (tk := s.toks) (pushKeeps _)) (fun b hb => by rw [List.mem_singleton.mp hb]; exact hd0) (fun _ hi => by cases hi) ⟨fun b hb => by rw [List.mem_singleton.mp hb]; exact ⟨_, Heap.get?_push_size _ rfl⟩, fun _ hi => by cases hi⟩
    have hoff := hr.off (wr := [s.heap.objs.size]) (fun b hb => by rw [List.mem_singleton.mp hb]; exact hd0)
    have al0 : Alive [s.heap.objs.size] [] { s with heap := s.heap.push { cls := .type "dict", data := .dict #[] } } := ⟨fun b hb => by rw [List.mem_singleton.mp hb]; exact ⟨_, Heap.get?_push_size _ rfl⟩, fun _ hi => by cases hi⟩
    refine wpAny_Dict_pairs (knd := strKind prog w) (pairs := [(eval ke F.env, do let x ← eval ve F.env; standAt pos; pure x)]) hshape (by simp) (by simp) ?_
    show wpAny (model prog w) A (evalPairs [_]) _ E _
    unfold evalPairs
    refine wpAny_bind (hk.run a S e1 h0 fun W1 kv s1 l1 hkv h1 => wpAny_bind (wpAny_holding (wpAny_bind (hv.run a (S.mono l1.2) e3 h1 fun W2 vv s2 l2 hvv h2 => ?_))))
    obtain ⟨t, rfl⟩ := V.str_inv hkv
    obtain ⟨h3, al3, hh, _⟩ := h2.reover al0
    refine wpAny_bind (wpAny_standAt (wpAny_pure (wpAny_bind (wpAny_holding ?_))))
    unfold evalPairs
    refine wpAny_pure (wpAny_pure ?_)
    have hd2 : s2.heap.DictOf (strKind prog w) s.heap.objs.size [] := by
      obtain ⟨o, es, ep, g, r⟩ := Heap.DictOf.new (knd := strKind prog w) s.heap
      exact ⟨o, es, ep, (hh _ (by simp)).trans g, r⟩
    refine ⟨[(x, vv)], ⟨strKind_is prog w x t, rfl, trivial⟩, hd2, fun h' hd' hs' => ?_⟩
    obtain ⟨ob, es, ep, g', r'⟩ := id hd'
    have h4 := h3.turn hoff al3 (turns_of (tk := s2.toks + [((Value.str x t), vv)].length) fun b o hb e => hs'.extBut b o (fun q => hb (by simp [q])) e)
    obtain ⟨h5, l5⟩ := h4.leaveZ hr.cfix (hr.fresh_base (wr := [s.heap.objs.size]) fun b hb => by rw [List.mem_singleton.mp hb]; exact hd0) (fun _ hi => by cases hi) (a := s.heap.objs.size) (by simp) g'
    refine q _ _ _ ((l1.trans l2).trans l5) ?_ h5
    exact V.dct (kvs := [(x, vv)]) (low_of (hr.stat S) (Nat.le_refl _)) (if_pos rfl) (fun h'' g'' => ⟨_, es, ep, g'', r'⟩) rfl (Ds.all (.cons (V.mono l5.2 hvv) .nil))
  · cases e4
end Mine
end

section
open PySem PySem.W PyProof.Rows PySem.Calls
set_option maxRecDepth 10000
namespace Mine
variable {prog : Program} {w : World} {F : FE} {B : Base} {W : Wd} {st : PS} {s : Shared}

theorem gt_tup2 {A : Around} {Q : Value → Shared → Prop} {E : Value → Shared → Prop} {a b : Addr} {x y x' y' : Int} {t u t' u' : Tok} (ha : s.heap.IsTuple a #[.int x t, .int y u]) (hb : s.heap.IsTuple b #[.int x' t', .int y' u']) (hu : A.units < cLine)
    (h : Q (.bool (decide (x' < x ∨ (x = x' ∧ y' < y)))) s) : wpAny (model prog w) A (compareOp .Gt (.ref a) (.ref b)) Q E s := by
  have hTa : s.TypeIs (.ref a) "tuple" := ha.typeIs
  have hTb : s.TypeIs (.ref b) "tuple" := hb.typeIs
  obtain ⟨oa, hoa, _, na, hda⟩ := ha
  obtain ⟨ob, hob, _, nb, hdb⟩ := hb
  refine wpAny_richCompare_same_room (op := .Gt) hTa hTb PySem.F.slot_tuple_gt (wpAny_call_entry PySem.F.slot_tuple_gt hTa PySem.F.entry_tuple_gt ?_ (PySem.F.args_tuple_gt_2 _ _)) hu
  show wpAny _ _ (isInstance (.ref b) (.type "tuple") >>= _) _ _ s
  refine wpAny_bind (wpAny_isInstance hTb isSubtype_tuple_tuple ?_)
  simp only [Bool.not_true, Bool.false_eq_true, if_false]
  refine wpAny_bind (wpAny_tupleItemsOf hoa hda ?_)
  refine wpAny_bind (wpAny_tupleItemsOf hob hdb ?_)
  simp only [List.zip_cons_cons, List.zip_nil_right, List.forIn_cons, List.forIn_nil]
  refine wpAny_bind (wpAny_bind (wpAny_bind (wpAny_eqBool_int ?_)))
  by_cases h1 : x = x'
  · subst h1
    rw [beq_self_eq_true]
    simp only [Bool.not_true, Bool.false_eq_true, if_false]
    refine wpAny_pure (wpAny_bind (wpAny_bind (wpAny_eqBool_int ?_)))
    by_cases h2 : y = y'
    · subst h2
      rw [beq_self_eq_true]
      simp only [Bool.not_true, Bool.false_eq_true, if_false]
      refine wpAny_pure (wpAny_pure (wpAny_pure ⟨_, rfl, (fun e => nomatch e), ?_⟩))
      simpa [Builtin.Tuple.tupleCompareSizes] using h
    · rw [show (y == y') = false from by simpa using h2]
      simp only [Bool.not_false, if_true]
      refine wpAny_bind (wpAny_rule (wpAny_bind (P.gt_int (wpAny_bind (wpAny_pure (wpAny_pure (wpAny_pure (wpAny_pure ⟨_, rfl, (fun e => nomatch e), ?_⟩))))))))
      simpa using h
  · rw [show (x == x') = false from by simpa using h1]
    simp only [Bool.not_false, if_true]
    refine wpAny_bind (wpAny_rule (wpAny_bind (P.gt_int (wpAny_bind (wpAny_pure (wpAny_pure (wpAny_pure (wpAny_pure ⟨_, rfl, (fun e => nomatch e), ?_⟩))))))))
    simpa [h1] using h

/-- comparisons -/
noncomputable def ltP (a b : EV) : PS → Option Bool := fun _ => (iV a).bind fun x => (iV b).map fun y => decide (x < y)
theorem cmp_lt : CmpRef prog w .Lt ltP := by
  constructor
  intro F A B W st va vb a b c s Q E hA S ha hb e h q
  obtain ⟨x, ex, e⟩ := bind_some e
  obtain ⟨y, ey, rfl⟩ := Option.map_eq_some_iff.mp e
  obtain ⟨t, rfl⟩ := iV_inv ex ha
  obtain ⟨u, rfl⟩ := iV_inv ey hb
  exact P.lt_int (q _ h)
noncomputable def pV : EV → Option (Int × Int)
  | .v (.tup [.int x, .int y]) => some (x, y)
  | _ => none
noncomputable def gtP (a b : EV) : PS → Option Bool := fun _ => (iV a).elim ((pV a).bind fun p => (pV b).map fun r => decide (r.1 < p.1 ∨ (p.1 = r.1 ∧ r.2 < p.2))) (fun x => (iV b).map fun y => decide (x > y))
theorem pV_inv {a : EV} {p : Int × Int} (h : pV a = some p) : a = .v (.tup [.int p.1, .int p.2]) := by
  unfold pV at h
  split at h
  · cases h; rfl
  · cases h
theorem tup2_at {Z : Frz} {hp : Heap} {v : Value} {x y : Int} (zk : Z.In hp) (h : V prog w Z v (.tup [.int x, .int y])) : ∃ a t u, v = .ref a ∧ hp.IsTuple a #[.int x t, .int y u] := by
  obtain ⟨a, vs, rfl, ht, hv⟩ := tup_heap zk h
  obtain ⟨l⟩ := vs
  cases hv with
  | cons h1 h2 =>
    cases h2 with
    | cons h2 h3 =>
      cases h3
      obtain ⟨t, rfl⟩ := V.int_inv h1
      obtain ⟨u, rfl⟩ := V.int_inv h2
      exact ⟨a, t, u, rfl, ht⟩
theorem AOk.units {k : Nat} {A : Around} (a : AOk k A) : A.units < cLine := by have := a.u; omega
theorem cmp_gt : CmpRef prog w .Gt gtP := by
  constructor
  intro F A B W st va vb a b c s Q E hA S ha hb e h q
  rcases elim_cases e with e | ⟨x, ex, e⟩
  · obtain ⟨p, e1, e⟩ := bind_some e
    obtain ⟨r, e2, rfl⟩ := Option.map_eq_some_iff.mp e
    obtain rfl := pV_inv e1
    obtain rfl := pV_inv e2
    obtain ⟨a, t, u, rfl, h1⟩ := tup2_at h.zk ha
    obtain ⟨b, t', u', rfl, h2⟩ := tup2_at h.zk hb
    exact gt_tup2 h1 h2 hA.units (q _ h)
  · obtain ⟨y, ey, rfl⟩ := Option.map_eq_some_iff.mp e
    obtain ⟨t, rfl⟩ := iV_inv ex ha
    obtain ⟨u, rfl⟩ := iV_inv ey hb
    exact P.gt_int (q _ h)
noncomputable def neP (a b : EV) : PS → Option Bool := fun _ => (iV a).elim ((sV a).bind fun x => (sV b).map fun y => x != y) (fun x => (iV b).map fun y => x != y)
theorem cmp_ne : CmpRef prog w .NotEq neP := by
  constructor
  intro F A B W st va vb a b c s Q E hA S ha hb e h q
  rcases elim_cases e with e | ⟨x, ex, e⟩
  · obtain ⟨x, ex, e⟩ := bind_some e
    obtain ⟨y, ey, rfl⟩ := Option.map_eq_some_iff.mp e
    obtain ⟨t, rfl⟩ := sV_inv ex ha
    obtain ⟨u, rfl⟩ := sV_inv ey hb
    exact P.ne_str (by rw [toList_bne]; exact q _ h)
  · obtain ⟨y, ey, rfl⟩ := Option.map_eq_some_iff.mp e
    obtain ⟨t, rfl⟩ := iV_inv ex ha
    obtain ⟨u, rfl⟩ := iV_inv ey hb
    exact P.ne_int (q _ h)
noncomputable def isP (a b : EV) : PS → Option Bool := fun _ => (nV b).bind fun _ => (iV a).elim ((nV a).map fun _ => true) (fun _ => some false)
theorem cmp_is : CmpRef prog w .Is isP := by
  constructor
  intro F A B W st va vb a b c s Q E hA S ha hb e h q
  obtain ⟨_, eb, e⟩ := bind_some e
  obtain rfl := nV_inv eb hb
  rcases elim_cases e with e | ⟨x, ex, e⟩
  · obtain ⟨_, ea, rfl⟩ := Option.map_eq_some_iff.mp e
    obtain rfl := nV_inv ea ha
    exact is_none (q _ h)
  · cases e
    obtain ⟨t, rfl⟩ := iV_inv ex ha
    exact is_none (q _ h)
noncomputable def hasK (es : List (Str × PV)) (k : Str) : Bool := (es.lookup k).isSome
noncomputable def inP (a d : EV) : PS → Option Bool := fun st => (sV a).bind fun k => (dictOfS st d).map fun es => hasK es k
theorem lookup_isSome {α : Type} (l : List (Str × α)) (k : Str) : (l.lookup k).isSome = (l.map (·.1)).any (fun x => decide (x = k)) := by
  induction l with
  | nil => rfl
  | cons p r ih =>
    obtain ⟨a, b⟩ := p
    rw [List.lookup_cons]
    by_cases h : k = a
    · subst h; simp
    · have : (k == a) = false := by simpa using h
      rw [this]
      simp [ih, Ne.symm h]
theorem valueAt_isSome (kvs : List (Str × Value)) (k : Str) : (valueAt kvs k).isSome = (kvs.map (·.1)).any (fun x => decide (x = k)) := by
  induction kvs with
  | nil => rfl
  | cons p r ih =>
    obtain ⟨a, b⟩ := p
    unfold valueAt at ih ⊢
    by_cases h : a = k
    · subst h; simp
    · simp [h] at ih ⊢
      exact ih
theorem cmp_in : CmpRef prog w .In inP := by
  constructor
  intro F A B W st va vb a b c s Q E hA S ha hb e h q
  obtain ⟨x, ex, e⟩ := bind_some e
  obtain ⟨es, e1, rfl⟩ := Option.map_eq_some_iff.mp e
  obtain ⟨t, rfl⟩ := sV_inv ex ha
  obtain ⟨d, kvs, rfl, lo, hd, hds⟩ := dict_at h hb e1
  refine wpAny_in_of (strKind_is prog w _ t) lo hd.mapOf ?_
  have hv : ∀ k, (valueAt kvs k).isSome = hasK es k := fun k => by
    unfold hasK
    rw [lookup_isSome, valueAt_isSome, hds.keys]
  rw [hv]
  exact q _ (h.toks _)
noncomputable def notInP (a b : EV) : PS → Option Bool := fun _ => (sV a).bind fun y => (sV b).map fun x => (Builtin.Str.occurrences x y 0 x.length 1).isEmpty
theorem cmp_notIn : CmpRef prog w .NotIn notInP := by
  constructor
  intro F A B W st va vb a b c s Q E hA S ha hb e h q
  obtain ⟨x, ex, e⟩ := bind_some e
  obtain ⟨y, ey, rfl⟩ := Option.map_eq_some_iff.mp e
  obtain ⟨t, rfl⟩ := sV_inv ex ha
  obtain ⟨u, rfl⟩ := sV_inv ey hb
  exact P.notIn_str (by rw [Bool.not_not]; exact q _ h)
/-- equality: ints, strs, and dicts of ints -/
noncomputable def eqInt : PV → PV → Option Bool
  | .int a, .int b => some (a == b)
  | _, _ => none
noncomputable def eqRows (kb : List (Str × PV)) : List (Str × PV) → Option Bool
  | [] => some true
  | (k, v) :: r => match kb.lookup k with
    | none => some false
    | some y => match eqInt v y, eqRows kb r with
      | some e, some b => some (e && b)
      | _, _ => none
noncomputable def eqP (a b : EV) : PS → Option Bool := fun _ => (iV a).elim ((sV a).elim ((dV a).bind fun x => (dV b).bind fun y => (eqRows y x).map fun r => x.length == y.length && r) (fun x => (sV b).map fun y => x == y)) (fun x => (iV b).map fun y => x == y)
theorem Ds.lookup {Z : Frz} {kvs : List (Str × Value)} {es : List (Str × PV)} (h : Ds prog w Z kvs es) (k : Str) : (∀ p, es.lookup k = some p → ∃ v, valueAt kvs k = some v ∧ V prog w Z v p) ∧ (es.lookup k = none → valueAt kvs k = none) := by
  induction h with
  | nil => exact ⟨fun p e => (by cases e), fun _ => rfl⟩
  | @cons a v p vs ps hv _ ih =>
    unfold valueAt at ih ⊢
    by_cases hk : a = k
    · subst hk
      constructor
      · intro p' e
        simp at e
        subst e
        exact ⟨v, by simp, hv⟩
      · intro e
        simp at e
    · have hb : (k == a) = false := by simpa using Ne.symm hk
      rw [List.lookup_cons, hb]
      simp only [List.find?_cons, hk, decide_false]
      exact ih
theorem eqRows_hits {A : Around} {Z : Frz} {ka kb : List (Str × Value)} {ea eb : List (Str × PV)} (hb : Ds prog w Z kb eb) (ha : Ds prog w Z ka ea) : ∀ {r : Bool}, eqRows eb ea = some r → KeqHits A s kb ka r := by
  induction ha with
  | nil => intro r e; cases e; exact .nil
  | @cons a v p vs ps hv _ ih =>
    intro r e
    unfold eqRows at e
    split at e
    · rename_i hn
      cases e
      exact .miss ((hb.lookup a).2 hn)
    · rename_i y hy
      split at e
      · rename_i e1 b1 he hr
        cases e
        obtain ⟨vy, hvy, hvv⟩ := (hb.lookup a).1 _ hy
        unfold eqInt at he
        split at he
        · cases he
          obtain ⟨t, rfl⟩ := V.int_inv hv
          obtain ⟨u, rfl⟩ := V.int_inv hvv
          exact .hit hvy ((MeetsSeq.EqGives.int _ _ _ _).at _ _) (ih hr)
        · cases he
      · cases e
theorem cmp_eq : CmpRef prog w .Eq eqP := by
  constructor
  intro F A B W st va vb a b c s Q E hA S ha hb e h q
  rcases elim_cases e with e | ⟨x, ex, e⟩
  · rcases elim_cases e with e | ⟨x, ex, e⟩
    · obtain ⟨x, ex, e⟩ := bind_some e
      obtain ⟨y, ey, e⟩ := bind_some e
      obtain ⟨r, e1, rfl⟩ := Option.map_eq_some_iff.mp e
      obtain ⟨x, kx, ox, rfl, lx, gx, dx, hx⟩ := V.dct_inv (dV_inv ex ha)
      obtain ⟨y, ky, oy, rfl, ly, gy, dy, hy⟩ := V.dct_inv (dV_inv ey hb)
      refine keq_eq lx ly (dx _ (h.zk _ _ gx)) (dy _ (h.zk _ _ gy)) hA.units (fun _ => eqRows_hits hy hx e1) ?_
      rw [hx.length, hy.length]
      exact q _ h
    · obtain ⟨y, ey, rfl⟩ := Option.map_eq_some_iff.mp e
      obtain ⟨t, rfl⟩ := sV_inv ex ha
      obtain ⟨u, rfl⟩ := sV_inv ey hb
      exact P.eq_str (by rw [toList_beq]; exact q _ h)
  · obtain ⟨y, ey, rfl⟩ := Option.map_eq_some_iff.mp e
    obtain ⟨t, rfl⟩ := iV_inv ex ha
    obtain ⟨u, rfl⟩ := iV_inv ey hb
    exact P.eq_int (q _ h)
end Mine
end

section
open PySem PySem.W PyProof.Rows PySem.Calls
set_option maxRecDepth 10000
namespace Mine
variable {prog : Program} {w : World} {F : FE} {B : Base} {W : Wd} {st : PS} {s : Shared}

/-- len -/
noncomputable def lenP (st : PS) : EV → Option Int
  | .v (.str x) => if x.length ≤ 1000000 then some x.length else none
  | .v (.dct es) => if es.length ≤ 1000000 then some es.length else none
  | e => match listOf st e with
    | some xs => if xs.length ≤ 1000000 then some xs.length else none
    | none => none
noncomputable def pLen (p : PM EV) : PM EV := pbind p fun e => fun st => (lenP st e).map fun n => (.v (.int n), st)
theorem ref_len (ok : F.Ok) {k : Nat} {e : Expr} {p pos : Pos} {pe : PM EV} (hk : F.env.kindOf "len" = some .globalImplicit) (h : Ref prog w F k (eval e F.env) (EVR prog w) pe)
    (hs : starEach [e] F.env = (false, eval e F.env) :: starEach [] F.env := by rfl) : Ref prog w F k (eval (.Call (.Name "len" p) [e] [] pos) F.env) (EVR prog w) (pLen pe) := by
  constructor
  intro A B W st b st' s Q E a S he hr q
  obtain ⟨x, st1, e1, e2⟩ := pbind_some he
  obtain ⟨n, e3, e4⟩ := Option.map_eq_some_iff.mp e2
  cases e4
  refine call_builtin1 ok S hr (x := "len") (T := "len") (by decide) hk a h e1 (fun W1 v s1 l1 hv h1 => ?_) hs
  unfold lenP at e3
  split at e3
  · split at e3
    · rename_i hz
      cases e3
      obtain ⟨t, rfl⟩ := V.str_inv hv
      exact P.len_str (by omega) (q W1 _ _ l1 (show EVR prog w W1 _ (.v _) from V.int _ _) (h1.toks _))
    · cases e3
  · split at e3
    · rename_i es hz
      cases e3
      obtain ⟨d, kvs, o, rfl, lo, g, hd, hds⟩ := V.dct_inv (show V prog w W1.Z v (.dct es) from hv)
      have hl := hds.length
      refine call_len_dict lo (hd _ (h1.zk _ _ g)) (by omega) ?_
      rw [hl]
      exact q W1 _ _ l1 (show EVR prog w W1 _ (.v _) from V.int _ _) (h1.toks _)
    · cases e3
  · split at e3
    · rename_i xs hx
      split at e3
      · rename_i hz
        cases e3
        obtain ⟨l, vs, k, rfl, g, hvs⟩ := list_at h1 hv hx
        have hl := hvs.length
        rw [Array.length_toList] at hl
        refine Calls.call_len_list ⟨_, g, rfl, k, rfl⟩ (by omega) ?_
        rw [hl]
        exact q W1 _ _ l1 (show EVR prog w W1 _ (.v _) from V.int _ _) (h1.toks _)
      · cases e3
    · cases e3
/-- int of an int -/
noncomputable def intOf : EV → Option EV
  | .v (.int n) => some (.v (.int n))
  | _ => none
noncomputable def pInt (p : PM EV) : PM EV := pbind p fun e => fun st => (intOf e).map fun n => (n, st)
theorem ref_intc (ok : F.Ok) {k : Nat} {e : Expr} {p pos : Pos} {pe : PM EV} (hk : F.env.kindOf "int" = some .globalImplicit) (h : Ref prog w F k (eval e F.env) (EVR prog w) pe)
    (hs : starEach [e] F.env = (false, eval e F.env) :: starEach [] F.env := by rfl) : Ref prog w F k (eval (.Call (.Name "int" p) [e] [] pos) F.env) (EVR prog w) (pInt pe) := by
  constructor
  intro A B W st b st' s Q E a S he hr q
  obtain ⟨x, st1, e1, e2⟩ := pbind_some he
  obtain ⟨n, e3, e4⟩ := Option.map_eq_some_iff.mp e2
  cases e4
  refine call_type1 ok S hr (x := "int") (T := "int") (by decide) hk a h e1 (fun W1 v s1 l1 hv h1 => ?_) hs
  unfold intOf at e3
  split at e3
  · cases e3
    obtain ⟨t, rfl⟩ := V.int_inv hv
    exact call_int_int (q W1 _ _ l1 hv h1)
  · cases e3
/-- the sum of a list of ints -/
noncomputable def intsOf : List PV → Option (List Int)
  | [] => some []
  | .int n :: r => (intsOf r).map (n :: ·)
  | _ => none
noncomputable def pSum (p : PM EV) : PM EV := pbind p fun e => fun st => match e with
  | .v (.lst xs) => (intsOf xs).map fun ns => (.v (.int ns.sum), st)
  | _ => none
theorem ints_at {Z : Frz} : ∀ {vs : List Value} {xs : List PV} {ns : List Int}, Vs prog w Z vs xs → intsOf xs = some ns → (∀ v, v ∈ vs → ∃ a t, v = Value.int a t) ∧ numsOf vs = ns := by
  intro vs xs ns h
  induction h generalizing ns with
  | nil => intro e; cases e; exact ⟨fun v hv => (by cases hv), rfl⟩
  | @cons v p vs ps hv _ ih =>
    intro e
    unfold intsOf at e
    split at e
    · rename_i hh; cases hh
    · rename_i n r hh
      cases hh
      obtain ⟨ms, e1, e2⟩ := Option.map_eq_some_iff.mp e
      cases e2
      obtain ⟨i1, i2⟩ := ih e1
      obtain ⟨t, rfl⟩ := V.int_inv hv
      exact ⟨fun v hm => by
        rcases List.mem_cons.mp hm with rfl | hm
        · exact ⟨_, _, rfl⟩
        · exact i1 v hm, by simp [numsOf, i2]⟩
    · cases e
theorem ref_sum (ok : F.Ok) {k : Nat} {e : Expr} {p pos : Pos} {pe : PM EV} (hk : F.env.kindOf "sum" = some .globalImplicit) (h : Ref prog w F k (eval e F.env) (EVR prog w) pe)
    (hs : starEach [e] F.env = (false, eval e F.env) :: starEach [] F.env := by rfl) : Ref prog w F k (eval (.Call (.Name "sum" p) [e] [] pos) F.env) (EVR prog w) (pSum pe) := by
  constructor
  intro A B W st b st' s Q E a S he hr q
  obtain ⟨x, st1, e1, e2⟩ := pbind_some he
  refine call_builtin1 ok S hr (x := "sum") (T := "sum") (by decide) hk a h e1 (fun W1 v s1 l1 hv h1 => ?_) hs
  split at e2
  · rename_i xs
    obtain ⟨ns, e3, e4⟩ := Option.map_eq_some_iff.mp e2
    cases e4
    obtain ⟨l, vs, n, rfl, g, hvs⟩ := V.lst_inv (show V prog w W1.Z v (.lst xs) from hv)
    obtain ⟨i1, i2⟩ := ints_at hvs e3
    have hall : AllInts vs := fun v hm => i1 v (by simpa using hm)
    obtain ⟨ys, rfl⟩ := hall.items
    have hn := nums_intItems ys
    refine sum_intListG a.h ⟨_, h1.zk _ _ g, rfl, n, rfl⟩ fun h' tk t' hk' => ?_
    have e5 : preSum (numAt ys) ys.size = ns.sum := by
      rw [← i2, hn, preSum_eq, List.take_of_length_le (by simp)]
    rw [e5]
    exact q W1 _ _ l1 (show EVR prog w W1 _ (.v _) from V.int _ _) (h1.ext hk')
  · cases e2
/-- list(range(a, b)) -/
noncomputable def pListRange (a b : Int) : PM EV := fun st => if 0 ≤ a ∧ a ≤ b ∧ b ≤ 1000 then some (.v (.lst ((List.range (b - a).toNat).map fun (i : Nat) => PV.int (a + i))), st) else none
theorem ref_ListRange (ok : F.Ok) {k : Nat} {a b : Int} {k1 k2 : Nat} {p p1 p2 p3 pos pos' : Pos} (hk : F.env.kindOf "list" = some .globalImplicit) (hk' : F.env.kindOf "range" = some .globalImplicit)
    (hs1 : starEach [.Call (.Name "range" p1) [.Constant (.int a) k1 p2, .Constant (.int b) k2 p3] [] pos'] F.env = (false, eval (.Call (.Name "range" p1) [.Constant (.int a) k1 p2, .Constant (.int b) k2 p3] [] pos') F.env) :: starEach [] F.env := by rfl)
    (hs2 : starEach [.Constant (.int a) k1 p2, .Constant (.int b) k2 p3] F.env = [(false, eval (.Constant (.int a) k1 p2) F.env), (false, eval (.Constant (.int b) k2 p3) F.env)] := by rfl) :
    Ref prog w F k (eval (.Call (.Name "list" p) [.Call (.Name "range" p1) [.Constant (.int a) k1 p2, .Constant (.int b) k2 p3] [] pos'] [] pos) F.env) (EVR prog w) (pListRange a b) := by
  constructor
  intro A B W st r st' s Q E hA S he hr q
  unfold pListRange at he
  split at he
  · rename_i hz
    cases he
    refine wpAny_Call_NameR (builtin_val ok S hr (x := "list") (v := .type "list") (by decide) hk ?_)
    refine callWith_type1 ?_ hs1
    rw [hs1]
    refine spliced_cons ?_
    refine wpAny_Call_NameR (builtin_val ok S hr (x := "range") (v := .type "range") (by decide) hk' ?_)
    refine callWith_type1 ?_ hs2
    rw [hs2]
    refine spliced_cons (wpAny_Constant_int (i := a) (k := k1) (pos := p2) ?_)
    refine spliced_cons (wpAny_Constant_int (i := b) (k := k2) (pos := p3) ?_)
    refine spliced_nil ?_
    refine call_range_2 (spliced_nil ?_)
    have hsz : Builtin.Range.rangeSize a b 1 = ((b - a).toNat : Int) := by rw [rangeSize_one]; split <;> omega
    refine call_list_range hA.h (IsRange.new ..) (small_one (by omega) (by omega) (by omega) (by omega)) hsz (by omega) fun h' tk acc' c' hk2 hl hi => ?_
    have h1 := hr.ext (h' := s.heap.push { cls := .type "range", data := .fields #[.int a s.toks, .int b (s.toks + 1), .int 1 (s.toks + 1 + 1)] }) (tk := s.toks + 1 + 1 + 1) (pushKeeps _)
    have hn := none_of_size (h := (s.heap.push { cls := .type "range", data := .fields #[.int a s.toks, .int b (s.toks + 1), .int 1 (s.toks + 1 + 1)] })) (Nat.le_refl _)
    obtain ⟨h2, l2⟩ := h1.newZ (tk := tk) hk2 hn hl
    refine q _ _ _ l2 (show EVR prog w _ _ (.v _) from V.lst' (if_pos rfl) (Vs.of ?_ fun i v x e1 e2 => ?_)) h2
    · simp [hi.1]
    · obtain ⟨t, rfl⟩ := hi.2 i v (by simpa using e1)
      rw [List.getElem?_map] at e2
      obtain ⟨j, e3, e4⟩ := Option.map_eq_some_iff.mp e2
      obtain ⟨l, e5⟩ := List.getElem?_eq_some_iff.mp e3
      rw [List.getElem_range] at e5
      subst e5
      rw [← e4]
      have : a + (i : Nat) * 1 = a + (i : Nat) := by omega
      rw [this]
      exact V.int _ _
  · cases he

/-- methods -/
noncomputable def strsOf : List PV → Option (List Str)
  | [] => some []
  | .str n :: r => (strsOf r).map (n :: ·)
  | _ => none
theorem strs_at {Z : Frz} : ∀ {vs : List Value} {xs : List PV} {ns : List Str}, Vs prog w Z vs xs → strsOf xs = some ns → StrsAre vs ns := by
  intro vs xs ns h
  induction h generalizing ns with
  | nil => intro e; cases e; exact .nil
  | @cons v p vs ps hv _ ih =>
    intro e
    unfold strsOf at e
    split at e
    · rename_i hh; cases hh
    · rename_i n r hh
      cases hh
      obtain ⟨ms, e1, e2⟩ := Option.map_eq_some_iff.mp e
      cases e2
      obtain ⟨t, rfl⟩ := V.str_inv hv
      exact .cons _ _ (ih e1)
    · cases e
/-- the items of a list, an arr too -/
noncomputable def listA (st : PS) : EV → Option (List PV)
  | .m i => match st.own[i]? with
    | some (some (.list xs)) => some xs
    | some (some (.arr xs)) => some xs
    | _ => none
  | e => listOf st e
theorem listA_at (h : RR prog w F B W st s) {v : Value} {e : EV} {xs : List PV} (hv : EVR prog w W v e) (hl : listA st e = some xs) : ∃ a vs, v = .ref a ∧ s.heap.IsList a vs ∧ Vs prog w W.Z vs.toList xs := by
  unfold listA at hl
  split at hl
  · split at hl
    · rename_i ys e
      cases hl
      obtain ⟨a, rfl, _, vs, n, g, r⟩ := own_at h hv e
      exact ⟨a, vs, rfl, ⟨_, g, rfl, n, rfl⟩, r⟩
    · rename_i ys e
      cases hl
      obtain ⟨a, rfl, _, vs, g, r⟩ := own_at h hv e
      exact ⟨a, vs, rfl, g, r⟩
    · cases hl
  · obtain ⟨a, vs, n, rfl, g, r⟩ := list_at h hv hl
    exact ⟨a, vs, rfl, ⟨_, g, rfl, n, rfl⟩, r⟩
noncomputable def joinP (st : PS) (sep : Str) (e : EV) : Option Str := (listA st e).bind fun xs => (strsOf xs).bind fun ys => if (ys.map (·.length)).sum + ys.length * sep.length ≤ 1000000 then some (Txt.join sep ys) else none
noncomputable def pJoin (sep : Str) (p : PM EV) : PM EV := pbind p fun e => fun st => (joinP st sep e).map fun x => (.v (.str x), st)
theorem ref_join {k : Nat} {sep : Str} {kk : Nat} {cp apos pos : Pos} {e : Expr} {pe : PM EV} (h : Ref prog w F k (eval e F.env) (EVR prog w) pe)
    (hs : starEach [e] F.env = (false, eval e F.env) :: starEach [] F.env := by rfl)
    (hbase : attributeBase (.Constant (.str sep) kk cp) "join" F.env (eval (.Constant (.str sep) kk cp) F.env) = eval (.Constant (.str sep) kk cp) F.env := by rfl)
    (hfew : ((backTo pos (starEach [e] F.env)).all (fun x => !x.1) && (backToKw pos (keywordEach [] F.env)).all (fun x => x.1.isSome)
      && decide ([e].length + ([] : List Keyword).length + (if ([] : List Keyword).isEmpty then 0 else 1) < 30)) = true := by rfl)
    (hline : (apos.endLine == pos.line) = true := by rfl) : Ref prog w F k (eval (.Call (.Attribute (.Constant (.str sep) kk cp) "join" apos) [e] [] pos) F.env) (EVR prog w) (pJoin sep pe) := by
  constructor
  intro A B W st b st' s Q E a S he hr q
  obtain ⟨x, st1, e1, e2⟩ := pbind_some he
  obtain ⟨y, e3, e4⟩ := Option.map_eq_some_iff.mp e2
  cases e4
  refine wpAny_Call_method (T := "str") (id := "str.join") hbase hfew hline PySem.F.plainAttrs_str PySem.F.slot_str_join PySem.F.type_str_join (wpAny_Constant_str ⟨typeIs_str _ _ _, fun _ e => (nomatch e), ?_⟩)
  rw [hs]
  refine Calls.callWith_builtin rfl (Calls.evalArgs_plain (Calls.spliced_cons (h.run a S e1 (hr.toks _) fun W1 v s1 l1 hv h1 => Calls.spliced_nil ?_)))
  obtain ⟨xs, hx, e5⟩ := Option.bind_eq_some_iff.mp e3
  obtain ⟨ys, hy, e6⟩ := Option.bind_eq_some_iff.mp e5
  split at e6
  · rename_i hz
    cases e6
    obtain ⟨l, vs, rfl, hl, hvs⟩ := listA_at h1 hv hx
    exact join_list hl (strs_at hvs hy) (by omega) fun t' k' => q W1 _ _ l1 (show EVR prog w W1 _ (.v _) from V.str _ _) (h1.toks _)
  · cases e6

noncomputable def ownL (o : EV) : PM Nat := fun st => match o with
  | .m i => match st.own[i]? with
    | some (some (.list _)) => some (i, st)
    | _ => none
  | _ => none
noncomputable def pAppend (po pe : PM EV) : PM Unit := pbind po fun o => pbind (ownL o) fun i => pbind pe fun x => fun st => match x, st.own[i]? with
  | .v y, some (some (.list xs)) => if xs.length ≤ 1000 then some ((), { st with own := st.own.set i (some (.list (xs ++ [y]))) }) else none
  | _, _ => none
theorem ref_append {k : Nat} {o e : Expr} {apos pos : Pos} {po pe : PM EV} (ho : Ref prog w F k (eval o F.env) (EVR prog w) po) (h : Ref prog w F k (eval e F.env) (EVR prog w) pe)
    (hs : starEach [e] F.env = (false, eval e F.env) :: starEach [] F.env := by rfl)
    (hbase : attributeBase o "append" F.env (eval o F.env) = eval o F.env := by rfl)
    (hfew : ((backTo pos (starEach [e] F.env)).all (fun x => !x.1) && (backToKw pos (keywordEach [] F.env)).all (fun x => x.1.isSome)
      && decide ([e].length + ([] : List Keyword).length + (if ([] : List Keyword).isEmpty then 0 else 1) < 30)) = true := by rfl)
    (hline : (apos.endLine == pos.line) = true := by rfl) : Ref prog w F k (eval (.Call (.Attribute o "append" apos) [e] [] pos) F.env) IsNone (pAppend po pe) := by
  constructor
  intro A B W st b st' s Q E a S he hr q
  obtain ⟨x, st1, e1, he⟩ := pbind_some he
  obtain ⟨i, st1', e2, he⟩ := pbind_some he
  obtain ⟨y, st2, e3, e4⟩ := pbind_some he
  unfold ownL at e2
  split at e2
  · rename_i i'
    split at e2
    · rename_i xs0 eo
      cases e2
      split at e4
      · rename_i y xs eo2
        split at e4
        · rename_i hz
          cases e4
          refine wpAny_Call_method (T := "list") (id := "list.append") hbase hfew hline PySem.F.plainAttrs_list PySem.F.slot_list_append PySem.F.type_list_append (ho.run a S e1 hr fun W1 ov s1 l1 hov h1 => ?_)
          obtain ⟨l, rfl, hl, vs0, n0, g0, _⟩ := own_at h1 hov eo
          refine ⟨⟨_, g0, rfl⟩, fun b hb => by cases hb; exact ⟨_, g0, rfl⟩, ?_⟩
          rw [hs]
          refine P.append_list (h.run a (S.mono l1.2) e3 h1 fun W2 v s2 l2 hv h2 => ?_)
          obtain ⟨l', e5, hl', vs, n, g, hvs⟩ := own_at h2 (hov.mono l2) eo2
          cases e5
          have hlen := hvs.length
          rw [Array.length_toList] at hlen
          refine ⟨vs, n, by rw [sizeLine_eq]; omega, g, ?_⟩
          have hu := IsL.update g (fun xs => xs.push v)
          refine q W2 _ _ (l1.trans l2) rfl (h2.chg (tk := s2.toks) eo2 hl' (fun b ob hb e => (Heap.SameBut.update ..).extBut b ob hb e) ⟨_, _, hu, ?_⟩ ⟨_, hu⟩)
          simpa using hvs.append (Vs.one (show V prog w W2.Z v y from hv))
        · cases e4
      · cases e4
    · cases e2
  · cases e2
end Mine
end

section
open PySem PySem.W PyProof.Rows PySem.Calls
set_option maxRecDepth 10000
namespace Mine
variable {prog : Program} {w : World} {F : FE} {B : Base} {W : Wd} {st : PS} {s : Shared}

noncomputable def insAt (xs : List PV) (k : Nat) (y : PV) : List PV := xs.take k ++ [y] ++ xs.drop k
noncomputable def pInsert (po pi pe : PM EV) : PM Unit := pbind po fun o => pbind (ownL o) fun i => pbind pi fun j => pbind pe fun x => fun st => match j, x, st.own[i]? with
  | .v (.int j), .v y, some (some (.list xs)) => if xs.length ≤ 1000 ∧ 0 ≤ j ∧ j ≤ xs.length then some ((), { st with own := st.own.set i (some (.list (insAt xs j.toNat y))) }) else none
  | _, _, _ => none
theorem ref_insert {k : Nat} {o ei e : Expr} {apos pos : Pos} {po pi pe : PM EV} (ho : Ref prog w F k (eval o F.env) (EVR prog w) po) (hi : Ref prog w F k (eval ei F.env) (EVR prog w) pi) (h : Ref prog w F k (eval e F.env) (EVR prog w) pe)
    (hs : starEach [ei, e] F.env = [(false, eval ei F.env), (false, eval e F.env)] := by rfl)
    (hbase : attributeBase o "insert" F.env (eval o F.env) = eval o F.env := by rfl)
    (hfew : ((backTo pos (starEach [ei, e] F.env)).all (fun x => !x.1) && (backToKw pos (keywordEach [] F.env)).all (fun x => x.1.isSome)
      && decide ([ei, e].length + ([] : List Keyword).length + (if ([] : List Keyword).isEmpty then 0 else 1) < 30)) = true := by rfl)
    (hline : (apos.endLine == pos.line) = true := by rfl) : Ref prog w F k (eval (.Call (.Attribute o "insert" apos) [ei, e] [] pos) F.env) IsNone (pInsert po pi pe) := by
  constructor
  intro A B W st b st' s Q E a S he hr q
  obtain ⟨x, st1, e1, he⟩ := pbind_some he
  obtain ⟨i, st1', e2, he⟩ := pbind_some he
  obtain ⟨jv, st2, e3, he⟩ := pbind_some he
  obtain ⟨y, st3, e4, e5⟩ := pbind_some he
  unfold ownL at e2
  split at e2
  · rename_i i'
    split at e2
    · rename_i xs0 eo
      cases e2
      split at e5
      · rename_i j y xs eo2
        split at e5
        · rename_i hz
          cases e5
          refine wpAny_Call_method (T := "list") (id := "list.insert") hbase hfew hline PySem.F.plainAttrs_list PySem.F.slot_list_insert PySem.F.type_list_insert (ho.run a S e1 hr fun W1 ov s1 l1 hov h1 => ?_)
          obtain ⟨l, rfl, hl, vs0, n0, g0, _⟩ := own_at h1 hov eo
          refine ⟨⟨_, g0, rfl⟩, fun b hb => by cases hb; exact ⟨_, g0, rfl⟩, ?_⟩
          rw [hs]
          refine method_meets PySem.F.slot_list_insert PySem.F.entry_list_insert rfl (Calls.evalArgs_plain (Calls.spliced_cons (hi.run a (S.mono l1.2) e3 h1 fun W2 jv s2 l2 hjv h2 => Calls.spliced_cons (h.run a (S.mono (l1.trans l2).2) e4 h2 fun W3 v s3 l3 hv h3 => Calls.spliced_nil ?_))))
          obtain ⟨t, rfl⟩ := V.int_inv (show V prog w W2.Z jv (.int j) from hjv)
          obtain ⟨l', e6, hl', vs, n, g, hvs⟩ := own_at h3 (hov.mono (l2.trans l3)) eo2
          cases e6
          have hlen := hvs.length
          rw [Array.length_toList] at hlen
          have hfit : ¬ (!Builtin.List.listFitsIndex j) = true := by simp [Builtin.List.listFitsIndex]; omega
          refine ⟨rfl, ⟨_, g, rfl⟩, PySem.F.args_list_insert_3 _ _ _, _, AutoSeq1.list_insert_list_int_val_1 l vs n j t v hfit (by rw [sizeLine_eq]; omega), g, ?_⟩
          have hu := IsL.update g (fun xs => have k := if j < 0 then (j + (xs.size : Int)).toNat else min j.toNat xs.size; (xs.extract 0 k).push v ++ xs.extract k)
          refine q W3 _ _ ((l1.trans l2).trans l3) rfl (h3.chg (tk := s3.toks) eo2 hl' (fun b ob hb e => (Heap.SameBut.update ..).extBut b ob hb e) ⟨_, _, hu, ?_⟩ ⟨_, hu⟩)
          have hk : (if j < 0 then (j + (vs.size : Int)).toNat else min j.toNat vs.size) = j.toNat := by
            rw [if_neg (by omega)]; omega
          simp only [hk]
          have e7 : ((vs.extract 0 j.toNat).push v ++ vs.extract j.toNat).toList = vs.toList.take j.toNat ++ [v] ++ vs.toList.drop j.toNat := by
            simp
            exact List.take_of_length_le (by simp)
          rw [e7]
          exact ((hvs.take _).append (Vs.one (show V prog w W3.Z v y from hv))).append (hvs.drop _)
        · cases e5
      · cases e5
    · cases e2
  · cases e2

/-- stores to items -/
noncomputable def storeV (es : List (Str × PV)) (k : Str) (x : PV) : List (Str × PV) := if es.any (fun p => decide (p.1 = k)) then es.map (fun p => if p.1 = k then (p.1, x) else p) else es ++ [(k, x)]
theorem Ds.store {Z : Frz} {kvs : List (Str × Value)} {es : List (Str × PV)} (h : Ds prog w Z kvs es) {k : Str} {v : Value} {x : PV} (hv : V prog w Z v x) : Ds prog w Z (stored kvs k v) (storeV es k x) := by
  have hany : kvs.any (fun kv => decide (kv.1 = k)) = es.any (fun p => decide (p.1 = k)) := by
    have h1 : kvs.any (fun kv => decide (kv.1 = k)) = (kvs.map (·.1)).any (fun y => decide (y = k)) := by rw [List.any_map]; rfl
    have h2 : es.any (fun kv => decide (kv.1 = k)) = (es.map (·.1)).any (fun y => decide (y = k)) := by rw [List.any_map]; rfl
    rw [h1, h2, h.keys]
  unfold stored storeV
  rw [hany]
  split
  · clear hany
    rename_i hh
    clear hh
    induction h with
    | nil => exact .nil
    | @cons a v' p vs ps hv' _ ih =>
      simp only [List.map_cons]
      by_cases hk : a = k
      · simp only [hk, if_true]
        exact .cons hv ih
      · simp only [hk, if_false]
        exact .cons hv' ih
  · exact h.append (.cons hv .nil)
noncomputable def pSetItem (pv po pi : PM EV) : PM PF := pbind pv fun x => pbind po fun o => pbind pi fun j => fun st => match x, o, j with
  | .v y, .m i, .v (.int j) => match st.own[i]? with
    | some (some (.arr xs)) => if 0 ≤ j ∧ j < xs.length ∧ xs.length ≤ 1000 then some (.next, { st with own := st.own.set i (some (.arr (xs.set j.toNat y))) }) else none
    | _ => none
  | .v y, .m i, .v (.str k) => match st.own[i]? with
    | some (some (.dict es)) => if es.length ≤ 1000 then some (.next, { st with own := st.own.set i (some (.dict (storeV es k y))) }) else none
    | _ => none
  | _, _, _ => none
theorem ref_SetItem {k : Nat} {value o i : Expr} {pos' pos : Pos} {pv po pi : PM EV} (hv : Ref prog w F k (eval value F.env) (EVR prog w) pv) (ho : Ref prog w F k (eval o F.env) (EVR prog w) po) (hi : Ref prog w F k (eval i F.env) (EVR prog w) pi)
    (hs : swapsWith value (some (.Subscript o i pos')) pos.line F.env = pure false := by rfl) : Ref prog w F k (exec (.Assign [.Subscript o i pos'] value pos) F.env) (FR prog w) (pSetItem pv po pi) := by
  constructor
  intro A B W st f st' s Q E a S e h q
  obtain ⟨x, st1, e1, e⟩ := pbind_some e
  obtain ⟨ov, st2, e2, e⟩ := pbind_some e
  obtain ⟨j, st3, e3, e4⟩ := pbind_some e
  refine wpAny_Assign_Subscript (hv.run a S e1 h fun W1 v s1 l1 hv1 h1 => ho.run a (S.mono l1.2) e2 h1 fun W2 v2 s2 l2 hv2 h2 => hi.run a (S.mono (l1.trans l2).2) e3 h2 fun W3 v3 s3 l3 hv3 h3 => ?_) hs
  have hv1 := (hv1.mono l2).mono l3
  have hv2 := hv2.mono l3
  split at e4
  · obtain ⟨t, rfl⟩ := V.int_inv hv3
    split at e4
    · rename_i xs eo
      split at e4
      · rename_i hz
        cases e4
        obtain ⟨l, rfl, hl, vs, g, hvs⟩ := own_at h3 hv2 eo
        have hlen := hvs.length
        rw [Array.length_toList] at hlen
        refine wpAny_setItem_list g hz.1 (by omega) (by omega) fun h' hl' hs' => ?_
        refine q W3 _ _ ((l1.trans l2).trans l3) trivial (h3.chg (tk := s3.toks) eo hl (fun b ob hb e => hs'.extBut b ob hb e) ⟨_, hl', ?_⟩ (let ⟨o, g, _⟩ := hl'; ⟨o, g⟩))
        simpa using hvs.set hv1 _
      · cases e4
    · cases e4
  · obtain ⟨t, rfl⟩ := V.str_inv hv3
    split at e4
    · rename_i es eo
      split at e4
      · rename_i hz
        cases e4
        obtain ⟨d, rfl, hl, kvs, g, hds⟩ := own_at h3 hv2 eo
        have hlen := hds.length
        refine wpAny_setItem_pairs (strKind_is prog w _ t) g (fun h' hd' hs' => ?_) (by rw [sizeLine_eq]; omega)
        refine q W3 _ _ ((l1.trans l2).trans l3) trivial (h3.chg eo hl (fun b ob hb e => hs'.extBut b ob hb e) ⟨_, hd', hds.store hv1⟩ (let ⟨o, _, _, g, _⟩ := hd'; ⟨o, g⟩))
      · cases e4
    · cases e4
  · cases e4

/-- two places from a display of two -/
noncomputable def pPair (i j : Nat) (p1 p2 : PM EV) : PM PF := pbind p1 fun a => pbind p2 fun b => pbind (pStore i a) fun _ => pbind (pStore j b) fun _ => pNext
noncomputable def pPairS (i j : Nat) (p1 p2 : PM EV) : PM PF := pbind p1 fun a => pbind p2 fun b => pbind (pStore j b) fun _ => pbind (pStore i a) fun _ => pNext
theorem tuple2_ev {k : Nat} {e1 e2 : Expr} {kk : Nat} {pos : Pos} {p1 p2 : PM EV} (h1 : Ref prog w F k (eval e1 F.env) (EVR prog w) p1) (h2 : Ref prog w F k (eval e2 F.env) (EVR prog w) p2) {A : Around} (a : AOk k A) (S : ZStat prog w W.Z) (hr : RR prog w F B W st s)
    {x y : EV} {st1 st2 : PS} (x1 : p1 st = some (x, st1)) (x2 : p2 st1 = some (y, st2)) {Q : Value → Shared → Prop} {E : Value → Shared → Prop}
    (hs1 : starEach [e1, e2] F.env = (false, eval e1 F.env) :: starEach [e2] F.env) (hs2 : starEach [e2] F.env = (false, eval e2 F.env) :: starEach [] F.env)
    (q : ∀ W' t s' v1 v2, W.le W' → EVR prog w W' v1 x → EVR prog w W' v2 y → s'.heap.IsTuple t #[v1, v2] → RR prog w F B W' st2 s' → Q (.ref t) s') : wpAny (model prog w) A (eval (.Tuple [e1, e2] kk pos) F.env) Q E s := by
  refine wpAny_Tuple (wpAny_items_cons (h1.run a S x1 hr fun W1 v1 s1 l1 hv1 r1 => wpAny_items_cons (h2.run a (S.mono l1.2) x2 r1 fun W2 v2 s2 l2 hv2 r2 => wpAny_items_nil ⟨by simp [sizeLine_eq], ?_⟩) hs2) hs1)
  refine q W2 _ _ v1 v2 (l1.trans l2) (hv1.mono l2) hv2 ⟨_, Heap.get?_push_size _ rfl, rfl, 0, rfl⟩ (r2.ext (tk := s2.toks) (pushKeeps _))
theorem ref_AssignPair (ok : F.Ok) {k : Nat} {i j : Nat} {x y : Str} {px py tpos vpos pos : Pos} {k1 k2 : Nat} {e1 e2 : Expr} {p1 p2 : PM EV} (hi : F.nm[i]? = some x) (hj : F.nm[j]? = some y) (hw : F.Wr x) (hw' : F.Wr y)
    (h1 : Ref prog w F k (eval e1 F.env) (EVR prog w) p1) (h2 : Ref prog w F k (eval e2 F.env) (EVR prog w) p2)
    (hsw : swappedStores [.Tuple [.Name x px, .Name y py] k1 tpos] (.Tuple [e1, e2] k2 vpos) F.env = pure none)
    (hs1 : starEach [e1, e2] F.env = (false, eval e1 F.env) :: starEach [e2] F.env := by rfl) (hs2 : starEach [e2] F.env = (false, eval e2 F.env) :: starEach [] F.env := by rfl)
    (hsole : swapsWithSole [.Tuple [.Name x px, .Name y py] k1 tpos] (.Tuple [e1, e2] k2 vpos) pos.line F.env = pure false := by rfl) :
    Ref prog w F k (exec (.Assign [.Tuple [.Name x px, .Name y py] k1 tpos] (.Tuple [e1, e2] k2 vpos) pos) F.env) (FR prog w) (pPair i j p1 p2) := by
  constructor
  intro A B W st f st' s Q E a S e h q
  obtain ⟨u, st1, x1, e⟩ := pbind_some e
  obtain ⟨v, st2, x2, e⟩ := pbind_some e
  obtain ⟨_, st3, x3, e⟩ := pbind_some e
  obtain ⟨_, st4, x4, e⟩ := pbind_some e
  cases e
  refine Assign_Tuple (tuple2_ev h1 h2 a S h x1 x2 hs1 hs2 fun W1 t s1 v1 v2 l1 hv1 hv2 ht r1 => ?_) hsole hsw
  refine wpAny_assign_Tuple a.h ht rfl rfl fun h' hx' => ?_
  refine wpAny_assignInOrder_more (wpAny_assign_Name (store_p ok (r1.extBut hx') hi hw hv1 x3 fun s3 r3 => ?_))
  exact wpAny_assignInOrder_more (wpAny_assign_Name (store_p ok r3 hj hw' hv2 x4 fun s4 r4 => wpAny_assignInOrder_none (q W1 _ s4 l1 trivial r4)))
theorem ref_AssignPairS (ok : F.Ok) {k : Nat} {i j : Nat} {x y : Str} {px py tpos vpos pos : Pos} {k1 k2 : Nat} {e1 e2 : Expr} {p1 p2 : PM EV} (hi : F.nm[i]? = some x) (hj : F.nm[j]? = some y) (hw : F.Wr x) (hw' : F.Wr y)
    (h1 : Ref prog w F k (eval e1 F.env) (EVR prog w) p1) (h2 : Ref prog w F k (eval e2 F.env) (EVR prog w) p2)
    (hsw : swappedStores [.Tuple [.Name x px, .Name y py] k1 tpos] (.Tuple [e1, e2] k2 vpos) F.env = pure (some [x, y]))
    (hs1 : starEach [e1, e2] F.env = (false, eval e1 F.env) :: starEach [e2] F.env := by rfl) (hs2 : starEach [e2] F.env = (false, eval e2 F.env) :: starEach [] F.env := by rfl)
    (hsole : swapsWithSole [.Tuple [.Name x px, .Name y py] k1 tpos] (.Tuple [e1, e2] k2 vpos) pos.line F.env = pure false := by rfl) :
    Ref prog w F k (exec (.Assign [.Tuple [.Name x px, .Name y py] k1 tpos] (.Tuple [e1, e2] k2 vpos) pos) F.env) (FR prog w) (pPairS i j p1 p2) := by
  constructor
  intro A B W st f st' s Q E a S e h q
  obtain ⟨u, st1, x1, e⟩ := pbind_some e
  obtain ⟨v, st2, x2, e⟩ := pbind_some e
  obtain ⟨_, st3, x3, e⟩ := pbind_some e
  obtain ⟨_, st4, x4, e⟩ := pbind_some e
  cases e
  refine Assign_Tuple_swapped (names := [x, y]) (tuple2_ev h1 h2 a S h x1 x2 hs1 hs2 fun W1 t s1 v1 v2 l1 hv1 hv2 ht r1 => ?_) hsole hsw
  refine wpAny_unpackItems_tuple (items := #[v1, v2]) a.h ht fun h' hx' => ?_
  refine wpAny_assignInOrder_more (wpAny_bindName (store_p ok (r1.extBut hx') hj hw' hv2 x3 fun s3 r3 => ?_))
  exact wpAny_assignInOrder_more (wpAny_bindName (store_p ok r3 hi hw hv1 x4 fun s4 r4 => wpAny_assignInOrder_none (q W1 _ s4 l1 trivial r4)))

/-- a tuple target takes a value -/
theorem ref_AssignT {k : Nat} {elts : List Expr} {k1 : Nat} {tpos pos : Pos} {value : Expr} {p : PM EV} {asg : PV → PM Unit} (hv : Ref prog w F k (eval value F.env) (EVR prog w) p) (hT : TRef prog w F (.Tuple elts k1 tpos) asg)
    (hs : swapsWithSole [.Tuple elts k1 tpos] value pos.line F.env = pure false := by rfl) (hw : swappedStores [.Tuple elts k1 tpos] value F.env = pure none := by rfl) :
    Ref prog w F k (exec (.Assign [.Tuple elts k1 tpos] value pos) F.env) (FR prog w) (pAsgT asg p) := by
  constructor
  intro A B W st f st' s Q E a S e h q
  obtain ⟨u, st1, x1, e⟩ := pbind_some e
  split at e
  · rename_i x
    obtain ⟨_, st2, x2, e⟩ := pbind_some e
    cases e
    exact Assign_Tuple (hv.run a S x1 h fun W1 v s1 l1 hv1 h1 => hT.run a.h hv1 x2 h1 fun s2 h2 => q W1 _ s2 l1 trivial h2) hs hw
  · cases e

/-- [x] * n, of the frame's own -/
noncomputable def mulMP : EV → EV → PM EV
  | .v (.lst [x]), .v (.int n) => fun st => if 0 < n ∧ n ≤ 1000 then some (.m st.own.length, { st with own := st.own ++ [some (.arr (List.replicate n.toNat x))] }) else none
  | _, _ => fun _ => none
theorem op_mulM : OpRef prog w (binaryOp .Mult) mulMP := by
  constructor
  intro F A B W st va vb a b r st' s Q E hA S ha hb e h q
  unfold mulMP at e
  split at e
  · rename_i x n
    obtain ⟨u, rfl⟩ := V.int_inv hb
    split at e
    · rename_i hz
      cases e
      obtain ⟨y, vs, k, rfl, g, hv⟩ := list_at h ha rfl
      obtain ⟨l⟩ := vs
      cases hv with
      | cons hx hn =>
        cases hn
        rename_i v
        refine wpAny_binaryOp_repeat_ref (T := "list") (U := "int") (by decide) ⟨_, g, rfl⟩ (fun s' => typeIs_int s' n u) noFill_list_mul PySem.F.fills_int_mul PySem.F.slot_int_rmul repeat_list PySem.F.slot_int_index.lookup
          (call_meets PySem.F.slot_int_rmul (typeIs_int s n u) PySem.F.entry_int_rmul (PySem.F.args_int_rmul_2 _ _) (int___rmul___int_list n u y #[v] k)
            ⟨g, rfl, ⟨_, g, rfl⟩, call_meets PySem.F.slot_list_mul ⟨_, g, rfl⟩ PySem.F.entry_list_mul (PySem.F.args_list_mul_2 _ _)
              (AutoListH.list___mul___list_int_3 y #[v] k n u (by simp [Builtin.List.listFitsIndex]; omega) (by simp; omega) (by simp [Builtin.List.listTooLong, sizeLine]; omega))
              ⟨g, ?_⟩⟩)
        have ee : (List.replicate (if (#[v] : Array Value).isEmpty = true then 0 else n.toNat) #[v]).foldl (fun x1 x2 => x1 ++ x2) #[] = (List.replicate n.toNat v).toArray := by
          rw [if_neg (by simp)]; exact foldl_single v _
        rw [ee]
        exact h.allocM (o := .arr (List.replicate n.toNat x)) S rfl (fun h' e => ⟨_, ⟨_, e, rfl, 0, rfl⟩, by simpa using Vs.replicate hx _⟩) q
    · cases e
  · cases e
end Mine
end

section
open PySem PySem.W PyProof.Rows PySem.Calls
set_option maxRecDepth 10000
namespace Mine
variable {prog : Program} {w : World} {F : FE} {B : Base} {W : Wd} {st : PS} {s : Shared}

theorem bindL_miss {ko : Str → Option NameKind} {y : Str} : ∀ (bs : List (Str × Value)) (m : Str → Option Value), y ∉ bs.map (·.1) → bindL ko bs m y = m y
  | [], _, _ => rfl
  | (n, v) :: r, m, h => by
    have h1 : y ≠ n := fun e => h (by simp [e])
    have h2 : y ∉ r.map (·.1) := fun e => h (by simp only [List.map_cons]; exact .tail _ e)
    unfold bindL
    rw [bindL_miss r _ h2]
    split
    · simp [h1]
    · rfl
theorem bindL_get {ko : Str → Option NameKind} : ∀ (bs : List (Str × Value)) (m : Str → Option Value), (∀ x ∈ bs, ko x.1 = some .local) → (bs.map (·.1)).Nodup → ∀ (i : Nat) (n : Str) (v : Value), bs[i]? = some (n, v) → bindL ko bs m n = some v
  | [], _, _, _, i, n, v, e => by simp at e
  | (n, v) :: r, m, hl, nd, i, n', v', e => by
    have nd' : n ∉ r.map (·.1) ∧ (r.map (·.1)).Nodup := List.nodup_cons.mp nd
    unfold bindL
    rw [if_pos (hl (n, v) (.head _))]
    cases i with
    | zero =>
      simp at e
      obtain ⟨rfl, rfl⟩ := e
      rw [bindL_miss r _ nd'.1]
      simp
    | succ i =>
      simp at e
      exact bindL_get r _ (fun x hx => hl x (.tail _ hx)) nd'.2 i n' v' e
theorem bindC_local {ko : Str → Option NameKind} : ∀ (bs : List (Str × Value)) (m : Str → Option Value), (∀ x ∈ bs, ko x.1 = some .local) → bindC ko bs m = m
  | [], _, _ => rfl
  | (n, v) :: r, m, hl => by
    unfold bindC
    rw [if_pos (hl (n, v) (.head _))]
    exact bindC_local r m fun x hx => hl x (.tail _ hx)

noncomputable def baseOf (Z : Frz) (s : Shared) : Base := { get := fun b => if (Z b).isSome then none else s.heap.get? b, gen := fun i => s.gens[i]?, drawn := s.drawn, os := s.os }
noncomputable def st0 (n : Nat) (xs : List PV) : PS := { loc := xs.map (fun x => some (.v x)) ++ List.replicate (n - xs.length) none, own := [] }

theorem enterFrame {Z : Frz} {s s₁ : Shared} {params : List Str} {vs : List Value} {xs : List PV} (ok : F.Ok) (zk : Z.In s.heap) (hpc : F.pc = F.env.cells.map (·.2)) (hlv : params.length = vs.length) (hv : Vs prog w Z vs xs)
    (hpre : params <+: F.nm) (hloc : ∀ x ∈ params, F.env.kindOf x = some .local) (hcell : ∀ n c, (n, c) ∈ F.env.cells → F.env.cells.lookup n = some c)
    (x : InCallC s F.env.locals (bindL F.env.kindOf (params.zip vs) fun _ => none) F.env.cells (bindC F.env.kindOf (params.zip vs) fun _ => none) s₁) :
    RR prog w F (baseOf Z s) ⟨[], Z⟩ (st0 F.nm.length xs) s₁ := by
  have hfr : s.heap.objs.size ≤ F.env.locals := x.toInCall.fresh
  have hkeep := x.toInCall.keep
  have hmp : (params.zip vs).map (·.1) = params := List.map_fst_zip (Nat.le_of_eq hlv)
  have hlb : ∀ y ∈ params.zip vs, F.env.kindOf y.1 = some .local := fun y hy => hloc _ (by
    have : y.1 ∈ (params.zip vs).map (·.1) := List.mem_map_of_mem hy
    rwa [hmp] at this)
  have hnd : ((params.zip vs).map (·.1)).Nodup := by
    rw [hmp]
    obtain ⟨l, e⟩ := hpre
    exact (List.nodup_append.mp (e ▸ ok.nd)).1
  have hlx : xs.length = params.length := by rw [← hv.length, hlv]
  have hcm : bindC F.env.kindOf (params.zip vs) (fun _ => none) = fun _ => none := bindC_local _ _ hlb
  have hst : ∀ (i : Nat) (e : EV), (st0 F.nm.length xs).loc[i]? = some (some e) → i < params.length ∧ ∃ p, xs[i]? = some p ∧ e = .v p := by
    intro i e h
    simp only [st0] at h
    rcases Nat.lt_or_ge i xs.length with hi | hi
    · rw [List.getElem?_append_left (by simpa using hi), List.getElem?_map] at h
      obtain ⟨p, h1, h2⟩ := Option.map_eq_some_iff.mp h
      cases h2
      exact ⟨hlx ▸ hi, p, h1, rfl⟩
    · rw [List.getElem?_append_right (by simpa using hi)] at h
      have := List.mem_of_getElem? h
      have := (List.mem_replicate.mp this).2
      cases this
  have hpn : ∀ (i : Nat) (y : Str), i < params.length → F.nm[i]? = some y → params[i]? = some y := by
    intro i y hi h
    obtain ⟨l, e⟩ := hpre
    rw [← e, List.getElem?_append_left hi] at h
    exact h
  have hnew : ∀ a ∈ F.env.locals :: F.pc, s.heap.objs.size ≤ a := by
    intro a ha
    rcases List.mem_cons.mp ha with rfl | ha
    · exact hfr
    · rw [hpc] at ha
      obtain ⟨⟨n, c⟩, h1, rfl⟩ := List.mem_map.mp ha
      exact Nat.le_trans hfr (Nat.le_of_lt (x.above n c h1))
  have hnn : ∀ a ∈ F.env.locals :: F.pc, s.heap.get? a = none := fun a ha => none_of_size (hnew a ha)
  obtain ⟨h₁, tk, rfl⟩ := x.toInCall.same
  refine { keep := fun b o e => ?_, zk := fun b o e => hkeep b o (zk b o e), rest := ⟨rfl, rfl, fun i y e => e, fun i y e e' => ?_⟩, ll := ?_, locs := ⟨_, x.toInCall.ns, fun i y e h1 h2 h3 => ?_⟩, cels := fun i y c h1 h2 h3 => ⟨_, x.cell y c h3, fun e h4 => ?_⟩,
           cfix := fun y c h => .inl ?_, objs := fun i o e => by simp [st0] at e, len := rfl, nd := ?_, dis := fun b o e => ?_, fpriv := fun a ha => ?_, alive := fun a ha => ?_, fown := fun i a o e => by simp at e, low := fun a ha => by cases ha }
  · simp only [baseOf] at e
    split at e
    · cases e
    · exact hkeep b o e
  · have e' : s.gens[i]? = some y := e'
    rw [show s.gens[i]? = none from e] at e'; cases e'
  · simp [st0]; rw [hlx]; obtain ⟨l, e⟩ := hpre; rw [← e]; simp
  · obtain ⟨hi, p, h4, rfl⟩ := hst i e h3
    have hy := hpn i y hi h1
    obtain ⟨v, h5, h6⟩ := hv.get h4
    refine ⟨v, bindL_get _ _ hlb hnd i y v ?_, h6⟩
    rw [List.getElem?_zip_eq_some]
    exact ⟨hy, h5⟩
  · obtain ⟨hi, p, h5, rfl⟩ := hst i e h4
    have hy := hpn i y hi h1
    have := hloc y (List.mem_of_getElem? hy)
    rw [h2] at this; cases this
  · rw [hpc]; exact List.mem_map.mpr ⟨(y, c), mem_of_lookup h, rfl⟩
  · show (F.env.locals :: (F.pc ++ [])).Nodup
    rw [List.append_nil, hpc]
    refine List.nodup_cons.mpr ⟨fun m => ?_, ?_⟩
    · obtain ⟨⟨n, c⟩, h1, h2⟩ := List.mem_map.mp m
      have := x.above n c h1
      have h2 : c = F.env.locals := h2
      rw [h2] at this
      exact Nat.lt_irrefl _ this
    · exact List.pairwise_map.mpr x.apart
  · simp only [baseOf] at e
    split at e
    · cases e
    · rename_i hz
      refine ⟨by simpa using hz, fun m => ?_⟩
      rw [List.append_nil] at m
      rw [hnn b m] at e; cases e
  · show Z a = none
    cases q : Z a with
    | none => rfl
    | some o => have := zk _ _ q; rw [hnn a ha] at this; cases this
  · rw [List.append_nil] at ha
    rcases List.mem_cons.mp ha with rfl | ha
    · obtain ⟨o, _, _, g, _⟩ := x.toInCall.ns; exact ⟨o, g⟩
    · rw [hpc] at ha
      obtain ⟨⟨n, c⟩, h1, rfl⟩ := List.mem_map.mp ha
      obtain ⟨o, g, _⟩ := x.cell n c (hcell n c h1)
      exact ⟨o, g⟩

/-- what a function of the program does -/
noncomputable def FunOkT (prog : Program) (w : World) (k : Nat) (addr : Addr) (f : List PV → Option PV) : Prop :=
  ∀ {A : Around} {Z : Frz} {s : Shared} {vs : List Value} {xs : List PV} {r : PV} {Q : Value → Shared → Prop} {E : Value → Shared → Prop},
    AOk k A → ZStat prog w Z → Z.In s.heap → Vs prog w Z vs xs → f xs = some r →
    (∀ Z' v s', Z.le Z' → Grows [] s s' → Z'.In s'.heap → (∀ a o, Z' a = some o → Z a = some o ∨ s.heap.get? a = none) → V prog w Z' v r → Q v s') →
    wpAny (model prog w) A (call (.ref addr) vs) Q E s

structure FunOk (prog : Program) (w : World) (k : Nat) (addr : Addr) (f : List PV → Option PV) : Prop where
  run : FunOkT prog w k addr f

/-- a body's answer -/
noncomputable def runBody (n : Nat) (pb : PM PF) (xs : List PV) : Option PV := match pb (st0 n xs) with
  | some (.ret (.v r), _) => some r
  | _ => none

theorem FunOk.ofBody {k : Nat} {addr : Addr} {d : Arguments × List Stmt × Scope} {nm params : List Str} {pb : PM PF} (hfn : ∀ h, Stat prog w h → FnAt h addr d)
    (hbind : ∀ name qual doc pm an cdv ct (vs : List Value), vs.length = params.length → bindArgs (fnOf name qual d.1 d.2.1 d.2.2 .none .none doc pm an cdv ct) ⟨vs, []⟩ = pure (params.zip vs))
    (hok : ∀ fd L, fd.scope = d.2.2 → fd.globals = mainGlobals → fd.builtins = builtinsNs → FE.Ok ⟨callEnvC fd L addr, nm, (callEnvC fd L addr).cells.map (·.2)⟩)
    (hcell : ∀ fd L, fd.scope = d.2.2 → ∀ n c, (n, c) ∈ (callEnvC fd L addr).cells → (callEnvC fd L addr).cells.lookup n = some c)
    (hpre : params <+: nm) (hloc : ∀ x ∈ params, d.2.2.names.lookup x = some .local)
    (hbody : ∀ fd L, fd.scope = d.2.2 → fd.globals = mainGlobals → fd.builtins = builtinsNs → Ref prog w ⟨callEnvC fd L addr, nm, (callEnvC fd L addr).cells.map (·.2)⟩ k (execs d.2.1 (callEnvC fd L addr)) (FR prog w) pb)
    (hco : d.2.2.isCoroutine = false) (hgen : d.2.2.isGenerator = false) (hk : d.2.2.kind = .function) :
    FunOk prog w (k + 1) addr (fun xs => if xs.length = params.length then runBody nm.length pb xs else none) := by
  constructor
  intro A Z s vs xs r Q E a S zk hv hf q
  dsimp only at hf
  split at hf
  · rename_i hlx
    obtain ⟨o, name, qual, doc, pm, an, cdv, ct, ho, hd, hcd⟩ := hfn _ (S.all _ zk)
    have hlv : vs.length = params.length := by rw [hv.length, hlx]
    have hko : ∀ L x, (callEnvC (fnOf name qual d.1 d.2.1 d.2.2 .none .none doc pm an cdv ct) L addr).kindOf x = d.2.2.names.lookup x := fun L x => rfl
    refine wpAny_call (codeAny_call_cells (fd := fnOf name qual d.1 d.2.1 d.2.2 .none .none doc pm an cdv ct) (by have := a.d; omega) ho hd (S.all _ zk).nolim hcd rfl (hbind name qual doc pm an cdv ct vs hlv) rfl (fun x hx => .inl (hloc _ ?_)) (fun s₁ x => ?_) hco hgen hk)
    · have : x.1 ∈ (params.zip vs).map (·.1) := List.mem_map_of_mem hx
      rwa [List.map_fst_zip (Nat.le_of_eq hlv.symm)] at this
    · unfold runBody at hf
      split at hf
      · rename_i r' st' he
        cases hf
        have ok := hok (fnOf name qual d.1 d.2.1 d.2.2 .none .none doc pm an cdv ct) s.heap.objs.size rfl rfl rfl
        have hr := enterFrame (F := ⟨callEnvC _ s.heap.objs.size addr, nm, _⟩) ok zk rfl hlv.symm hv hpre (fun x hx => hloc x hx) (hcell _ _ rfl) x
        refine (hbody _ _ rfl rfl rfl).run a.deeper S he hr fun W' fl s' l hfl r' => ?_
        cases fl with
        | ret v =>
          refine q W'.Z v s' l.2 ⟨fun b o e => ?_, r'.rest.drawn, r'.rest.os, r'.rest.gens, fun i x e e' => .inl (r'.rest.fin i x e e')⟩ r'.zk (fun b o e => ?_) hfl
          · cases hz : Z b with
            | none => exact r'.keep b o (by simp [baseOf, hz, e])
            | some o' =>
              have h1 := zk _ _ hz
              rw [e] at h1; cases h1
              exact r'.zk _ _ (l.2 _ _ hz)
          · cases hz : Z b with
            | some o' =>
              have h1 := l.2 _ _ hz
              rw [e] at h1; cases h1
              exact .inl rfl
            | none =>
              refine .inr ?_
              cases hs : s.heap.get? b with
              | none => rfl
              | some o' =>
                have := (r'.dis b o' (by simp [baseOf, hz, hs])).1
                rw [e] at this; cases this
        | _ => exact hfl.elim
      · cases hf
  · cases hf

theorem RR.grow (h : RR prog w F B W st s) {s' : Shared} (g : Grows [] s s') : RR prog w F B W st s' := by
  have := h.enter (wr := []) (wg := []) g (fun _ h => nomatch h) (fun _ h => nomatch h) ⟨fun _ h => (nomatch h), fun _ h => (nomatch h)⟩
  exact this.leave h.cfix (fun _ h => nomatch h) (fun _ h => nomatch h)
/-- after a call -/
theorem RR.called (h : RR prog w F B W st s) {Z' : Frz} {s' : Shared} (z : W.Z.le Z') (g : Grows [] s s') (zk : Z'.In s'.heap) (hn : ∀ a o, Z' a = some o → W.Z a = some o ∨ s.heap.get? a = none) : RR prog w F B { W with Z := Z' } st s' ∧ W.le { W with Z := Z' } := by
  refine ⟨(h.grow g).frz z zk fun a o e => ?_, ⟨List.prefix_refl _, z⟩⟩
  rcases hn a o e with r | r
  · exact .inl r
  · refine .inr ⟨?_, fun m => ?_, fun i o e _ => ?_⟩
    · cases q : B.get a with
      | none => rfl
      | some x => have := h.keep _ _ q; rw [r] at this; cases this
    · have : a ∈ F.env.locals :: (F.pc ++ W.ρ) := by
        rcases List.mem_cons.mp m with rfl | m
        · exact .head _
        · exact .tail _ (List.mem_append_left _ m)
      obtain ⟨o, e⟩ := h.alive a this; rw [r] at e; cases e
    · obtain ⟨o, e⟩ := h.alive a (.tail _ (List.mem_append_right _ (List.mem_of_getElem? e))); rw [r] at e; cases e

noncomputable def pCall (f : List PV → Option PV) (ps : List (PM EV)) : PM EV := pbind (pAll ps) fun xs => fun st => (f xs).map fun r => (.v r, st)
theorem ref_Call (ok : F.Ok) {k : Nat} {x : Str} {addr : Addr} {d : Arguments × List Stmt × Scope} {f : List PV → Option PV} {e : Expr} {es : List Expr} {p pos : Pos} {ps : List (PM EV)} (hx : (x, .ref addr) ∈ gtab) (hk : F.env.kindOf x = some .globalImplicit)
    (hf : FunOk prog w k addr f) (hfn : ∀ h, Stat prog w h → FnAt h addr d) (ha : addr ∈ fnAddrs) (hps : RefAll prog w F k (e :: es) ps) (hd : (x == ("__debug__" : Str)) = false := by decide) :
    Ref prog w F k (eval (.Call (.Name x p) (e :: es) [] pos) F.env) (EVR prog w) (pCall f ps) := by
  constructor
  intro A B W st b st' s Q E a S he hr q
  obtain ⟨xs, st1, e1, e2⟩ := pbind_some he
  obtain ⟨r, e3, e4⟩ := Option.map_eq_some_iff.mp e2
  cases e4
  refine wpAny_Call_NameR (global_val ok S hr hx hk ?_ hd)
  obtain ⟨o, name, qual, doc, pm, an, cdv, ct, ho, hdt, hcd⟩ := hfn _ (hr.stat S)
  have he : starEach (e :: es) F.env = (false, eval e F.env) :: starEach es F.env := by
    cases ps with
    | nil => exact hps.elim
    | cons => exact hps.1
  obtain ⟨o', hz⟩ := S.fns addr ha
  have h0 := hr.zk _ _ hz
  rw [ho] at h0; cases h0
  refine callWith_def hdt ((ref_items (pos := pos) hps).run a S e1 hr fun W1 vs s1 l1 hv h1 => ⟨h1.zk _ _ (l1.2 _ _ hz), ?_⟩) he
  refine hf.run a (S.mono l1.2) h1.zk hv e3 fun Z' v s' z g zk hn hvr => ?_
  obtain ⟨h2, l2⟩ := h1.called z g zk hn
  exact q _ v s' (l1.trans l2) hvr h2
end Mine
end

section
open PySem PySem.W PyProof.Rows PySem.Calls
set_option maxRecDepth 10000
namespace Mine
variable {prog : Program} {w : World} {F : FE} {B : Base} {W : Wd} {st : PS} {s : Shared}

/-- the turns of a list comprehension -/
noncomputable def compLoop (asg : PV → PM Unit) (test : PM Bool) (elt : PM EV) : List PV → PM (List PV)
  | [] => pRet []
  | x :: xs => pbind (asg x) fun _ => pbind test fun b => match b with
    | true => pbind elt fun e => match e with
      | .v y => pbind (compLoop asg test elt xs) fun ys => pRet (y :: ys)
      | .m _ => fun _ => none
    | false => compLoop asg test elt xs
noncomputable def capt : Option (Option EV) → Option EV
  | some (some (.v p)) => some (.v p)
  | _ => none
noncomputable def inSt (nT : Nat) (caps : List Nat) (st : PS) : PS := { loc := List.replicate nT none ++ caps.map fun i => capt st.loc[i]?, own := [] }
noncomputable def pComp (nT : Nat) (caps : List Nat) (pit : PM (List PV)) (asg : PV → PM Unit) (test : PM Bool) (elt : PM EV) : PM EV :=
  pbind pit fun xs => fun st => if xs.length ≤ 1000 then match compLoop asg test elt xs (inSt nT caps st) with
    | some (ys, _) => some (.v (.lst ys), st)
    | none => none
  else none

theorem codeAny_comp {elt target iter : Expr} {ifs : List Expr} {scope : Scope} {pos : Pos} {it acc : Value} {env : Env} {A : Around} {R : Result → Shared → Prop} (I : Nat → Shared → Prop)
    (turn : ∀ n s, I n s → wpAny (model prog w) A (pyNext it) (fun r s₁ => match r with
      | none => R (.ok .next) s₁
      | some v => wpAny (model prog w) A (letOwnedTupleGo target it v) (fun _ s₁' => wpAny (model prog w) A (assign target env v) (fun _ s₂ =>
          wpAny (model prog w) A (forIn ifs true fun c r => if r = true then do let ok ← isTrue c env (eval c env); pure (ForInStep.yield ok) else pure (ForInStep.yield r)) (fun ok s₃ =>
            if ok = true then wpAny (model prog w) A (eval elt env) (fun x s₄ =>
              wpAny (model prog w) A (call (.builtin "list.append") [acc, x]) (fun _ s₅ => ∃ m, m < n ∧ I m s₅) (notedBy (model prog w) A env fun e s' => R (.error e) s') s₄) (notedBy (model prog w) A env fun e s' => R (.error e) s') s₃
            else ∃ m, m < n ∧ I m s₃) (notedBy (model prog w) A env fun e s' => R (.error e) s') s₂) (notedBy (model prog w) A env fun e s' => R (.error e) s') s₁') (notedBy (model prog w) A env fun e s' => R (.error e) s') s₁) (notedBy (model prog w) A env fun e s' => R (.error e) s') s)
    (n : Nat) (h : I n s) : codeAny (model prog w) A (.compLoop (.ListComp elt [⟨target, iter, ifs, 0⟩] scope pos) 0 it acc env) R s := by
  refine codeAny_loop rfl I (fun n s hI => ?_) n h
  show wpAny _ A ((compTurn (.ListComp elt [⟨target, iter, ifs, 0⟩] scope pos) 0 it acc env).onRaise (fun x => do noteFrame x env; theTreesLotGoes x)) _ _ s
  refine wpAny_noted ?_
  rw [compTurn_list]
  refine wpAny_bind (wpAny_standAt (wpAny_bind (wpAny_mono (turn n s hI) (fun r s₁ h₁ => ?_) fun _ _ h' => h')))
  cases r with
  | none => exact wpAny_pure h₁
  | some v =>
    refine wpAny_bind (wpAny_mono h₁ (fun _ s₁' h₁' => ?_) fun _ _ h' => h')
    refine wpAny_bind (wpAny_mono h₁' (fun _ s₂ h₂ => wpAny_bind (wpAny_mono h₂ (fun ok s₃ h₃ => ?_) fun _ _ h' => h')) fun _ _ h' => h')
    cases ok with
    | false => exact wpAny_pure ⟨rfl, h₃⟩
    | true => exact wpAny_bind (wpAny_bind (wpAny_mono h₃ (fun x s₄ h₄ => wpAny_bind (wpAny_mono h₄ (fun _ s₅ h₅ => wpAny_pure (wpAny_pure ⟨rfl, h₅⟩)) fun _ _ h' => h')) fun _ _ h' => h'))

/-- the conditions of a comprehension: none, or one -/
noncomputable def TestsRef (prog : Program) (w : World) (F : FE) (k : Nat) : List Expr → PM Bool → Prop
  | [], p => p = pRet true
  | [c], p => Ref prog w F k (isTrue c F.env (eval c F.env)) IsB p
  | _, _ => False
theorem ref_tests {k : Nat} {ifs : List Expr} {p : PM Bool} (h : TestsRef prog w F k ifs p) :
    Ref prog w F k (forIn ifs true fun c r => if r = true then do let ok ← isTrue c F.env (eval c F.env); pure (ForInStep.yield ok) else pure (ForInStep.yield r)) IsB p := by
  constructor
  intro A B W st b st' s Q E a S e hr q
  match ifs, h with
  | [], h =>
    have h : p = pRet true := h
    subst h
    cases e
    exact wpAny_tests_nil (q W _ s (.refl _) rfl hr)
  | [c], h => exact wpAny_tests_one (Ref.run h a S e hr q)

theorem over_cons {D : Addr} {wr : List Addr} {s' s₂ : Shared} (h : s₂.heap.get? D = s'.heap.get? D) : (B.over [D] [] s').over wr [] s₂ = B.over (D :: wr) [] s₂ := by
  have e1 : (fun b => if b ∈ wr then s₂.heap.get? b else if b ∈ [D] then s'.heap.get? b else B.get b) = fun b => if b ∈ D :: wr then s₂.heap.get? b else B.get b := funext fun b => by
    by_cases h1 : b ∈ wr
    · simp [h1]
    · by_cases h2 : b = D
      · subst h2; simp [h1, h]
      · simp [h1, h2]
  simp only [Base.over, e1]
  simp
theorem codeAny_compL {okT : Expr → Prop} {elt T iter : Expr} {ifs : List Expr} {scope : Scope} {pos : Pos} {asg : PV → PM Unit} {pt : PM Bool} {pe : PM EV} {k : Nat} {A : Around} {I D : Addr} {wr : List Addr} {Z0 : Frz} {xs ys : List PV} {St : Nat → Shared → Prop} {R : Result → Shared → Prop} {st' : PS}
    (hT : TRef prog w F T asg) (ho : okT T) (ht : TestsRef prog w F k ifs pt) (he : Ref prog w F k (eval elt F.env) (EVR prog w) pe) (hk : 1 ≤ k) (S : Src prog w okT I wr [] Z0 xs St) (a : AOk k A) (hoff : F.Off (D :: wr)) (hD : D ∉ wr)
    (hz : Z0.le W.Z) (zs : ZStat prog w W.Z) (h0 : St 0 s) (ha : Alive (D :: wr) [] s) (h : RR prog w F (B.over (D :: wr) [] s) W st s) (hacc : s.heap.PlainList D #[]) (hlen : xs.length ≤ 1000) (e : compLoop asg pt pe xs st = some (ys, st'))
    (hR : ∀ W' s' st'' vs, W.le W' → s'.heap.PlainList D vs → Vs prog w W'.Z vs.toList ys → RR prog w F (B.over (D :: wr) [] s') W' st'' s' → R (.ok .next) s') :
    codeAny (model prog w) A (.compLoop (.ListComp elt [⟨T, iter, ifs, 0⟩] scope pos) 0 (.ref I) (.ref D) F.env) R s := by
  obtain ⟨I', hI⟩ : ∃ I' : Nat → Shared → Prop, ∀ n s', I' n s' ↔ ∃ i W' st1 vs done rest, n = xs.length - i ∧ W.le W' ∧ i ≤ xs.length ∧ St i s' ∧ Alive (D :: wr) [] s' ∧ RR prog w F (B.over (D :: wr) [] s') W' st1 s' ∧ s'.heap.PlainList D vs ∧ Vs prog w W'.Z vs.toList done ∧ done.length ≤ i ∧
    compLoop asg pt pe (xs.drop i) st1 = some (rest, st') ∧ done ++ rest = ys := ⟨_, fun _ _ => Iff.rfl⟩
  refine codeAny_comp I' ?_ _ ((hI _ _).mpr ⟨0, W, st, #[], [], ys, rfl, .refl _, Nat.zero_le _, h0, ha, h, hacc, .nil, Nat.le_refl _, by simpa using e, rfl⟩)
  intro n s' hn
  obtain ⟨i, W', st1, vs, done, rest, rfl, hle, hi, hst, hal, hr, hpl, hvs, hdl, hp, hy⟩ := (hI _ _).mp hn
  rcases Nat.lt_or_ge i xs.length with hlt | hge
  · have hx : xs[i]? = some xs[i] := List.getElem?_eq_getElem hlt
    rw [List.drop_eq_getElem_cons hlt] at hp
    obtain ⟨_, st2, e1, e2⟩ := pbind_some hp
    obtain ⟨b, st3, e3, e4⟩ := pbind_some e2
    have back : ∀ {W3 : Wd} {st4 : PS} {s3 : Shared} {s2 : Shared} {W2 : Wd} {st3 : PS}, St (i + 1) s2 → RR prog w F (B.over (D :: wr) [] s2) W2 st3 s2 → W'.le W2 → Alive (D :: wr) [] s2 → RR prog w F (B.over (D :: wr) [] s2) W3 st4 s3 → W'.le W3 →
        RR prog w F (B.over (D :: wr) [] s3) W3 st4 s3 ∧ Alive (D :: wr) [] s3 ∧ St (i + 1) s3 ∧ s3.heap.get? D = s2.heap.get? D := by
      intro W3 st4 s3 s2 W2 st3 hst2 hr2 hl2 hal2 hr3 hl3
      obtain ⟨r4, al4, hh, hg⟩ := hr3.reover hal2
      exact ⟨r4, al4, S.frame _ _ _ hst2 (fun b hb => hh b (.tail _ hb)) (fun b o e => hr2.zk b o ((hz.trans (hle.trans hl2).2) b o e)) (fun b o e => hr3.zk b o ((hz.trans (hle.trans hl3).2) b o e)) (fun _ h => nomatch h), hh D (.head _)⟩
    refine wpAny_mono (S.item (wr' := wr) (B := B.over [D] [] s') (Q := fun s₂ => wpAny (model prog w) A (forIn ifs true fun c r => if r = true then do let ok ← isTrue c F.env (eval c F.env); pure (ForInStep.yield ok) else pure (ForInStep.yield r)) (fun ok s₃ =>
            if ok = true then wpAny (model prog w) A (eval elt F.env) (fun x s₄ =>
              wpAny (model prog w) A (call (.builtin "list.append") [.ref D, x]) (fun _ s₅ => ∃ m, m < xs.length - i ∧ I' m s₅) (notedBy (model prog w) A F.env fun e s' => R (.error e) s') s₄) (notedBy (model prog w) A F.env fun e s' => R (.error e) s') s₃
            else ∃ m, m < xs.length - i ∧ I' m s₃) (notedBy (model prog w) A F.env fun e s' => R (.error e) s') s₂) hT ho (fun b m => m) (a.le hk) hx hst ⟨fun b hb => hal.1 b (.tail _ hb), fun _ h => nomatch h⟩ (fun x c e m => hoff x c e (.tail _ m)) (hz.trans hle.2) (zs.mono hle.2) (over_cons (B := B) (wr := wr) (s' := s') rfl ▸ hr) e1 fun W2 s2 l2 st2' al2 r2 => ?_) (fun r s₁ q => ?_) fun _ _ q => q
    · have hDk : s2.heap.get? D = s'.heap.get? D := by
        obtain ⟨o, e⟩ := hal.1 D (.head _)
        rw [e]
        refine r2.keep D o ?_
        simp only [Base.over]
        rw [if_neg hD, if_pos (by simp)]; exact e
      rw [over_cons hDk] at r2
      have al2 : Alive (D :: wr) [] s2 := ⟨fun b hb => by
        rcases List.mem_cons.mp hb with rfl | hb
        · rw [hDk]; exact hal.1 _ (.head _)
        · exact al2.1 b hb, fun _ h => nomatch h⟩
      refine (ref_tests ht).run a (zs.mono (hle.trans l2).2) e3 r2 fun W3 b' s3 l3 hb r3 => ?_
      subst hb
      obtain ⟨r3, al3, st3', hD3⟩ := back st2' r2 l2 al2 r3 (l2.trans l3)
      cases b' with
      | false =>
        simp only [Bool.false_eq_true, if_false]
        exact ⟨xs.length - (i + 1), by omega, (hI _ _).mpr ⟨i + 1, W3, st3, vs, done, rest, rfl, (hle.trans l2).trans l3, hlt, st3', al3, r3, hpl.at fun o e => (hD3.trans hDk).trans e, hvs.mono (l2.trans l3).2, by omega, e4, hy⟩⟩
      | true =>
        simp only [if_true]
        obtain ⟨y, st4, e5, e6⟩ := pbind_some e4
        refine he.run a (zs.mono ((hle.trans l2).trans l3).2) e5 r3 fun W4 v s4 l4 hv r4 => ?_
        obtain ⟨r4, al4, st4', hD4⟩ := back st3' r3 (l2.trans l3) al3 r4 ((l2.trans l3).trans l4)
        cases y with
        | m _ => cases e6
        | v y =>
          obtain ⟨rest', st5, e7, e8⟩ := pbind_some e6
          cases e8
          have hlv := hvs.length
          rw [Array.length_toList] at hlv
          refine wpAny_list_append_plain (hpl.at fun o e => ((hD4.trans hD3).trans hDk).trans e) (fun h5 hl5 hs5 => ?_) (by rw [sizeLine_eq]; omega)
          have t5 : Turns [D] [] s4 { s4 with heap := h5 } := turns_of (tk := s4.toks) fun b o hb e => hs5.extBut b o (fun q => hb (by simp [q])) e
          have r5 := r4.turn hoff al4 (t5.wider (wr' := D :: wr) fun b hb => by rw [List.mem_singleton.mp hb]; exact .head _)
          have al5 := t5.aliveW al4 (fun b hb => by rw [List.mem_singleton.mp hb]; obtain ⟨n, e⟩ := hl5; exact ⟨_, e⟩) (fun _ h => nomatch h)
          refine ⟨xs.length - (i + 1), by omega, (hI _ _).mpr ⟨i + 1, W4, st4, vs.push v, done ++ [y], rest', rfl, ((hle.trans l2).trans l3).trans l4, hlt, ?_, al5, r5, hl5, ?_, by simp; omega, e7, by simpa using hy⟩⟩
          · exact S.frame _ _ _ st4' (fun b hb => hs5.2 b fun q => hD (q ▸ hb)) (fun b o e => r4.zk b o ((hz.trans (((hle.trans l2).trans l3).trans l4).2) b o e)) (fun b o e => r5.zk b o ((hz.trans (((hle.trans l2).trans l3).trans l4).2) b o e)) (fun _ h => nomatch h)
          · simpa using (hvs.mono ((l2.trans l3).trans l4).2).append (Vs.one (show V prog w W4.Z v y from hv))
    · cases r with
      | none => exact q.elim
      | some v => exact q
  · have : i = xs.length := Nat.le_antisymm hi hge
    subst this
    rw [List.drop_length] at hp
    cases hp
    rw [List.append_nil] at hy
    subst hy
    refine wpAny_mono (S.done (Q := fun s₁ => R (.ok .next) s₁) (a.le hk) hst fun s1 t hg => hR W' s1 _ vs hle (hpl.at fun o e => t.heap D o hD e) hvs (hr.turn hoff hal (t.wider fun b m => .tail _ m))) (fun r s₁ q => ?_) fun _ _ q => q
    obtain ⟨rfl, q⟩ := q
    exact q
end Mine
end

section
open PySem PySem.W PyProof.Rows PySem.Calls
set_option maxRecDepth 10000
namespace Mine
variable {prog : Program} {w : World} {F : FE} {B : Base} {W : Wd} {st : PS} {s : Shared}

noncomputable def baseC (Z : Frz) (C : Addr) (s : Shared) : Base := { get := fun b => if (Z b).isSome ∨ b = C then none else s.heap.get? b, gen := fun i => s.gens[i]?, drawn := s.drawn, os := s.os }
noncomputable abbrev compF (F : FE) (scope : Scope) (cl : List (Str × Addr)) (nm' : List Str) (C : Addr) : FE := ⟨compEnvC scope cl C F.env, nm', []⟩

structure CompOk (F : FE) (scope : Scope) (cl : List (Str × Addr)) (nm' : List Str) (nT : Nat) (caps : List Nat) : Prop where
  ok : ∀ C, FE.Ok (compF F scope cl nm' C)
  len : nm'.length = nT + caps.length
  loc : ∀ (C : Addr) (i : Nat) (x : Str), i < nT → nm'[i]? = some x → (compEnvC scope cl C F.env).kindOf x = some .local
  cel : ∀ (C : Addr) (i : Nat) (x : Str), nT ≤ i → nm'[i]? = some x → (compEnvC scope cl C F.env).kindOf x = some .cell
  cap : ∀ (j i : Nat), caps[j]? = some i → ∃ x, F.nm[i]? = some x ∧ nm'[nT + j]? = some x ∧ F.env.kindOf x = some .cell
  sub : ∀ x c, cl.lookup x = some c → F.env.cells.lookup x = some c
  clos : closureFor scope F.env = pure cl
  free : ∀ y ∈ scope.names, y.2 ≠ .cell
  kind : scope.kind = .function
  names : ∀ y ∈ scope.names, y.2 = .local → scope.names.lookup y.1 = some .local

theorem inSt_get {nT : Nat} {caps : List Nat} {st : PS} {i : Nat} {e : EV} (h : (inSt nT caps st).loc[i]? = some (some e)) : nT ≤ i ∧ ∃ i0, caps[i - nT]? = some i0 ∧ ∃ p, st.loc[i0]? = some (some (.v p)) ∧ e = .v p := by
  simp only [inSt] at h
  rcases Nat.lt_or_ge i nT with hi | hi
  · rw [List.getElem?_append_left (by simpa using hi)] at h
    have := List.mem_of_getElem? h
    have := (List.mem_replicate.mp this).2
    cases this
  · rw [List.getElem?_append_right (by simpa using hi), List.getElem?_map, List.length_replicate] at h
    obtain ⟨i0, h1, h2⟩ := Option.map_eq_some_iff.mp h
    refine ⟨hi, i0, h1, ?_⟩
    unfold capt at h2
    split at h2
    · rename_i p hp
      cases h2
      exact ⟨p, hp, rfl⟩
    · cases h2

theorem compFrame {scope : Scope} {cl : List (Str × Addr)} {nm' : List Str} {nT : Nat} {caps : List Nat} {C : Addr} {s₁ : Shared} {m : Str → Option Value} (co : CompOk F scope cl nm' nT caps) (h : RR prog w F B W st s)
    (hk : ∀ b o, s.heap.get? b = some o → s₁.heap.get? b = some o) (hC : s.heap.get? C = none) (hns : s₁.heap.Ns C m) :
    RR prog w (compF F scope cl nm' C) (baseC W.Z C s₁) ⟨[], W.Z⟩ (inSt nT caps st) s₁ := by
  have hZC : W.Z C = none := by
    cases q : W.Z C with
    | none => rfl
    | some o => have := h.zk _ _ q; rw [hC] at this; cases this
  refine { keep := fun b o e => ?_, zk := fun b o e => hk b o (h.zk b o e), rest := ⟨rfl, rfl, fun i y e => e, fun i y e e' => ?_⟩, ll := ?_, locs := ⟨m, hns, fun i x e h1 h2 h3 => ?_⟩, cels := fun i x c h1 h2 h3 => ?_, cfix := fun x c e => ?_,
           objs := fun i o e => by simp [inSt] at e, len := rfl, nd := by simp, dis := fun b o e => ?_, fpriv := fun a ha => ?_, alive := fun a ha => ?_, fown := fun i a o e => by simp at e, low := fun a ha => by cases ha }
  · simp only [baseC] at e
    split at e
    · cases e
    · exact e
  · rw [show s₁.gens[i]? = none from e] at e'; cases e'
  · simp [inSt, co.len]
  · obtain ⟨hi, _⟩ := inSt_get h3
    have := co.cel C i x hi h1
    rw [show (compEnvC scope cl C F.env).kindOf x = some .local from h2] at this; cases this
  · have hc := co.sub x c h3
    rcases Nat.lt_or_ge i nT with hi | hi
    · have := co.loc C i x hi h1
      rw [show (compEnvC scope cl C F.env).kindOf x = some .cell from h2] at this; cases this
    · have hj : i - nT < caps.length := by
        have := (List.getElem?_eq_some_iff.mp h1).1
        have hl := co.len
        have : i < nm'.length := this
        omega
      obtain ⟨y, g1, g2, g3⟩ := co.cap (i - nT) _ (List.getElem?_eq_getElem hj)
      have hxy : y = x := by
        rw [show nT + (i - nT) = i from by omega] at g2
        have h1 : nm'[i]? = some x := h1
        rw [h1] at g2; cases g2; rfl
      subst hxy
      obtain ⟨ov, q, r⟩ := h.cels _ y c g1 g3 hc
      refine ⟨ov, q.keeps hk, fun e he => ?_⟩
      obtain ⟨_, i0, h4, p, h5, rfl⟩ := inSt_get he
      rw [List.getElem?_eq_getElem hj] at h4; cases h4
      obtain ⟨v, h6, h7⟩ := r _ h5
      exact ⟨v, h6, h7⟩
  · refine .inr ?_
    have hc := co.sub x c e
    have key : W.Z c = none ∧ ∃ o, s.heap.get? c = some o := by
      rcases h.cfix x c hc with r | ⟨o, r⟩
      · exact ⟨h.fpriv c (.tail _ r), h.alive c (.tail _ (List.mem_append_left _ r))⟩
      · exact ⟨(h.dis c o r).1, o, h.keep c o r⟩
    obtain ⟨k1, o, k2⟩ := key
    refine ⟨o, ?_⟩
    simp only [baseC]
    rw [if_neg, hk _ _ k2]
    rintro (q | q)
    · rw [k1] at q; cases q
    · rw [q, hC] at k2; cases k2
  · simp only [baseC] at e
    split at e
    · cases e
    · rename_i hz
      refine ⟨?_, fun mm => hz (.inr (List.mem_singleton.mp (show b ∈ [C] from mm)))⟩
      cases q : W.Z b with
      | none => rfl
      | some x => exact absurd (.inl (by rw [q]; rfl)) hz
  · have : a = C := List.mem_singleton.mp (show a ∈ [C] from ha)
    subst this; exact hZC
  · have : a = C := List.mem_singleton.mp (show a ∈ [C] from ha)
    subst this
    obtain ⟨o, _, _, g, _⟩ := hns; exact ⟨o, g⟩

theorem baseC_over {Z : Frz} {C : Addr} {s₁ : Shared} {wr : List Addr} (hz : ∀ b ∈ wr, Z b = none) (hC : C ∉ wr) : (baseC Z C s₁).over wr [] s₁ = baseC Z C s₁ := by
  have e1 : (fun b => if b ∈ wr then s₁.heap.get? b else (baseC Z C s₁).get b) = (baseC Z C s₁).get := funext fun b => by
    by_cases h : b ∈ wr
    · simp only [h, if_true, baseC]
      rw [if_neg]
      rintro (q | q)
      · rw [hz b h] at q; cases q
      · exact hC (q ▸ h)
    · simp [h]
  simp only [Base.over, e1]
  simp

/-- back in the outer frame, the comprehension's names still hidden -/
theorem compBack {scope : Scope} {cl : List (Str × Addr)} {nm' : List Str} {C D : Addr} {wr : List Addr} {s₁ s' : Shared} {W' : Wd} {st'' : PS} {oD : Obj} (h : RR prog w F B W st s) (gr : Grows [] s s₁)
    (hC : s.heap.get? C = none) (hD : s.heap.get? D = none) (hDC : D ≠ C) (hwr : ∀ b ∈ wr, s.heap.get? b = none)
    (rF : RR prog w (compF F scope cl nm' C) ((baseC W.Z C s₁).over (D :: wr) [] s') W' st'' s') (hle : W.Z.le W'.Z) (hal : ∃ o, s'.heap.get? C = some o) (hd : s'.heap.get? D = some oD) (hzD : W'.Z D = none) :
    RR prog w F (B.over [C] [] s') { W with Z := fun b => if b = D then some oD else W'.Z b } st s' ∧ W.le { W with Z := fun b => if b = D then some oD else W'.Z b } ∧ F.Off [C] ∧ Alive [C] [] s' := by
  have inwr : ∀ b o, s.heap.get? b = some o → b ≠ C ∧ b ∉ D :: wr := fun b o e => by
    refine ⟨fun q => (by rw [q, hC] at e; cases e), fun m => ?_⟩
    rcases List.mem_cons.mp m with rfl | m
    · rw [hD] at e; cases e
    · rw [hwr b m] at e; cases e
  have gget : ∀ b o, s.heap.get? b = some o → W.Z b = none → ((baseC W.Z C s₁).over (D :: wr) [] s').get b = some o := fun b o e hz => by
    obtain ⟨h1, h2⟩ := inwr b o e
    simp only [Base.over, baseC]
    rw [if_neg h2, if_neg, gr.heap _ _ e]
    rintro (q | q)
    · rw [hz] at q; cases q
    · exact h1 q
  have hg : Grows [] s s' := by
    refine ⟨fun b o e => ?_, ?_, ?_, fun i x e => ?_, fun i x e e' => ?_⟩
    · cases q : W.Z b with
      | none => exact rF.keep b o (gget b o e q)
      | some x =>
        have := h.zk _ _ q
        rw [e] at this; cases this
        exact rF.zk _ _ (hle _ _ q)
    · have := rF.rest.drawn; exact this.trans gr.drawn
    · have := rF.rest.os; exact this.trans gr.os
    · refine rF.rest.gens i x ?_
      simp only [Base.over, baseC]
      rw [if_neg (fun h => nomatch h)]; exact gr.gens i x e
    · cases q : s₁.gens[i]? with
      | none =>
        refine .inl (rF.rest.fin i x ?_ e')
        simp only [Base.over, baseC]
        rw [if_neg (fun h => nomatch h)]; exact q
      | some y =>
        have hy := (gr.fin i y e q).resolve_right (fun h => nomatch h)
        have := rF.rest.gens i y (by
          simp only [Base.over, baseC]
          rw [if_neg (fun h => nomatch h)]; exact q)
        rw [e'] at this; cases this
        exact .inl hy
  have hnC : ∀ b ∈ [C], s.heap.get? b = none := fun b hb => by rw [List.mem_singleton.mp hb]; exact hC
  have al : Alive [C] [] s' := ⟨fun b hb => by rw [List.mem_singleton.mp hb]; exact hal, fun _ h => nomatch h⟩
  have h1 := h.enter hg hnC (fun _ h => nomatch h) al
  have hWD : W.Z D = none := by
    cases q : W.Z D with
    | none => rfl
    | some x => have := h.zk _ _ q; rw [hD] at this; cases this
  have z : W.Z.le fun b => if b = D then some oD else W'.Z b := fun b o e => by
    by_cases q : b = D
    · subst q; rw [hWD] at e; cases e
    · simpa [q] using hle _ _ e
  refine ⟨h1.frz z (fun b o e => ?_) (fun a o e => ?_), ⟨List.prefix_refl _, z⟩, h.off hnC, al⟩
  · by_cases q : b = D
    · subst q; simp at e; subst e; exact hd
    · simp [q] at e; exact rF.zk _ _ e
  · have fresh : s.heap.get? a = none → (B.over [C] [] s').get a = none ∨ a = C := fun e => by
      simp only [Base.over]
      by_cases q : a = C
      · exact .inr q
      · rw [if_neg (by simpa using q)]
        cases r : B.get a with
        | none => exact .inl rfl
        | some x => have := h.keep _ _ r; rw [e] at this; cases this
    have own : s.heap.get? a = none → a ∉ F.env.locals :: F.pc ∧ ∀ (i : Nat) (o : MO), W.ρ[i]? = some a → st.own[i]? = some (some o) → False := fun e => by
      refine ⟨fun m => ?_, fun i o e1 _ => ?_⟩
      · have : a ∈ F.env.locals :: (F.pc ++ W.ρ) := by
          rcases List.mem_cons.mp m with rfl | m
          · exact .head _
          · exact .tail _ (List.mem_append_left _ m)
        obtain ⟨o, e1⟩ := h.alive a this; rw [e] at e1; cases e1
      · obtain ⟨o, e1⟩ := h.alive a (.tail _ (List.mem_append_right _ (List.mem_of_getElem? e1))); rw [e] at e1; cases e1
    by_cases q : a = D
    · subst q
      exact .inr ⟨(fresh hD).resolve_right hDC, own hD⟩
    · simp [q] at e
      cases r : W.Z a with
      | some x =>
        have := hle _ _ r
        rw [e] at this; cases this
        exact .inl rfl
      | none =>
        have hs : s.heap.get? a = none := by
          cases t : s.heap.get? a with
          | none => rfl
          | some x =>
            have := (rF.dis a x (gget a x t r)).1
            rw [e] at this; cases this
        refine .inr ⟨(fresh hs).resolve_right fun qc => ?_, own hs⟩
        have := rF.fpriv C (.head _)
        rw [← qc, e] at this; cases this
end Mine
end

section
open PySem PySem.W PyProof.Rows PySem.Calls
set_option maxRecDepth 10000
namespace Mine
variable {prog : Program} {w : World} {F : FE} {B : Base} {W : Wd} {st : PS} {s : Shared}

/-- the body of a comprehension, whatever is done with its list -/
theorem comp_block {okT : Expr → Prop} {elt T iter : Expr} {ifs : List Expr} {scope : Scope} {pos : Pos} {cl : List (Str × Addr)} {nm' : List Str} {nT : Nat} {caps : List Nat} {asg : PV → PM Unit} {pt : PM Bool} {pe : PM EV} {k : Nat} {A : Around}
    {I : Addr} {wr : List Addr} {xs ys : List PV} {St : Nat → Shared → Prop} {RQ : Value → Addr → Result → Shared → Prop} {E : Value → Shared → Prop} {stf : PS} {s₁ : Shared}
    (co : CompOk F scope cl nm' nT caps) (hT : ∀ C, TRef prog w (compF F scope cl nm' C) T asg) (ho : okT T) (ht : ∀ C, TestsRef prog w (compF F scope cl nm' C) k ifs pt) (he : ∀ C, Ref prog w (compF F scope cl nm' C) k (eval elt (compEnvC scope cl C F.env)) (EVR prog w) pe)
    (hk : 1 ≤ k) (a : AOk k A) (S : ZStat prog w W.Z) (h : RR prog w F B W st s) (src : Src prog w okT I wr [] W.Z xs St) (gr : Grows [] s s₁) (hn : ∀ b ∈ wr, s.heap.get? b = none) (al : Alive wr [] s₁) (h0 : St 0 s₁) (hlen : xs.length ≤ 1000)
    (e : compLoop asg pt pe xs (inSt nT caps st) = some (ys, stf))
    (hR : ∀ C D W2 s' m, D ≠ C → W.le W2 → V prog w W2.Z (.ref D) (.lst ys) → RR prog w F (B.over [C] [] s') W2 st s' → s.heap.get? C = none → Alive [C] [] s' → s'.heap.Ns C m → RQ (.ref D) C (.ok .next) s') :
    wpAny (model prog w) A (newList []) (fun acc s₃ => wpAny (model prog w) A (newFunctionEnv scope F.env.globals cl [] F.env.qual none .none (some F.env)) (fun cenv s₄ =>
      codeAny (model prog w) A (.compStart (.ListComp elt [⟨T, iter, ifs, 0⟩] scope pos) 0 (.ref I) acc { cenv with scope := relabel scope F.env }) (RQ acc cenv.locals) s₄) E s₃) E s₁ := by
  refine wpAny_newObj_type (wpAny_newFunctionEnv co.free (by intro y hy; simp at hy) (fun h₁ hns₁ hsb₁ => ?_) co.kind)
  dsimp only at hns₁ hsb₁ ⊢
  generalize hH2 : s₁.heap.push { cls := .type "list", dict := none, data := .seq ([] : List Value).toArray } = H2 at hns₁ hsb₁ ⊢
  have hC : H2.objs.size = s₁.heap.objs.size + 1 := by rw [← hH2, Heap.size_push]
  have hDC : s₁.heap.objs.size ≠ H2.objs.size := by rw [hC]; exact Nat.ne_of_lt (Nat.lt_succ_self _)
  have below : ∀ b, b < s₁.heap.objs.size → b ≠ H2.objs.size ∧ b ≠ s₁.heap.objs.size := fun b hb => ⟨by rw [hC]; exact Nat.ne_of_lt (Nat.lt_succ_of_lt hb), Nat.ne_of_lt hb⟩
  have old : ∀ b o, s₁.heap.get? b = some o → h₁.get? b = some o := fun b o e => hsb₁.extBut b o (below b (Heap.lt_size e)).1 (Heap.get?_push_of_some _ (hH2 ▸ Heap.get?_push_of_some _ e))
  have hacc : h₁.PlainList s₁.heap.objs.size #[] := ⟨_, hsb₁.extBut _ _ hDC (Heap.get?_push_of_some _ (hH2 ▸ Heap.get?_push_size _ rfl))⟩
  have old0 : ∀ b o, s.heap.get? b = some o → h₁.get? b = some o := fun b o e => old b o (gr.heap b o e)
  have sz : ∀ a, s₁.heap.objs.size ≤ a → s.heap.get? a = none := fun a ha => by
    cases e : s.heap.get? a with
    | none => rfl
    | some o' => exact absurd (Heap.lt_size (gr.heap _ _ e)) (Nat.not_lt.mpr ha)
  have nC : s.heap.get? H2.objs.size = none := sz _ (by rw [hC]; exact Nat.le_succ _)
  have nD : s.heap.get? s₁.heap.objs.size = none := sz _ (Nat.le_refl _)
  have hDw : s₁.heap.objs.size ∉ wr := fun m => by obtain ⟨o, e⟩ := al.1 _ m; exact Nat.lt_irrefl _ (Heap.lt_size e)
  have hCw : H2.objs.size ∉ s₁.heap.objs.size :: wr := fun m => by
    rcases List.mem_cons.mp m with q | m
    · exact hDC q.symm
    · obtain ⟨o, e⟩ := al.1 _ m; exact (below _ (Heap.lt_size e)).1 rfl
  have nDw : ∀ b ∈ s₁.heap.objs.size :: wr, s.heap.get? b = none := fun b m => by
    rcases List.mem_cons.mp m with rfl | m
    · exact nD
    · exact hn b m
  have zN : ∀ b, s.heap.get? b = none → W.Z b = none := fun b e => by
    cases q : W.Z b with
    | none => rfl
    | some o => have := h.zk _ _ q; rw [e] at this; cases this
  have loop : ∀ s₃ : Shared, s₃ = { s₁ with heap := h₁, toks := s₁.toks + ([] : List (Str × Value)).length } →
      codeAny (model prog w) A (.compLoop (.ListComp elt [⟨T, iter, ifs, 0⟩] scope pos) 0 (.ref I) (.ref s₁.heap.objs.size) (compEnvC scope cl H2.objs.size F.env)) (RQ (.ref s₁.heap.objs.size) H2.objs.size) s₃ := by
    rintro s₃ rfl
    have hF := compFrame (C := H2.objs.size) (s₁ := { s₁ with heap := h₁, toks := s₁.toks + ([] : List (Str × Value)).length }) co h old0 nC hns₁
    have hst : St 0 { s₁ with heap := h₁, toks := s₁.toks + ([] : List (Str × Value)).length } := src.frame _ _ _ h0 (fun b hb => by
      obtain ⟨o, e⟩ := al.1 b hb
      exact (old b o e).trans e.symm) (fun b o e => gr.heap b o (h.zk b o e)) (fun b o e => old0 b o (h.zk b o e)) (fun _ h => nomatch h)
    have hov := baseC_over (Z := W.Z) (C := H2.objs.size) (s₁ := { s₁ with heap := h₁, toks := s₁.toks + ([] : List (Str × Value)).length }) (wr := s₁.heap.objs.size :: wr) (fun b m => zN b (nDw b m)) hCw
    refine codeAny_compL (F := compF F scope cl nm' H2.objs.size) (W := ⟨[], W.Z⟩) (B := baseC W.Z H2.objs.size { s₁ with heap := h₁, toks := s₁.toks + ([] : List (Str × Value)).length }) (hT _) ho (ht _) (he _) hk src a ?_ hDw (.refl _) S hst ?_ (hov.symm ▸ hF) hacc hlen e fun W2 s' st'' vs hle hpl hvs rF => ?_
    · intro x c ec m
      have hc := co.sub x c ec
      have := h.off (wr := s₁.heap.objs.size :: wr) nDw x c hc
      exact this m
    · refine ⟨fun b m => ?_, fun _ h => nomatch h⟩
      rcases List.mem_cons.mp m with rfl | m
      · obtain ⟨n, e⟩ := hacc; exact ⟨_, e⟩
      · obtain ⟨o, e⟩ := al.1 b m; exact ⟨o, old b o e⟩
    · obtain ⟨n, hd⟩ := hpl
      obtain ⟨m, hm, _⟩ := rF.locs
      have halC : ∃ o, s'.heap.get? H2.objs.size = some o := by obtain ⟨o, _, _, g, _⟩ := hm; exact ⟨o, g⟩
      have hzD : W2.Z s₁.heap.objs.size = none := (rF.dis s₁.heap.objs.size _ (by simp only [Base.over]; rw [if_pos (.head _)]; exact hd)).1
      have gr4 : Grows [] s { s₁ with heap := h₁, toks := s₁.toks + ([] : List (Str × Value)).length } := ⟨old0, gr.drawn, gr.os, gr.gens, gr.fin⟩
      obtain ⟨r1, r2, r3, r4⟩ := compBack (D := s₁.heap.objs.size) (wr := wr) h gr4 nC nD hDC hn rF hle.2 halC hd hzD
      refine hR _ _ _ s' m hDC r2 ?_ r1 nC r4 hm
      refine V.lst' (n := n) (vs := vs) (if_pos rfl) (hvs.mono fun b o e => ?_)
      show (if b = _ then _ else _) = _
      rw [if_neg (fun q => by rw [q, hzD] at e; cases e)]; exact e
  exact codeAny_compStart_list (loop _ rfl) (src.self (i := 0) (src.frame _ _ _ h0 (fun b hb => by
      obtain ⟨o, e⟩ := al.1 b hb
      exact (old b o e).trans e.symm) (fun b o e => gr.heap b o (h.zk b o e)) (fun b o e => old0 b o (h.zk b o e)) (fun _ h => nomatch h)) (loop _ rfl))
end Mine
end

section
open PySem PySem.W PyProof.Rows PySem.Calls
set_option maxRecDepth 10000
namespace Mine
variable {prog : Program} {w : World} {F : FE} {B : Base} {W : Wd} {st : PS} {s : Shared}

theorem comp_some {nT : Nat} {caps : List Nat} {pit : PM (List PV)} {asg : PV → PM Unit} {pt : PM Bool} {pe : PM EV} {st st' : PS} {b : EV} (e : pComp nT caps pit asg pt pe st = some (b, st')) :
    ∃ xs ys stf, pit st = some (xs, st') ∧ xs.length ≤ 1000 ∧ compLoop asg pt pe xs (inSt nT caps st') = some (ys, stf) ∧ b = .v (.lst ys) := by
  obtain ⟨xs, st1, e1, e2⟩ := pbind_some e
  split at e2
  · rename_i hl
    split at e2
    · rename_i ys stf e3
      cases e2
      exact ⟨xs, ys, stf, e1, hl, e3, rfl⟩
    · cases e2
  · cases e2

theorem same_leave {C : Addr} (h0 : ∀ (x : Str) (c : Addr), F.env.cells.lookup x = some c → c ∈ F.pc ∨ ∃ o, B.get c = some o) (hC : B.get C = none) (off : F.Off [C]) (al : Alive [C] [] s) (h : RR prog w F (B.over [C] [] s) W st s) {h' : Heap} (hs : Heap.SameBut C s.heap h') : RR prog w F B W st { s with heap := h' } := by
  have t : Turns [C] [] s { s with heap := h' } := turns_of (tk := s.toks) fun b o hb e => hs.extBut b o (fun q => hb (by simp [q])) e
  exact (h.turn off al t).leave h0 (fun b hb => by rw [List.mem_singleton.mp hb]; exact hC) (fun _ h => nomatch h)

theorem ref_ListComp {okT : Expr → Prop} {elt T iter : Expr} {ifs : List Expr} {scope : Scope} {pos : Pos} {cl : List (Str × Addr)} {nm' : List Str} {nT : Nat} {caps : List Nat} {pit : PM (List PV)} {asg : PV → PM Unit} {pt : PM Bool} {pe : PM EV} {k : Nat}
    (co : CompOk F scope cl nm' nT caps) (hit : IterRef prog w F k iter okT True pit) (hT : ∀ C, TRef prog w (compF F scope cl nm' C) T asg) (ho : okT T) (ht : ∀ C, TestsRef prog w (compF F scope cl nm' C) k ifs pt)
    (he : ∀ C, Ref prog w (compF F scope cl nm' C) k (eval elt (compEnvC scope cl C F.env)) (EVR prog w) pe) (hk : 1 ≤ k) (hs : ∀ x, foldedSetIterable iter F.env x = pure x := by intro _; rfl) :
    Ref prog w F k (eval (.ListComp elt [⟨T, iter, ifs, 0⟩] scope pos) F.env) (EVR prog w) (pComp nT caps pit asg pt pe) := by
  constructor
  intro A B W st b st' s Q E a S e h q
  obtain ⟨xs, ys, stf, e1, hlen, e2, rfl⟩ := comp_some e
  rw [eval_ListComp]
  refine wpAny_comprehension_free (use := none) rfl hs co.clos co.kind co.names (hit.run a S e1 h fun W1 s1 s2 I wr wg St l1 h1 src gr hn hg al hr st0 => ?_)
  have := hr trivial
  subst this
  refine comp_block (RQ := fun acc C => compPost (model prog w) A E none Q acc C) co hT ho ht he hk a (S.mono l1.2) h1 src gr hn al st0 hlen e2 fun C D W2 s' m hDC l2 hv r2 hC al2 hns => ?_
  refine ⟨m, hns, fun h' hs' => ?_⟩
  have hbC : B.get C = none := by
    cases q : B.get C with
    | none => rfl
    | some o => have := h1.keep _ _ q; rw [hC] at this; cases this
  exact q W2 _ _ (l1.trans l2) hv (same_leave h1.cfix hbC (h1.off fun b hb => by rw [List.mem_singleton.mp hb]; exact hC) al2 r2 hs')

theorem ref_AssignComp (ok : F.Ok) {i : Nat} {y : Str} {py spos : Pos} {okT : Expr → Prop} {elt T iter : Expr} {ifs : List Expr} {scope : Scope} {pos : Pos} {cl : List (Str × Addr)} {nm' : List Str} {nT : Nat} {caps : List Nat} {pit : PM (List PV)} {asg : PV → PM Unit} {pt : PM Bool} {pe : PM EV} {k : Nat}
    (hi : F.nm[i]? = some y) (hw : F.Wr y)
    (co : CompOk F scope cl nm' nT caps) (hit : IterRef prog w F k iter okT True pit) (hT : ∀ C, TRef prog w (compF F scope cl nm' C) T asg) (ho : okT T) (ht : ∀ C, TestsRef prog w (compF F scope cl nm' C) k ifs pt)
    (he : ∀ C, Ref prog w (compF F scope cl nm' C) k (eval elt (compEnvC scope cl C F.env)) (EVR prog w) pe) (hk : 1 ≤ k)
    (hsw : swapsWith (.ListComp elt [⟨T, iter, ifs, 0⟩] scope pos) (some (.Name y py)) spos.line F.env = pure true)
    (hs : ∀ x, foldedSetIterable iter F.env x = pure x := by intro _; rfl) :
    Ref prog w F k (exec (.Assign [.Name y py] (.ListComp elt [⟨T, iter, ifs, 0⟩] scope pos) spos) F.env) (FR prog w) (pAsg i (pComp nT caps pit asg pt pe)) := by
  constructor
  intro A B W st f st' s Q E a S e h q
  obtain ⟨b, st1, e0, e3⟩ := pbind_some e
  obtain ⟨_, st2, e4, e5⟩ := pbind_some e3
  cases e5
  obtain ⟨xs, ys, stf, e1, hlen, e2, rfl⟩ := comp_some e0
  rw [exec_Assign_Name_used _ _ _ _ hsw]
  refine wpAny_bind (wpAny_standAt (wpAny_bind ?_))
  show wpAny _ A (do let _ ← comprehension (.ListComp elt [⟨T, iter, ifs, 0⟩] scope pos) scope F.env _ (newList []) false (eval iter F.env) (some (assign (.Name y py) F.env))) _ _ s
  refine wpAny_bind (wpAny_mono (wpAny_comprehension_free (use := some (assign (.Name y py) F.env)) (Q := fun _ s' => Q .next s') rfl hs co.clos co.kind co.names (hit.run a S e1 h fun W1 s1 s2 I wr wg St l1 h1 src gr hn hg al hr st0 => ?_)) (fun _ s' hq => wpAny_pure (wpAny_pure hq)) fun _ _ e => e)
  have := hr trivial
  subst this
  refine comp_block (RQ := fun acc C => compPost (model prog w) A E (some (assign (.Name y py) F.env)) (fun _ s' => Q .next s') acc C) co hT ho ht he hk a (S.mono l1.2) h1 src gr hn al st0 hlen e2 fun C D W2 s' m hDC l2 hv r2 hC al2 hns => ?_
  show wpAny _ A (assign (.Name y py) F.env (.ref D)) _ _ _
  have hbC : B.get C = none := by
    cases q : B.get C with
    | none => rfl
    | some o => have := h1.keep _ _ q; rw [hC] at this; cases this
  have off := h1.off (wr := [C]) fun b hb => by rw [List.mem_singleton.mp hb]; exact hC
  refine wpAny_assign_Name (store_p ok r2 hi hw (show EVR prog w W2 (.ref D) (.v (.lst ys)) from hv) e4 fun s3 r3 => ?_)
  obtain ⟨r4, al4, hh, _⟩ := r3.reover al2
  refine ⟨m, hns.at' (fun o e => (hh C (by simp)).trans e), fun h' hs' => ?_⟩
  exact q W2 _ _ (l1.trans l2) trivial (same_leave h1.cfix hbC off al4 r4 hs')
end Mine
end

section
open PySem PySem.W PyProof.Rows PySem.Calls
set_option maxRecDepth 10000
namespace Mine
variable {prog : Program} {w : World} {F : FE} {B : Base} {W : Wd} {st : PS} {s : Shared}

noncomputable def csl : Str := "comp_select_list"
theorem getL_cmp (hsh : Int) (t : Tok) (val : Value) : getL "compare" [⟨hsh, .str (Str.ofString "comp_select_list") t, val⟩] = some none := by
  have hne : (Value.str (Str.ofString "comp_select_list") t).isStr "compare" = false := by
    show (Str.ofString "comp_select_list" == Str.ofString "compare") = false
    decide +kernel
  simp only [getL, List.find?_cons, List.find?_nil, hne, List.any_cons, List.any_nil]
  rfl
theorem inst_at (h : RR prog w F B W st s) {v : Value} {p : PV} (hv : V prog w W.Z v (.inst p)) : ∃ x d val es n, v = .ref x ∧ InstAt s.heap x (instObj 38 d) 38 (some (dictOf es n)) ∧ getL csl es = some (some val) ∧ getL "compare" es = some none ∧ V prog w W.Z val p := by
  cases hv with
  | inst g g' e => exact ⟨_, _, _, _, _, rfl, ⟨h.zk _ _ g, rfl, rfl, h.zk _ _ g'⟩, by simp [getL, csl, Value.isStr], getL_cmp _ _ _, e⟩

noncomputable def attrP : EV → Option EV
  | .v (.inst (.tup xs)) => some (.v (.tup xs))
  | _ => none
theorem ref_Attr (ok : F.Ok) {k : Nat} {i : Nat} {x : Str} {px pos : Pos} (hi : F.nm[i]? = some x) : Ref prog w F k (eval (.Attribute (.Name x px) "comp_select_list" pos) F.env) (EVR prog w) (pUn attrP (pLoad i)) := by
  constructor
  intro A B W st b st' s Q E a S e h q
  obtain ⟨y, st1, e1, e2⟩ := pbind_some e
  obtain ⟨r, e5, e6⟩ := Option.map_eq_some_iff.mp e2
  cases e6
  refine Attribute_name ((ref_Name ok hi).run a S e1 h fun W1 v s1 l1 hv h1 => ?_)
  unfold attrP at e5
  split at e5
  · cases e5
    obtain ⟨K, KF, hK⟩ := S.kin
    have X := hK _ ((show W.Z.In s1.heap from fun a o e => h1.zk a o (l1.2 _ _ e)))
    obtain ⟨x, d, val, es, n, rfl, I, hl, _, hval⟩ := inst_at h1 (show V prog w W1.Z v (.inst _) from hv)
    obtain ⟨c, vs, n', rfl, _⟩ := V.tup_inv hval
    exact get_value X I (plainGet_of KF.pg).1 (findObj_own KF.hd KF.gA rfl hl) rfl (q W1 _ _ l1 hval (h1.toks _))
  · cases e5

/-- a method of the program's class, called -/
noncomputable def pMeth (f : List PV → Option PV) (po : PM EV) (ps : List (PM EV)) : PM EV := pbind po fun o => pbind (pAll ps) fun xs => fun st => match o with
  | .v (.inst p) => (f (.inst p :: xs)).map fun r => (.v r, st)
  | _ => none
theorem ref_Meth {k : Nat} {f : List PV → Option PV} {o e : Expr} {es : List Expr} {apos pos : Pos} {po : PM EV} {ps : List (PM EV)} (hf : FunOk prog w k 35 f) (ho : Ref prog w F k (eval o F.env) (EVR prog w) po) (hps : RefAll prog w F k (e :: es) ps)
    {pl : Sem Bool} (he : eval (.Call (.Attribute o "compare" apos) (e :: es) [] pos) F.env = (do
      let ov ← eval o F.env
      standAt apos.atName
      let (f, first) ← holding [ov] (getMethod ov "compare" pl)
      callWith pos f first (backTo pos (starEach (e :: es) F.env)) (backToKw pos (keywordEach [] F.env))))
    (hplain : ((backTo pos (starEach (e :: es) F.env)).any (·.1) || (backToKw pos (keywordEach [] F.env)).any (·.1.isNone)) = false) :
    Ref prog w F k (eval (.Call (.Attribute o "compare" apos) (e :: es) [] pos) F.env) (EVR prog w) (pMeth f po ps) := by
  constructor
  intro A B W st b st' s Q E a S ee h q
  obtain ⟨ov, st1, e1, e2⟩ := pbind_some ee
  obtain ⟨xs, st2, e3, e4⟩ := pbind_some e2
  refine methodCall_KW (ho.run a S e1 h fun W1 v s1 l1 hv h1 => ?_) he
  split at e4
  · rename_i p
    obtain ⟨r, e5, e6⟩ := Option.map_eq_some_iff.mp e4
    cases e6
    obtain ⟨K, KF, hK⟩ := S.kin
    have X := hK _ ((show W.Z.In s1.heap from fun a o e => h1.zk a o (l1.2 _ _ e)))
    obtain ⟨x, d, val, es', n, rfl, I, _, hl, hval⟩ := inst_at h1 (show V prog w W1.Z v (.inst _) from hv)
    refine method_fn X I (plainGet_of KF.pg).1 (plainGet_of KF.pg).2 KF.cmp (beq_iff_eq.mp KF.fn35) (by show (lookIn "compare" (dictOf es' n)).map _ = _; rw [lookIn_dict, hl]; rfl) ?_
    have hse : starEach (e :: es) F.env = (false, eval e F.env) :: starEach es F.env := by
      cases ps with
      | nil => exact hps.elim
      | cons => exact hps.1
    refine callWith_KW X KF.kp35 (by rfl) ((ref_items (pos := pos) hps).run a (S.mono l1.2) e3 h1 fun W2 vs s2 l2 hvs h2 => ?_) hplain hse
    refine wpAny_evalAll_nil ⟨hK _ (fun a o e => h2.zk a o ((l1.trans l2).2 _ _ e)), ?_⟩
    refine hf.run a (S.mono (l1.trans l2).2) h2.zk (.cons (V.mono l2.2 (show V prog w W1.Z _ (.inst p) from hv)) hvs) e5 fun Z' v s' z g zk hn hvr => ?_
    obtain ⟨h3, l3⟩ := h2.called z g zk hn
    exact q _ v s' ((l1.trans l2).trans l3) hvr h3
  · cases e4
end Mine
end

section
open PySem PySem.W PyProof.Rows PySem.Calls
set_option maxRecDepth 10000
namespace Mine
variable {prog : Program} {w : World} {F : FE} {B : Base} {W : Wd} {st : PS} {s : Shared}

theorem make_inst {A : Around} {K : Frag} {v : Value} {Q : Value → Shared → Prop} {E : Value → Shared → Prop} (hd : A.depth + 5 < recursionLimit) (X : K.In s.heap) (KF : KFacts K) (S : Stat prog w s.heap)
    (q : ∀ x d h' t n tk, (∀ b o, s.heap.get? b = some o → h'.get? b = some o) → s.heap.get? x = none → s.heap.get? d = none → x ≠ d → h'.get? x = some (instObj 38 d) →
      h'.get? d = some (dictOf [⟨PyData.keyHash w.params (Str.ofString "comp_select_list"), .str (Str.ofString "comp_select_list") t, v⟩] n) → Q (.ref x) { s with heap := h', toks := tk }) :
    wpAny (model prog w) A (call (.ref 38) [v]) Q E s := by
  obtain ⟨o, name, qual, doc, pm, an, cdv, ct, ho, hdt, hcd⟩ := S.fInit
  obtain ⟨hh, g, dr, tk, os⟩ := s
  refine wpAny_call (make_core (makes_of X KF.mkC) (looks_findIn X KF.gI) (fun self => bind_fn X self (beq_iff_eq.mp KF.fn28)) (.inl rfl) ?_)
  have keep : ∀ b ob, hh.get? b = some ob → ((hh.push emptyDict).push (instObj 38 hh.objs.size)).get? b = some ob := fun b ob e => Heap.get?_push_of_some _ (Heap.get?_push_of_some _ e)
  refine codeAny_call_cells (fd := fnOf name qual (methNo 0).1 (methNo 0).2.1 (methNo 0).2.2 .none .none doc pm an cdv ct) (binds := [("self", .ref (hh.objs.size + 1)), ("comp_select_list", v)]) ?_ (keep _ _ ho) hdt (S.nolim.keeps keep) (hcd.keeps keep) rfl rfl rfl ?_ (fun s₁ x => ?_) rfl rfl rfl
  · rw [depth_under_make]; omega
  · intro y hy
    rcases List.mem_cons.mp hy with rfl | hy
    · exact .inl rfl
    · rw [List.mem_singleton.mp hy]; exact .inl rfl
  · have hm := bindL_get (ko := (callEnvC (fnOf name qual (methNo 0).1 (methNo 0).2.1 (methNo 0).2.2 .none .none doc pm an cdv ct) ((hh.push emptyDict).push (instObj 38 hh.objs.size)).objs.size 28).kindOf) [("self", .ref (hh.objs.size + 1)), ("comp_select_list", v)] (fun _ => none)
      (fun y hy => by
        rcases List.mem_cons.mp hy with rfl | hy
        · rfl
        · rw [List.mem_singleton.mp hy]; rfl) (by show [("self" : Str), "comp_select_list"].Nodup; decide +kernel)
    have h0 := hm 0 _ _ rfl
    have h1 := hm 1 _ _ rfl
    refine wpAny_execs_cons (plainObj_wpAny_Assign_Attribute (wpAny_Name (wpAny_loadName_local rfl rfl x.toInCall.ns h1 (wpAny_Name (wpAny_loadName_local rfl rfl x.toInCall.ns h0 ?_)))))
    obtain ⟨h₁, tk₁, rfl⟩ := x.toInCall.same
    have hz2 : (hh.push emptyDict).objs.size = hh.objs.size + 1 := Heap.size_push ..
    have hz3 : ((hh.push emptyDict).push (instObj 38 hh.objs.size)).objs.size = hh.objs.size + 2 := by rw [Heap.size_push, hz2]
    have keep1 := x.toInCall.keep
    have hL : (callEnvC (fnOf name qual (methNo 0).1 (methNo 0).2.1 (methNo 0).2.2 .none .none doc pm an cdv ct) ((hh.push emptyDict).push (instObj 38 hh.objs.size)).objs.size 28).locals = hh.objs.size + 2 := hz3
    have gx : ((hh.push emptyDict).push (instObj 38 hh.objs.size)).get? (hh.objs.size + 1) = some (instObj 38 hh.objs.size) := by
      have := Heap.get?_push_size (hh.push emptyDict) (o := instObj 38 hh.objs.size) rfl
      rwa [hz2] at this
    have gd : ((hh.push emptyDict).push (instObj 38 hh.objs.size)).get? hh.objs.size = some (dictOf [] 0) := Heap.get?_push_of_some _ (Heap.get?_push_size hh (o := emptyDict) rfl)
    have N : News hh (hh.objs.size + 2) h₁ [(hh.objs.size + 1, instObj 38 hh.objs.size), (hh.objs.size, dictOf [] 0)] := fun p hp => by
      rcases List.mem_cons.mp hp with rfl | hp
      · exact ⟨keep1 _ _ gx, by show hh.objs.size + 1 ≠ hh.objs.size + 2; omega, none_of_size (Nat.le_succ _)⟩
      · rw [List.mem_singleton.mp hp]
        exact ⟨keep1 _ _ gd, by show hh.objs.size ≠ hh.objs.size + 2; omega, none_of_size (Nat.le_refl _)⟩
    have Fx : Fr hh (hh.objs.size + 2) h₁ _ := ⟨hL ▸ x.toInCall.ns, fun b o e => keep1 b o (keep b o e), by omega⟩
    refine set_dict (dx := hh.objs.size) (news' := [(hh.objs.size + 1, instObj 38 hh.objs.size), (hh.objs.size, dictOf [⟨PyData.keyHash w.params (Str.ofString "comp_select_list"), .str (Str.ofString "comp_select_list") (tk₁ + 1), v⟩] 1)]) Fx X N (InstAt.of_news (sl := #[]) N (.head _) (.tail _ (.head _))) rfl KF.sa KF.po KF.ta KF.hd rfl rfl
      (.tail (by show hh.objs.size + 1 ≠ hh.objs.size; omega) (.head (fun _ h => nomatch h))) (by show 1 ≤ 1000; decide) fun h' F' N' => ?_
    refine wpAny_execs_nil ⟨rfl, ?_⟩
    exact q (hh.objs.size + 1) hh.objs.size h' (tk₁ + 1) 1 _ F'.keep (none_of_size (Nat.le_succ _)) (none_of_size (Nat.le_refl _)) (Nat.succ_ne_self _) (N' _ (.head _)).1 (N' _ (.tail _ (.head _))).1

noncomputable def pMake (p : PM EV) : PM EV := pbind p fun e => fun st => match e with
  | .v (.tup xs) => some (.v (.inst (.tup xs)), st)
  | _ => none
theorem ref_Make (ok : F.Ok) {k : Nat} {e : Expr} {p pos : Pos} {pe : PM EV} (hk : F.env.kindOf "TupleComp" = some .globalImplicit) (h : Ref prog w F (k + 3) (eval e F.env) (EVR prog w) pe)
    (hs : starEach [e] F.env = (false, eval e F.env) :: starEach [] F.env := by rfl)
    (hplain : ((backTo pos (starEach [e] F.env)).any (·.1) || (backToKw pos (keywordEach [] F.env)).any (·.1.isNone)) = false := by rfl) :
    Ref prog w F (k + 3) (eval (.Call (.Name "TupleComp" p) [e] [] pos) F.env) (EVR prog w) (pMake pe) := by
  constructor
  intro A B W st b st' s Q E a S ee hr q
  obtain ⟨y, st1, e1, e2⟩ := pbind_some ee
  refine wpAny_Call_NameR (global_val ok S hr (x := "TupleComp") (v := .ref 38) (by decide) hk ?_)
  obtain ⟨K, KF, hK⟩ := S.kin
  refine callWith_KW (kws := []) (hK _ hr.zk) KF.kp38 (by rfl) ?_ hplain hs
  rw [hs]
  refine spliced_cons (h.run a S e1 hr fun W1 v s1 l1 hv h1 => spliced_nil ?_)
  split at e2
  · rename_i xs
    cases e2
    have X := hK _ (show W.Z.In s1.heap from fun a o e => h1.zk a o (l1.2 _ _ e))
    refine wpAny_evalAll_nil ⟨X, ?_⟩
    refine make_inst (by have := a.d; omega) X KF (h1.stat (S.mono l1.2)) fun x d h' t n tk hk hx hd hxd gx gd => ?_
    have hv : V prog w W1.Z v (.tup xs) := hv
    obtain ⟨h2, l2⟩ := h1.newZ (tk := tk) hk hx gx
    have hd' : W1.Z d = none := by
      cases q : W1.Z d with
      | none => rfl
      | some o => have := h1.zk _ _ q; rw [hd] at this; cases this
    have hbd : B.get d = none := by
      cases q : B.get d with
      | none => rfl
      | some o => have := h1.keep _ _ q; rw [hd] at this; cases this
    have z : Frz.le (fun b => if b = x then some (instObj 38 d) else W1.Z b) (fun b => if b = d then some (dictOf [⟨PyData.keyHash w.params (Str.ofString "comp_select_list"), .str (Str.ofString "comp_select_list") t, v⟩] n) else if b = x then some (instObj 38 d) else W1.Z b) := fun b o e => by
      by_cases q : b = d
      · subst q; simp only [if_neg (Ne.symm hxd), hd'] at e; cases e
      · simpa [q] using e
    have own : d ∉ F.env.locals :: (F.pc ++ W1.ρ) := fun m => by obtain ⟨o, e⟩ := h1.alive d m; rw [hd] at e; cases e
    have h3 := h2.frz z (fun b o e => ?_) (fun b o e => ?_)
    · have key : ∀ Z3 : Frz, Frz.le (fun b => if b = x then some (instObj 38 d) else W1.Z b) Z3 → Z3 x = some (instObj 38 d) → Z3 d = some (dictOf [⟨PyData.keyHash w.params (Str.ofString "comp_select_list"), .str (Str.ofString "comp_select_list") t, v⟩] n) →
          RR prog w F B ⟨W1.ρ, Z3⟩ st' { s1 with heap := h', toks := tk } → Q (.ref x) { s1 with heap := h', toks := tk } := fun Z3 z e1 e2 h3 =>
        q ⟨W1.ρ, Z3⟩ _ _ ((l1.trans l2).trans ⟨List.prefix_refl _, z⟩) (V.inst e1 e2 ((hv.mono l2.2).mono z)) h3
      refine key _ z ?_ (if_pos rfl) h3
      show (if x = d then _ else if x = x then _ else _) = _
      rw [if_neg hxd, if_pos rfl]
    · by_cases q : b = d
      · subst q; simp at e; subst e; exact gd
      · simp only [q, if_false] at e; exact h2.zk _ _ e
    · by_cases q : b = d
      · subst q
        refine .inr ⟨hbd, fun m => own ?_, fun i o e _ => own (.tail _ (List.mem_append_right _ (List.mem_of_getElem? e)))⟩
        rcases List.mem_cons.mp m with rfl | m
        · exact .head _
        · exact .tail _ (List.mem_append_left _ m)
      · simp only [q, if_false] at e; exact .inl e
  · cases e2
end Mine
end

section
open PySem PySem.W PyProof.Rows PySem.Calls
set_option maxRecDepth 10000
namespace Mine
variable {prog : Program} {w : World} {F : FE} {B : Base} {W : Wd} {st : PS} {s : Shared}

noncomputable def bs : Str := "\\"
noncomputable def escP : List Nat → Nat → Bool → Option (List PV)
  | [], _, true => none
  | [], _, false => some []
  | c :: r, p, true => (escP r (p + 1) false).map (.tup [.int (p : Nat), .str (bs ++ ⟨#[c]⟩)] :: ·)
  | c :: r, p, false => if c = 92 then escP r (p + 1) true else (escP r (p + 1) false).map (.tup [.int (p : Nat), .str ⟨#[c]⟩] :: ·)

/-- the generator's own things between two turns -/
structure GS (L e it : Addr) (T : String) (x : Str) (t : Tok) (i : Nat) (esc : Bool) (h : Heap) : Prop where
  ns : ∃ m, h.Ns L m ∧ m "escape" = some (.bool esc)
  en : ∃ old, IsEnum h e it i old
  si : h.IsStrIter it T x t i

/-- what the generator shows at a yield -/
noncomputable def ItemAt (p : PV) (v : Value) (h : Heap) : Prop := match p with
  | .tup [.int a, .str y] => ∃ T u1 u2, v = .ref T ∧ h.get? T = some ⟨.type "tuple", none, .seq #[.int a u1, .str y u2] 0, #[]⟩
  | _ => False
noncomputable def genY (L e it : Addr) (ys : List PV) : Protocol := fun n s₀ v s' kap => n < ys.length ∧ (∃ p, ys[ys.length - 1 - n]? = some p ∧ ItemAt p v s'.heap ∧ ∃ T, v = .ref T ∧ s₀.heap.get? T = none ∧ T ∉ [L, e, it]) ∧ GenSince L [e, it] s₀ s' ∧ (∀ b ∈ [L, e, it], ∃ o, s'.heap.get? b = some o) ∧
  ∀ s'', (∀ b ∈ [L, e, it], ∀ o, s'.heap.get? b = some o → s''.heap.get? b = some o) → kap (.send .none) s''


structure GEnv (env : Env) : Prop where
  kind : env.scope.kind = .function
  co : env.scope.isCoroutine = false
  ia : interactive env = false
  kpos : env.kindOf "pos" = some .local
  kch : env.kindOf "ch" = some .local
  kesc : env.kindOf "escape" = some .local
  kad : env.kindOf "addr" = some .local
  kenum : env.kindOf "enumerate" = some .globalImplicit


/-- a yield of a pair of values -/
theorem seg_pair {env : Env} {A : Around} {R : GenEnd} {Y : Protocol} {n : Nat} {s₀ : Shared} {c : Code} {fs : List Frame} {K : Flow → Sem Fin} {H : Value → Sem Fin} {gd : Bool → Bool} {lv : List Value → List Value} {e1 e2 : Expr} {k : Nat} {tp ypos pos : Pos}
    (hg : GEnv env) (hfs : splitAtGen fs = none) (hgd : gd false = false) (hfg : fs.any Frame.guarded = false)
    (hs1 : starEach [e1, e2] env = (false, eval e1 env) :: starEach [e2] env) (hs2 : starEach [e2] env = (false, eval e2 env) :: starEach [] env)
    (h : wpAny (model prog w) (A.over c fs) (eval e1 env) (fun v1 s1 => wpAny (model prog w) (A.over c fs) (eval e2 env) (fun v2 s2 => ∀ kap : Resume → Shared → Prop,
      (∀ s'', Seg (model prog w) A R Y n s'' c (K .next) fs s'' → kap (.send .none) s'') → Y n s₀ (.ref s2.heap.objs.size) { s2 with heap := s2.heap.push { cls := .type "tuple", data := .seq #[v1, v2] } } kap) (fun x s' => Seg (model prog w) A R Y (n + 1) s₀ c (H x) fs s') s1) (fun x s' => Seg (model prog w) A R Y (n + 1) s₀ c (H x) fs s') s) :
    Seg (model prog w) A R Y (n + 1) s₀ c ((exec (.Expr (.Yield (some (.Tuple [e1, e2] k tp)) ypos) pos) env).wrap K H gd lv) fs s := by
  refine seg_Expr_Yield hfs hgd hfg (wpAny_Tuple (wpAny_items_cons (wpAny_mono h (fun v1 s1 h1 => wpAny_items_cons (wpAny_mono h1 (fun v2 s2 h2 => wpAny_items_nil ⟨by simp [sizeLine_eq], ?_⟩) fun _ _ x => x) hs2) fun _ _ x => x) hs1)) hg.co hg.ia
  intro kap hk
  exact h2 kap fun s'' hs => hk .none s'' hs

noncomputable def fnIter : Arguments × List Stmt × Scope := fnNo 5
noncomputable def forParts : Option Stmt → Expr × List Stmt
  | some (.For T _ body _ _) => (T, body)
  | _ => (.Constant .none 0 default, [])
noncomputable def iterT : Expr := (forParts fnIter.2.1[2]?).1
noncomputable def iterB : List Stmt := (forParts fnIter.2.1[2]?).2
/-- the turns of the generator's loop -/
theorem seg_iterLoop {env : Env} {A : Around} {e it : Addr} {T : String} {x : Str} {t : Tok} {ys : List PV} {fs : List Frame}
    (hg : GEnv env) (hh : (A.over (.forLoop iterT (.ref e) iterB [] env) fs).handled = none) (hei : e ≠ it) (heL : e ≠ env.locals) (hiL : it ≠ env.locals)
    (D : ∀ A' : Around, A'.handled = none → Draws prog w A' it [it] x.cps.size (fun i v => ∃ c u, x.cps[i]? = some c ∧ v = .str ⟨#[c]⟩ u) (fun i h => h.IsStrIter it T x t i))
    (hfs : splitAtGen fs = none) (hfg : fs.any Frame.guarded = false) (hx : x.length ≤ 1000)
    {R : GenEnd} (fin : ∀ s₀ s, GenSince env.locals [e, it] s₀ s → (∃ m, s.heap.Ns env.locals m ∧ m "escape" = some (.bool false)) → Seg (model prog w) A R (genY env.locals e it ys) 0 s₀ (.block [] env) ((model prog w).den (.block [] env)) fs s) :
    ∀ (k i : Nat) (esc : Bool) (rest : List PV) (s₀ s : Shared), x.cps.size - i = k → i ≤ x.cps.size → GS env.locals e it T x t i esc s.heap → escP (x.cps.toList.drop i) i esc = some rest → GenSince env.locals [e, it] s₀ s → (∃ pre, ys = pre ++ rest) →
      Seg (model prog w) A R (genY env.locals e it ys) rest.length s₀ (.forLoop iterT (.ref e) iterB [] env) ((model prog w).den (.forLoop iterT (.ref e) iterB [] env)) fs s := by
  intro k
  induction k with
  | zero =>
    intro i esc rest s₀ s hk hi hgs hp hs hpre
    have hin : i = x.cps.size := by omega
    subst hin
    have hd : x.cps.toList.drop x.cps.size = [] := List.drop_of_length_le (by simp)
    rw [hd] at hp
    cases esc with
    | true => cases hp
    | false =>
      cases hp
      show Seg _ A _ _ _ s₀ _ ((forTurn _ _ _ _ env).onRaise (fun x => do noteFrame x env; theTreesLotGoes x)) fs s
      unfold forTurn
      rw [Sem.onRaise_eq_wrap]
      refine seg_bind_wrap (wpAny_standAt ?_)
      obtain ⟨old, he⟩ := hgs.en
      refine seg_bind_wrap (wpAny_onRaise (wpAny_pyNext_enum_endD (D _ hh) he hgs.si fun h' he' => ?_))
      refine seg_again rfl (fin _ _ (hs.step (tk := s.toks) fun b o hL hw y => he' b o (fun q => hw (by simp [q])) y) ?_)
      obtain ⟨m, hn, hme⟩ := hgs.ns
      exact ⟨m, hn.at' fun o y => he' _ o (Ne.symm hiL) y, hme⟩
  | succ k ih =>
    intro i esc rest s₀ s hk hi hgs hp hs hpre
    have hlt : i < x.cps.size := by omega
    show Seg _ A _ _ _ s₀ _ ((forTurn _ _ _ _ env).onRaise (fun x => do noteFrame x env; theTreesLotGoes x)) fs s
    unfold forTurn
    rw [Sem.onRaise_eq_wrap]
    refine seg_bind_wrap (wpAny_standAt ?_)
    obtain ⟨old, he⟩ := hgs.en
    obtain ⟨m, hn, hme⟩ := hgs.ns
    have hd : x.cps.toList.drop i = x.cps[i] :: x.cps.toList.drop (i + 1) := by
      rw [List.drop_eq_getElem_cons (by simpa using hlt)]; simp
    rw [hd] at hp
    refine seg_bind_wrap (wpAny_onRaise (wpAny_pyNext_enum_itemD (D _ hh) he hgs.si hlt hei (by simpa using hei) fun v h1 tk hv ho hsi hT hz hk1 => ?_))
    obtain ⟨c, u, hc, rfl⟩ := hv
    have hcc : x.cps[i] = c := by simpa [hlt] using hc
    rw [hcc] at hp
    have helt : e < s.heap.objs.size := Heap.lt_size he
    have hLlt : env.locals < s.heap.objs.size := hn.lt
    have hilt : it < s.heap.objs.size := by obtain ⟨o, y, _⟩ := hgs.si; exact Heap.lt_size y
    refine seg_bind_wrap (wpAny_letOwnedTupleGo_enum ho fun h2 he2 hs2 => ?_)
    have hT2 : h2.IsTuple s.heap.objs.size #[.int i tk, .str ⟨#[c]⟩ u] := ⟨_, (hs2.2 _ (Nat.ne_of_gt helt)).trans hT, rfl, _, rfl⟩
    refine seg_bind_wrap (wpAny_assign_Tuple hh hT2 rfl rfl fun h3 hx3 => ?_)
    have old3 : ∀ b o, h2.get? b = some o → h3.get? b = some o := fun b o y => hx3 b o (Nat.ne_of_lt (Heap.lt_size y)) y
    have hn3 : h3.Ns env.locals m := hn.at' fun o y => old3 _ o ((hs2.2 _ (Ne.symm heL)).trans (hk1 _ o (Ne.symm heL) (Ne.symm hiL) y))
    have hp' : (env.scope.kind == .class || (env.scope.kind == .module && env.locals != env.globals)) = false := by rw [hg.kind]; rfl
    refine wpAny_assignInOrder_more (wpAny_assign_Name (wpAny_storeName_local hg.kpos hn3 (fun h4 hn4 hs4 => ?_) hp'))
    refine wpAny_assignInOrder_more (wpAny_assign_Name (wpAny_storeName_local hg.kch hn4 (fun h5 hn5 hs5 => ?_) hp'))
    refine wpAny_assignInOrder_none ?_
    rw [Sem.bind_eq_wrap', Sem.wrap_wrap]
    refine seg_execs_cons ?_
    rw [exec_If]
    refine seg_bind_wrap (wpAny_standAt ?_)
    have d1 : (Str.ofString "escape") ≠ Str.ofString "ch" := by decide
    have d2 : (Str.ofString "escape") ≠ Str.ofString "pos" := by decide
    have d3 : (Str.ofString "pos") ≠ Str.ofString "ch" := by decide
    obtain ⟨m5, hm5, m5e, m5p, m5c⟩ : ∃ m5, h5.Ns env.locals m5 ∧ m5 "escape" = some (.bool esc) ∧ m5 "pos" = some (.int (i : Int) tk) ∧ m5 "ch" = some (.str ⟨#[c]⟩ u) :=
      ⟨_, hn5, by simp [d1, d2, hme], by simp [d3], by simp⟩
    have old5 : ∀ b o, b ≠ env.locals → h3.get? b = some o → h5.get? b = some o := fun b o q y => (hs5.2 b q).trans ((hs4.2 b q).trans y)
    have gE : ∃ old, IsEnum h5 e it ((i + 1 : Nat) : Int) old := ⟨_, old5 _ _ heL (old3 _ _ (by simpa using he2))⟩
    have gI : h5.IsStrIter it T x t (i + 1) := by
      obtain ⟨o, y, r⟩ := hsi
      exact ⟨o, old5 _ _ hiL (old3 _ _ ((hs2.2 _ (Ne.symm hei)).trans y)), r⟩
    refine (fun (key : ∀ s5 : Shared, s5.heap = h5 → s5 = { s with heap := h5, toks := s5.toks } → Seg (model prog w) A R (genY env.locals e it ys) rest.length s₀ _ _ fs s5) => key _ rfl rfl) fun s5 eh es5 => ?_
    have hs5' : GenSince env.locals [e, it] s₀ s5 := by
      rw [es5]
      exact hs.step fun b o hL hw y => old5 b o hL (old3 b o ((hs2.2 b fun q => hw (by simp [q])).trans (hk1 b o (fun q => hw (by simp [q])) (fun q => hw (by simp [q])) y)))
    subst eh
    clear es5
    have hnd : ∀ z : Str, z = "escape" ∨ z = "pos" ∨ z = "ch" → (z == ("__debug__" : Str)) = false := by
      rintro z (rfl | rfl | rfl) <;> decide
    have asg : ∀ (b : Bool) (cc : Nat) (pa pb pc : Pos) (s' : Shared) (m' : Str → Option Value) (Q : Flow → Shared → Prop) (E : Value → Shared → Prop), s'.heap.Ns env.locals m' →
        (∀ h' tk', h'.Ns env.locals (fun y => if y = "escape" then some (.bool b) else m' y) → Heap.SameBut env.locals s'.heap h' → Q .next { s' with heap := h', toks := tk' }) → ∀ A' : Around, wpAny (model prog w) A' (exec (.Assign [.Name "escape" pa] (.Constant (.bool b) cc pb) pc) env) Q E s' :=
      fun b cc pa pb pc s' m' Q E hn' hq A' => wpAny_Assign_Name (wpAny_Constant_bool (wpAny_storeName_local hg.kesc hn' (fun h' a1 a2 => hq h' _ a1 a2) hp')) rfl
    have lenY : ∀ (p : PV) (rest' : List PV), (∃ pre, ys = pre ++ p :: rest') → rest'.length < ys.length ∧ ys[ys.length - 1 - rest'.length]? = some p := by
      rintro p rest' ⟨pre, rfl⟩
      refine ⟨by simp; omega, ?_⟩
      rw [List.length_append, List.length_cons]
      rw [show pre.length + (rest'.length + 1) - 1 - rest'.length = pre.length from by omega]
      simp
    have live5 : ∀ b ∈ [env.locals, e, it], ∃ o, s5.heap.get? b = some o := by
      intro b hb
      rcases List.mem_cons.mp hb with rfl | hb
      · obtain ⟨o, _, _, y, _⟩ := hm5; exact ⟨o, y⟩
      · rcases List.mem_cons.mp hb with rfl | hb
        · obtain ⟨_, y⟩ := gE; exact ⟨_, y⟩
        · rw [List.mem_singleton.mp hb]; obtain ⟨o, y, _⟩ := gI; exact ⟨o, y⟩
    have hne : ∀ b ∈ [env.locals, e, it], s5.heap.objs.size ≠ b := fun b hb z => by
      obtain ⟨o, y⟩ := live5 b hb
      exact Nat.lt_irrefl _ (z ▸ Heap.lt_size y)
    have hTn : s₀.heap.get? s5.heap.objs.size = none ∧ s5.heap.objs.size ∉ [env.locals, e, it] := by
      refine ⟨?_, fun m => hne _ m rfl⟩
      cases q : s₀.heap.get? s5.heap.objs.size with
      | none => rfl
      | some o =>
        obtain ⟨h', tk', eq, hkk⟩ := hs5'
        have e5 : s5.heap = h' := congrArg Shared.heap eq
        subst e5
        exact absurd (Heap.lt_size (hkk _ o (hne _ (by simp)) (fun m => hne _ (.tail _ m) rfl) q)) (Nat.lt_irrefl _)
    refine seg_bind_wrap (wpAny_bind (wpAny_Name (wpAny_loadName_local hg.kind hg.kesc hm5 m5e (wpAny_bind (wpAny_standAt (wpAny_holding (wpAny_truthy_bool ?_))))) ))
    cases esc with
    | true =>
      rw [if_pos rfl]
      obtain ⟨rest', e1, rfl⟩ := Option.map_eq_some_iff.mp hp
      refine seg_execs_cons ?_
      refine seg_pair hg hfs rfl hfg rfl rfl (wpAny_Name (wpAny_loadName_local hg.kind hg.kpos hm5 m5p ?_) (hnd _ (.inr (.inl rfl))))
      refine wpAny_BinOp (wpAny_Constant_str (wpAny_Name (wpAny_loadName_local hg.kind hg.kch hm5 m5c ?_) (hnd _ (.inr (.inr rfl)))))
      refine PyProof.Rows.add_str (fun t' tk' kap hkap => ?_) (by show bs.length + 1 ≤ sizeLine; decide)
      obtain ⟨l1, l2⟩ := lenY _ _ hpre
      refine ⟨l1, ⟨_, l2, ⟨_, _, _, rfl, Heap.get?_push_size _ rfl⟩, _, rfl, hTn⟩, hs5'.step fun b o _ _ y => Heap.get?_push_of_some _ y, (fun b hb => let ⟨o, y⟩ := live5 b hb; ⟨o, Heap.get?_push_of_some _ y⟩), fun s'' hal => hkap s'' ?_⟩
      have hn6 : s''.heap.Ns env.locals m5 := hm5.at' fun o y => hal _ (by simp) o (Heap.get?_push_of_some _ y)
      refine seg_execs_cons (seg_wrap (asg false _ _ _ _ s'' m5 _ _ hn6 (fun h7 tk7 hn7 hs7 => ?_) _))
      refine seg_again rfl (ih (i + 1) false rest' s'' _ (by omega) hlt ⟨⟨_, hn7, by simp⟩, ?_, ?_⟩ e1 ⟨h7, tk7, rfl, fun b o hL _ y => hs7.extBut b o hL y⟩ ?_)
      · obtain ⟨old, y⟩ := gE
        exact ⟨old, hs7.extBut _ _ heL (hal _ (by simp) _ (Heap.get?_push_of_some _ y))⟩
      · obtain ⟨o, y, r⟩ := gI
        exact ⟨o, hs7.extBut _ _ hiL (hal _ (by simp) _ (Heap.get?_push_of_some _ y)), r⟩
      · obtain ⟨pre, rfl⟩ := hpre; exact ⟨_, List.append_cons ..⟩
    | false =>
      rw [if_neg (by decide)]
      refine seg_execs_cons ?_
      rw [exec_If]
      refine seg_bind_wrap (wpAny_standAt ?_)
      refine seg_bind_wrap (wpAny_isTrue_Compare1 (wpAny_Name (wpAny_loadName_local hg.kind hg.kch hm5 m5c (wpAny_Constant_str (P.eq_str (wpAny_truthy_bool ?_)))) (hnd _ (.inr (.inr rfl)))) rfl)
      by_cases hc92 : c = 92
      · subst hc92
        rw [if_pos (by decide)]
        unfold escP at hp
        rw [if_pos rfl] at hp
        refine seg_execs_cons (seg_wrap (asg true _ _ _ _ _ m5 _ _ (by exact hm5) (fun h7 tk7 hn7 hs7 => ?_) _))
        refine seg_again rfl (ih (i + 1) true rest s₀ _ (by omega) hlt ⟨⟨_, hn7, by simp⟩, ?_, ?_⟩ hp (hs5'.step fun b o hL _ y => hs7.extBut b o hL y) hpre)
        · obtain ⟨old, y⟩ := gE
          exact ⟨old, hs7.extBut _ _ heL y⟩
        · obtain ⟨o, y, r⟩ := gI
          exact ⟨o, hs7.extBut _ _ hiL y, r⟩
      · have hne : ((⟨#[c]⟩ : Str).cps.toList == (Str.ofString "\\").cps.toList) = false := by
          have : (Str.ofString "\\").cps.toList = [92] := by decide
          rw [this]
          simpa using hc92
        rw [hne, if_neg (by decide)]
        unfold escP at hp
        rw [if_neg hc92] at hp
        obtain ⟨rest', e1, rfl⟩ := Option.map_eq_some_iff.mp hp
        refine seg_execs_cons ?_
        refine seg_pair hg hfs rfl hfg rfl rfl (wpAny_Name (wpAny_loadName_local hg.kind hg.kpos hm5 m5p ?_) (hnd _ (.inr (.inl rfl))))
        refine wpAny_Name (wpAny_loadName_local hg.kind hg.kch hm5 m5c fun kap hkap => ?_) (hnd _ (.inr (.inr rfl)))
        obtain ⟨l1, l2⟩ := lenY _ _ hpre
        refine ⟨l1, ⟨_, l2, ⟨_, _, _, rfl, Heap.get?_push_size _ rfl⟩, _, rfl, hTn⟩, hs5'.step fun b o _ _ y => Heap.get?_push_of_some _ y, (fun b hb => let ⟨o, y⟩ := live5 b hb; ⟨o, Heap.get?_push_of_some _ y⟩), fun s'' hal => hkap s'' ?_⟩
        refine seg_again rfl (ih (i + 1) false rest' s'' _ (by omega) hlt ⟨⟨m5, hm5.at' fun o y => hal _ (by simp) o (Heap.get?_push_of_some _ y), m5e⟩, ?_, ?_⟩ e1 (GenSince.refl _ _ _) ?_)
        · obtain ⟨old, y⟩ := gE
          exact ⟨old, hal _ (by simp) _ (Heap.get?_push_of_some _ y)⟩
        · obtain ⟨o, y, r⟩ := gI
          exact ⟨o, hal _ (by simp) _ (Heap.get?_push_of_some _ y), r⟩
        · obtain ⟨pre, rfl⟩ := hpre; exact ⟨_, List.append_cons ..⟩
end Mine
end

section
open PySem PySem.W PyProof.Rows PySem.Calls
set_option maxRecDepth 10000
namespace Mine
variable {prog : Program} {w : World} {F : FE} {B : Base} {W : Wd} {st : PS} {s : Shared}

noncomputable abbrev iterEnv (fd : FuncData) (L : Addr) : Env := callEnv fd L 63
theorem iterG (fd : FuncData) (L : Addr) (h : fd.scope = fnIter.2.2) : GEnv (iterEnv fd L) := by
  obtain ⟨a1, a2, a3, a4, a5, a6, a7, a8, a9, a10, a11, a12⟩ := fd
  subst h
  exact ⟨rfl, rfl, rfl, rfl, rfl, rfl, rfl, rfl⟩

noncomputable abbrev genR (L : Addr) : GenEnd := fun n s₀ r s₁ => r = .ok (.ret .none) ∧ (n = 0 ∧ ∃ wr, GenSince L wr s₀ s₁ ∧ ∀ b ∈ wr, True)

theorem draws_str {A : Around} (hh : A.handled = none) (it : Addr) (x : Str) (t : Tok) : Draws prog w A it [it] x.cps.size (fun i v => ∃ c u, x.cps[i]? = some c ∧ v = .str ⟨#[c]⟩ u) (fun i h => h.IsStrIter it (strIterType x) x t i) := by
  cases h : x.cps.all (· < 128) with
  | true => simpa [strIterType, h] using Draws.strAscii (prog := prog) (w := w) hh it x t
  | false => simpa [strIterType, h] using Draws.strWide (prog := prog) (w := w) hh it x t
theorem seg_iterFunc {A : Around} {fd : FuncData} {L : Addr} {x : Str} {t : Tok} {ys : List PV} {m : Str → Option Value} (hsc : fd.scope = fnIter.2.2) (hgl : fd.globals = mainGlobals) (hbi : fd.builtins = builtinsNs) (hA : A.handled = none) (S : ∀ h' : Heap, (∀ b o, b ≠ L → s.heap.get? b = some o → h'.get? b = some o) → Stat prog w h')
    (hn : s.heap.Ns L m) (hm : m "addr" = some (.str x t)) (hx : x.length ≤ 1000) (hp : escP x.cps.toList 0 false = some ys) :
    Seg (model prog w) A (fun n s₀ r s₁ => r = .ok (.ret .none) ∧ (n = 0 ∧ GenSince L [s.heap.objs.size + 1, s.heap.objs.size] s₀ s₁)) (genY L (s.heap.objs.size + 1) s.heap.objs.size ys) ys.length s (.func fnIter.2.1 (iterEnv fd L)) ((model prog w).den (.func fnIter.2.1 (iterEnv fd L))) [] s := by
  have hg := iterG fd L hsc
  have hp' : ((iterEnv fd L).scope.kind == .class || ((iterEnv fd L).scope.kind == .module && (iterEnv fd L).locals != (iterEnv fd L).globals)) = false := by rw [hg.kind]; rfl
  refine seg_func ?_
  refine seg_execs_cons (seg_wrap (wpAny_Assign_Name (wpAny_Constant_int (wpAny_storeName_local hg.kpos hn (fun h1 hn1 hs1 => ?_) hp')) rfl))
  refine seg_execs_cons (seg_wrap (wpAny_Assign_Name (wpAny_Constant_bool (wpAny_storeName_local hg.kesc hn1 (fun h2 hn2 hs2 => ?_) hp')) rfl))
  refine seg_execs_cons ?_
  rw [exec_For]
  refine seg_bind_wrap (wpAny_standAt ?_)
  have k2 : ∀ b o, b ≠ L → s.heap.get? b = some o → h2.get? b = some o := fun b o q e => hs2.extBut b o q (hs1.extBut b o q e)
  obtain ⟨mg, mb, g1, g2, g3, g4⟩ := (S h2 k2).ns
  have e1 : Str.ofString "addr" ≠ Str.ofString "escape" := by decide
  have e2 : Str.ofString "addr" ≠ Str.ofString "pos" := by decide
  have hz1 : h1.objs.size = s.heap.objs.size := hs1.1
  have hz2 : h2.objs.size = s.heap.objs.size := hs2.1.trans hz1
  have hLlt : L < s.heap.objs.size := hn.lt
  refine seg_bind_wrap (wpAny_Call_NameR (Name_function_global hg.kind hg.kenum (loadGlobal_builtin (mg := mg) (mb := mb) (x := "enumerate") (v := .type "enumerate") (show Heap.Ns h2 fd.globals mg from hgl ▸ g1) (g4 ("enumerate", .type "enumerate") (by decide)).1 (show Heap.Ns h2 fd.builtins mb from hbi ▸ g2) (g4 ("enumerate", .type "enumerate") (by decide)).2 ?_) (by decide)))
  refine callWith_type1 ?_ rfl
  refine spliced_cons (wpAny_Name (wpAny_loadName_local hg.kind hg.kad hn2 (v := .str x t) (by simp [e1, e2, hm]) (spliced_nil ?_)))
  refine call_enumerate_str fun h3 he3 hi3 hz3 hk3 => ?_
  dsimp only at he3 hi3 hz3 hk3 ⊢
  rw [hz2] at he3 hi3 hz3
  rw [hz2]
  refine seg_bind_wrap (wpAny_of_eq rfl ?_)
  refine seg_bind_wrap (wpAny_standAt ?_)
  refine seg_bind_wrap (wpAny_holding (wpAny_pyIter_enum he3 ?_))
  refine seg_call fun p => ?_
  have hk : ∀ b o, b ≠ L → s.heap.get? b = some o → h3.get? b = some o := fun b o q e => hk3 b o (k2 b o q e)
  have fr1 : s.heap.objs.size + 1 ≠ L := by exact Nat.ne_of_gt (Nat.lt_succ_of_lt hLlt)
  have fr2 : s.heap.objs.size ≠ L := Nat.ne_of_gt hLlt
  have hn3 := hn2.keeps hk3
  have len : ys.length = ys.length := rfl
  refine seg_iterLoop (x := x) (t := t) (T := strIterType x) (ys := ys) hg ?_ (Nat.succ_ne_self _) fr1 fr2 (fun A' hA' => draws_str hA' _ x t) rfl rfl hx ?_ _ 0 false ys s _ rfl (Nat.zero_le _) ⟨⟨_, hn3, by simp⟩, ⟨_, he3⟩, hi3⟩ (by simpa using hp) ⟨h3, _, rfl, fun b o q _ e => hk b o q e⟩ ⟨[], rfl⟩
  · exact hA
  · intro s₀ s' hs hns
    obtain ⟨m', hn', hm'⟩ := hns
    show Seg _ A _ _ _ s₀ _ (((execs [] (iterEnv fd L)).onRaise (fun x => do noteFrame x (iterEnv fd L); theTreesLotGoes x)) >>= fun f => pure (.done f)) _ s'
    rw [Sem.onRaise_eq_wrap, Sem.bind_eq_wrap', Sem.wrap_wrap]
    refine seg_execs_nil (seg_leaf (.ok .next) ?_)
    refine seg_execs_cons ?_
    rw [exec_If]
    refine seg_bind_wrap (wpAny_standAt ?_)
    refine seg_bind_wrap (wpAny_bind (wpAny_Name (wpAny_loadName_local hg.kind hg.kesc hn' hm' (wpAny_bind (wpAny_standAt (wpAny_holding (wpAny_truthy_bool ?_)))))))
    rw [if_neg (by decide)]
    refine seg_execs_nil (seg_execs_nil (seg_end (.ok (.ret .none)) ⟨rfl, rfl, hs⟩))
end Mine
end

section
open PySem PySem.W PyProof.Rows PySem.Calls
set_option maxRecDepth 10000
namespace Mine
variable {prog : Program} {w : World} {F : FE} {B : Base} {W : Wd} {st : PS} {s : Shared}

noncomputable abbrev genEnd (L e it : Addr) : GenEnd := fun n s₀ r s₁ => r = .ok (.ret .none) ∧ (n = 0 ∧ GenSince L [e, it] s₀ s₁)
structure GenI (prog : Program) (w : World) (A : Around) (a : Addr) (g : Nat) (L : Addr) (fd : FuncData) (x : Str) (t : Tok) (ys : List PV) (i : Nat) (wr : List Addr) (s : Shared) : Prop where
  isg : s.heap.IsGen a g
  aL : a ≠ L
  aw : a ∈ wr
  lw : L ∈ wr
  st : ∃ gs, s.gens[g]? = some gs ∧ ((i = 0 ∧ gs = .fresh (.func fnIter.2.1 (iterEnv fd L)) ∧ ∃ m, s.heap.Ns L m ∧ m "addr" = some (.str x t)) ∨
    ∃ e it, e ∈ wr ∧ it ∈ wr ∧ a ≠ e ∧ a ≠ it ∧ ∀ s'' : Shared, (∀ b ∈ [L, e, it], ∀ o, s.heap.get? b = some o → s''.heap.get? b = some o) → gs.Goes (model prog w) A.in1 (genEnd L e it) (genY L e it ys) (ys.length - i) (.send .none) s'')

theorem gens_set {s : Shared} {g : Nat} {gs x : GenState} (h : s.gens[g]? = some gs) : (s.setGen g x).gens[g]? = some x := setGen_self h
theorem gens_ne {s : Shared} {g i : Nat} {x : GenState} (h : i ≠ g) : (s.setGen g x).gens[i]? = s.gens[i]? := by
  simp [Shared.setGen, Ne.symm h]

/-- the turns that one resume makes -/
theorem gen_turns {L e it : Addr} {g : Nat} {gs x y : GenState} {wr : List Addr} {s s₁ : Shared} {h' : Heap} (hg : s.gens[g]? = some gs) (hL : L ∈ wr) (he : e ∈ wr ∨ s.heap.get? e = none) (hi : it ∈ wr ∨ s.heap.get? it = none) (hs : GenSince L [e, it] (s.setGen g x) s₁)
    (hk : ∀ b o, s₁.heap.get? b = some o → h'.get? b = some o) : Turns wr [g] s { s₁.setGen g y with heap := h' } := by
  obtain ⟨h₁, tk, rfl, hkk⟩ := hs
  refine ⟨fun b o hb e => hk b o (hkk b o (fun q => hb (q ▸ hL)) (fun m => ?_) e), rfl, rfl, fun i z hi e => ?_, fun i z hi e e' => ?_⟩
  · rcases List.mem_cons.mp m with rfl | m
    · rcases he with q | q
      · exact hb q
      · rw [q] at e; cases e
    · rw [List.mem_singleton.mp m] at hb e
      rcases hi with q | q
      · exact hb q
      · rw [q] at e; cases e
  · have hne : i ≠ g := fun q => hi (by simp [q])
    have e1 := gens_ne (s := { s.setGen g x with heap := h₁, toks := tk }) (x := y) hne
    have e2 := gens_ne (s := s) (x := x) hne
    exact (e1.trans e2).trans e
  · have hne : i ≠ g := fun q => hi (by simp [q])
    have e1 := gens_ne (s := { s.setGen g x with heap := h₁, toks := tk }) (x := y) hne
    have e2 := gens_ne (s := s) (x := x) hne
    have := (e1.trans e2).symm.trans e'
    rw [e] at this; cases this

theorem gen_next {A : Around} {a : Addr} {g : Nat} {L : Addr} {fd : FuncData} {x : Str} {t : Tok} {ys : List PV} {i : Nat} {wr : List Addr} {Q : Option Value → Shared → Prop} {E : Value → Shared → Prop}
    (hA : A.handled = none) (hroom : A.depth < recursionLimit) (hl : s.heap.NoLimit) (hsc : fd.scope = fnIter.2.2) (hgl : fd.globals = mainGlobals) (hbi : fd.builtins = builtinsNs) (hx : x.length ≤ 1000) (hp : escP x.cps.toList 0 false = some ys)
    (S : ∀ h' : Heap, (∀ b o, b ≠ L → s.heap.get? b = some o → h'.get? b = some o) → Stat prog w h') (al : Alive wr [g] s) (G : GenI prog w A a g L fd x t ys i wr s) (hi : i ≤ ys.length)
    (item : ∀ p v T wr' s', ys[i]? = some p → ItemAt p v s'.heap → v = .ref T → s.heap.get? T = none → T ∉ wr' → (∀ b ∈ wr, b ∈ wr') → (∀ b ∈ wr', b ∈ wr ∨ s.heap.get? b = none) → Turns wr [g] s s' → Alive wr' [g] s' → GenI prog w A a g L fd x t ys (i + 1) wr' s' → Q (some v) s')
    (done : ∀ s', i = ys.length → Turns wr [g] s s' → s'.gens[g]? = some .finished → Q none s') : wpAny (model prog w) A (pyNext (.ref a)) Q E s := by
  obtain ⟨isg, aL, aw, lw, gs, hgs, hc⟩ := G
  have key : ∀ (e it : Addr), (e ∈ wr ∨ s.heap.get? e = none) → (it ∈ wr ∨ s.heap.get? it = none) → a ≠ e → a ≠ it → gs.Goes (model prog w) A.in1 (genEnd L e it) (genY L e it ys) (ys.length - i) (.send .none) (s.setGen g .running) → wpAny (model prog w) A (pyNext (.ref a)) Q E s := by
    intro e it hew hiw ae ai hgo
    refine wpAny_pyNext_gen (P := fun n s₀ s₁ => n = 0 ∧ GenSince L [e, it] s₀ s₁) hA hl hroom isg hgs hgo (fun v s₁ gs' hY => ?_) (fun s₁ hP h' hk => ?_)
    · obtain ⟨h1, ⟨p, hp1, hp2, T, rfl, hT, hTw⟩, h3, h4, h5⟩ := hY
      have hlt : i < ys.length := by
        rcases Nat.lt_or_ge i ys.length with q | q
        · exact q
        · exfalso
          have : ys.length - i = 0 := by omega
          rw [this] at h5
          exact h5 s₁ fun b _ o e => e
      obtain ⟨n, hn⟩ : ∃ n, ys.length - i = n + 1 := ⟨ys.length - i - 1, by omega⟩
      rw [hn] at h5 hp1
      have hi2 : ys.length - 1 - (n + 1 - 1) = i := by omega
      rw [hi2] at hp1
      have tt : Turns wr [g] s (s₁.setGen g gs') := gen_turns (h' := s₁.heap) hgs lw hew hiw h3 (fun _ _ e => e)
      have hgs1 : s₁.gens[g]? = some .running := by
        obtain ⟨h₁, tk, rfl, _⟩ := h3
        exact gens_set hgs
      have isg1 : s₁.heap.IsGen a g := by
        obtain ⟨h₁, tk, rfl, hkk⟩ := h3
        obtain ⟨o, nm, qn, ho, r⟩ := isg
        exact ⟨o, nm, qn, hkk a o aL (fun m => by
          rcases List.mem_cons.mp m with q | m
          · exact ae q
          · exact ai (List.mem_singleton.mp m)) ho, r⟩
      refine item p _ T (e :: it :: wr) _ hp1 hp2 rfl hT (fun m => by
        rcases List.mem_cons.mp m with q | m
        · exact hTw (by simp [q])
        · rcases List.mem_cons.mp m with q | m
          · exact hTw (by simp [q])
          · obtain ⟨o, y⟩ := al.1 T m
            have hT : s.heap.get? T = none := hT
            rw [hT] at y; cases y) (fun b hb => .tail _ (.tail _ hb)) (fun b hb => ?_) tt ⟨fun b hb => ?_, fun j hj => ?_⟩ ⟨isg1, aL, .tail _ (.tail _ aw), .tail _ (.tail _ lw), gs', gens_set hgs1, .inr ⟨e, it, .head _, .tail _ (.head _), ae, ai, fun s'' hal => ?_⟩⟩
      · rcases List.mem_cons.mp hb with rfl | hb
        · exact hew
        · rcases List.mem_cons.mp hb with rfl | hb
          · exact hiw
          · exact .inl hb
      · rcases List.mem_cons.mp hb with rfl | hb
        · exact h4 _ (by simp)
        · rcases List.mem_cons.mp hb with rfl | hb
          · exact h4 _ (by simp)
          · by_cases q : b = L
            · subst q; exact h4 _ (by simp)
            · by_cases q1 : b = e
              · subst q1; exact h4 _ (by simp)
              · by_cases q2 : b = it
                · subst q2; exact h4 _ (by simp)
                · obtain ⟨h₁, tk, rfl, hkk⟩ := h3
                  obtain ⟨o, y⟩ := al.1 b hb
                  exact ⟨o, hkk b o q (by simp [q1, q2]) y⟩
      · rw [List.mem_singleton.mp hj]; exact ⟨_, gens_set hgs1⟩
      · have hn2 : ys.length - (i + 1) = n := by omega
        rw [hn2]
        exact h5 s'' hal
    · obtain ⟨h0, h3⟩ := hP
      have hgs1 : s₁.gens[g]? = some .running := by
        obtain ⟨h₁, tk, rfl, _⟩ := h3
        exact gens_set hgs
      exact done _ (by omega) (gen_turns hgs lw hew hiw h3 hk) (gens_set hgs1)
  rcases hc with ⟨rfl, rfl, m, hn, hm⟩ | ⟨e, it, he, hit, ae, ai, hgo⟩
  · have hal : a < s.heap.objs.size := by obtain ⟨o, _, _, y, _⟩ := isg; exact Heap.lt_size y
    refine key (s.heap.objs.size + 1) s.heap.objs.size (.inr (none_of_size (Nat.le_succ _))) (.inr (none_of_size (Nat.le_refl _))) (Nat.ne_of_lt (Nat.lt_succ_of_lt hal)) (Nat.ne_of_lt hal) ⟨rfl, ?_⟩
    exact seg_iterFunc (s := s.setGen g .running) hsc hgl hbi hA S hn hm hx hp
  · exact key e it (.inl he) (.inl hit) ae ai (hgo _ fun b _ o e => e)
end Mine
end

section
open PySem PySem.W PyProof.Rows PySem.Calls
set_option maxRecDepth 10000
namespace Mine
variable {prog : Program} {w : World} {F : FE} {B : Base} {W : Wd} {st : PS} {s : Shared}

/-- more things are hidden -/
theorem RR.hide {B' : Base} {wr wr' : List Addr} {wg : List Nat} {s₀ : Shared} (h0 : RR prog w F B' W st s₀) (h : RR prog w F (B.over wr wg s) W st s) (hsub : ∀ b ∈ wr, b ∈ wr') (hn : ∀ b ∈ wr', b ∈ wr ∨ s₀.heap.get? b = none) (al : Alive wr' wg s) :
    RR prog w F (B.over wr' wg s) W st s := by
  have hm : ∀ b ∈ wr', b ∉ wr → W.Z b = none ∧ b ∉ F.env.locals :: (F.pc ++ W.ρ) := fun b hb hw => by
    have hs := (hn b hb).resolve_left hw
    refine ⟨?_, fun m => ?_⟩
    · cases q : W.Z b with
      | none => rfl
      | some o => have := h0.zk _ _ q; rw [hs] at this; cases this
    · obtain ⟨o, e⟩ := h0.alive b m; rw [hs] at e; cases e
  refine { h with keep := fun b o e => ?_, rest := ⟨h.rest.drawn, h.rest.os, h.rest.gens, h.rest.fin⟩, cfix := fun y c e => ?_, dis := fun b o e => ?_ }
  · simp only [Base.over] at e
    split at e
    · exact e
    · rename_i hb
      exact h.keep b o (by simp only [Base.over]; rw [if_neg (fun m => hb (hsub b m))]; exact e)
  · rcases h.cfix y c e with r | ⟨o, r⟩
    · exact .inl r
    · refine .inr ?_
      by_cases hb : c ∈ wr'
      · obtain ⟨o, y⟩ := al.1 c hb
        exact ⟨o, by simp only [Base.over]; rw [if_pos hb]; exact y⟩
      · refine ⟨o, ?_⟩
        simp only [Base.over] at r ⊢
        rw [if_neg hb]; rwa [if_neg (fun m => hb (hsub c m))] at r
  · by_cases hw : b ∈ wr
    · exact h.dis b o (by simp only [Base.over] at e ⊢; rw [if_pos hw]; rwa [if_pos (hsub b hw)] at e)
    · by_cases hb : b ∈ wr'
      · exact hm b hb hw
      · exact h.dis b o (by simp only [Base.over] at e ⊢; rw [if_neg hw]; rwa [if_neg hb] at e)

theorem item_val {Z : Frz} {p : PV} {v : Value} {h : Heap} (hi : ItemAt p v h) : ∃ T o, v = .ref T ∧ h.get? T = some o ∧ ∀ Z : Frz, Z T = some o → V prog w Z v p := by
  unfold ItemAt at hi
  split at hi
  · obtain ⟨T, u1, u2, rfl, g⟩ := hi
    exact ⟨T, _, rfl, g, fun Z hz => V.tup' hz (.cons (V.int _ _) (.cons (V.str _ _) .nil))⟩
  · exact hi.elim

theorem codeAny_forG {T : Expr} {asg : PV → PM Unit} {body : List Stmt} {pb : PM PF} {k : Nat} {A : Around} {a : Addr} {g : Nat} {L : Addr} {fd : FuncData} {x : Str} {t : Tok} {wr : List Addr} {ys : List PV} {R : Result → Shared → Prop} {f : PF} {st' : PS}
    (hT : TRef prog w F T asg) (ho : okAny T) (hb : Ref prog w F k (execs body F.env) (FR prog w) pb) (hnr : NoRet pb) (ha : AOk k A)
    (hsc : fd.scope = fnIter.2.2) (hgl : fd.globals = mainGlobals) (hbi : fd.builtins = builtinsNs) (hx : x.length ≤ 1000) (hp : escP x.cps.toList 0 false = some ys)
    (zs : ZStat prog w W.Z) (al : Alive wr [g] s) (hn : F.Off wr ∧ ∀ b ∈ wr, B.get b = none) (G : GenI prog w A a g L fd x t ys 0 wr s) (h : RR prog w F (B.over wr [g] s) W st s) (e : pFor asg pb ys st = some (f, st'))
    (hR : ∀ W' s' wr' fl, W.le W' → FR prog w W' fl f → RR prog w F (B.over wr' [g] s') W' st' s' → (∀ b ∈ wr', B.get b = none) → s'.gens[g]? = some .finished → R (.ok fl) s') :
    codeAny (model prog w) A (.forLoop T (.ref a) body [] F.env) R s := by
  obtain ⟨I', hI⟩ : ∃ I' : Nat → Shared → Prop, ∀ n s', I' n s' ↔ ∃ i wr' W' st1, n = ys.length - i ∧ W.le W' ∧ i ≤ ys.length ∧ GenI prog w A a g L fd x t ys i wr' s' ∧ Alive wr' [g] s' ∧ (F.Off wr' ∧ ∀ b ∈ wr', B.get b = none) ∧ RR prog w F (B.over wr' [g] s') W' st1 s' ∧ pFor asg pb (ys.drop i) st1 = some (f, st') := ⟨_, fun _ _ => Iff.rfl⟩
  refine codeAny_forLoop_any I' ?_ _ ((hI _ _).mpr ⟨0, wr, W, st, rfl, .refl _, Nat.zero_le _, G, al, hn, h, by simpa using e⟩)
  intro n s' hI'
  obtain ⟨i, wr', W', st1, rfl, hle, hi, hG, hal, ⟨hoff, hn'⟩, hr, hpf⟩ := (hI _ _).mp hI'
  have zs' := zs.mono hle.2
  have hLn : ∀ b o, W'.Z b = some o → b ≠ L := fun b o e q => by
    obtain ⟨ob, y⟩ := hal.1 L hG.lw
    have := (hr.dis L ob (by simp only [Base.over]; rw [if_pos hG.lw]; exact y)).1
    rw [q, this] at e; cases e
  refine gen_next ha.h (by have := ha.d; omega) (hr.stat zs').nolim hsc hgl hbi hx hp (fun h' hk => zs'.all h' fun b o e => hk b o (hLn b o e) (hr.zk b o e)) hal hG hi (fun p v T0 wr2 s2 hp1 hit hv hTn hTw hsub hw2 tt al2 G2 => ?_) (fun s2 hlen tt hfin => ?_)
  · have hlt : i < ys.length := (List.getElem?_eq_some_iff.mp hp1).1
    rw [List.drop_eq_getElem_cons hlt] at hpf
    have hpe : ys[i] = p := by rw [List.getElem?_eq_getElem hlt] at hp1; exact Option.some.inj hp1
    rw [hpe] at hpf
    obtain ⟨_, st2, e1, e2⟩ := pbind_some hpf
    obtain ⟨fl', st3, e3, e4⟩ := pbind_some e2
    have r1 := hr.turn hoff hal tt
    have r2 := RR.hide hr r1 hsub hw2 al2
    obtain ⟨T1, o1, hv1, hT1, hval⟩ := item_val (prog := prog) (w := w) (Z := W'.Z) hit
    rw [hv] at hv1; cases hv1
    have hTb : (B.over wr2 [g] s2).get T0 = none := by
      simp only [Base.over]
      rw [if_neg hTw]
      cases r : B.get T0 with
      | none => rfl
      | some o =>
        have hq : T0 ∉ wr' := fun m => hTw (hsub _ m)
        have := hr.keep T0 o (by simp only [Base.over]; rw [if_neg hq]; exact r)
        rw [hTn] at this; cases this
    obtain ⟨r3, l3⟩ := RR.frzNew hr r2 hTn hTb hT1
    have hgo := G2.isg
    obtain ⟨og, nm, qn, ho', hc', hd', _⟩ := hgo
    subst hv
    refine go_iter (N := "generator") (by decide) ho ho' hc' hd' (hT.run ha.h (hval _ (if_pos rfl)) e1 r3 fun s4 r4 => ?_)
    obtain ⟨r5, al5, hh5, hg5⟩ := r4.reover al2
    refine hb.run ha (zs'.mono l3.2) e3 r5 fun W6 fl s6 l6 hf r6 => ?_
    obtain ⟨r7, al7, hh7, hg7⟩ := r6.reover al5
    have hno := hnr _ _ e3
    have hno : fl' = .next := hno
    subst hno
    cases fl with
    | next =>
      have agree : ∀ b ∈ wr2, s6.heap.get? b = s2.heap.get? b := fun b m => (hh7 b m).trans (hh5 b m)
      have gg : s6.gens[g]? = s2.gens[g]? := (hg7 g (by simp)).trans (hg5 g (by simp))
      refine ⟨ys.length - (i + 1), by omega, (hI _ _).mpr ⟨i + 1, wr2, W6, st3, rfl, (hle.trans l3).trans l6, hlt, ?_, al7, ⟨fun y c ey m => ?_, fun b m => ?_⟩, r7, e4⟩⟩
      · obtain ⟨isg, aL, aw, lw, gs, hgs, hc⟩ := G2
        obtain ⟨oo, nm', qn', hoo, rr⟩ := isg
        refine ⟨⟨oo, nm', qn', (agree a aw).trans hoo, rr⟩, aL, aw, lw, gs, gg.trans hgs, ?_⟩
        rcases hc with ⟨q, _⟩ | ⟨e', it', he', hit', ae, ai, hgo⟩
        · cases q
        · refine .inr ⟨e', it', he', hit', ae, ai, fun s'' hs'' => hgo s'' fun b hb o y => hs'' b hb o ?_⟩
          have hbw : b ∈ wr2 := by
            rcases List.mem_cons.mp hb with rfl | hb
            · exact lw
            · rcases List.mem_cons.mp hb with rfl | hb
              · exact he'
              · rw [List.mem_singleton.mp hb]; exact hit'
          exact (agree b hbw).trans y
      · rcases hw2 c m with q | q
        · exact hoff y c ey q
        · exact hr.off (wr := [c]) (fun b hb => by rw [List.mem_singleton.mp hb]; exact q) y c ey (by simp)
      · rcases hw2 b m with q | q
        · exact hn' b q
        · cases r : B.get b with
          | none => rfl
          | some o =>
            by_cases hq : b ∈ wr'
            · rw [hn' b hq] at r; cases r
            · have := hr.keep b o (by simp only [Base.over]; rw [if_neg hq]; exact r)
              rw [q] at this; cases this
    | _ => exact hf.elim
  · subst hlen
    rw [List.drop_length] at hpf
    cases hpf
    exact wpAny_execs_nil (hR W' s2 wr' .next hle trivial (hr.turn hoff hal tt) hn' hfin)

noncomputable def escO : EV → Option (List PV)
  | .v (.str x) => if x.length ≤ 1000 then escP x.cps.toList 0 false else none
  | _ => none
theorem ref_ForG (ok : F.Ok) {T e : Expr} {asg : PV → PM Unit} {body : List Stmt} {np cpos pos : Pos} {pe : PM EV} {pb : PM PF} {k : Nat} (hkf : F.env.kindOf "_iter_escaped_chars" = some .globalImplicit) (he : Ref prog w F k (eval e F.env) (EVR prog w) pe)
    (hT : TRef prog w F T asg) (ho : okAny T) (hb : Ref prog w F k (execs body F.env) (FR prog w) pb) (hnr : NoRet pb) (hfn : ∀ h, Stat prog w h → FnAt h 63 fnIter)
    (hs : ∀ x, foldedSetIterable (.Call (.Name "_iter_escaped_chars" np) [e] [] cpos) F.env x = pure x := by intro _; rfl)
    (hse : starEach [e] F.env = (false, eval e F.env) :: starEach [] F.env := by rfl) :
    Ref prog w F k (exec (.For T (.Call (.Name "_iter_escaped_chars" np) [e] [] cpos) body [] pos) F.env) (FR prog w) (pbind pe fun v => fun st => match escO v with
      | some ys => pFor asg pb ys st
      | none => none) := by
  constructor
  intro A B W st f st' s Q E a S ee h q
  obtain ⟨v, st1, e1, e2⟩ := pbind_some ee
  split at e2
  · rename_i ys hys
    unfold escO at hys
    split at hys
    · rename_i x
      split at hys
      · rename_i hx
        refine wpAny_For (wpAny_Call_NameR (global_val ok S h (x := "_iter_escaped_chars") (v := .ref 63) (by decide) hkf ?_)) hs
        obtain ⟨o, name, qual, doc, pm, an, cdv, ct, hoo, hdt, hcd⟩ := hfn _ (h.stat S)
        obtain ⟨o', hz⟩ := S.fns 63 (by simp [fnAddrs])
        have h0 := h.zk _ _ hz
        rw [hoo] at h0; cases h0
        refine callWith_def hdt ?_ hse
        rw [hse]
        refine spliced_cons (he.run a S e1 h fun W1 vv s1 l1 hv h1 => spliced_nil ⟨h1.zk _ _ (l1.2 _ _ hz), ?_⟩)
        obtain ⟨t, rfl⟩ := V.str_inv (show V prog w W1.Z vv (.str x) from hv)
        have S1 := h1.stat (S.mono l1.2)
        have ho1 := h1.zk _ _ (l1.2 _ _ hz)
        have hcd1 : s1.heap.CodeRec cdv qual := by
          obtain ⟨o2, name2, qual2, doc2, pm2, an2, cdv2, ct2, hoo2, hdt2, hcd2⟩ := hfn _ S1
          rw [ho1] at hoo2; cases hoo2
          rw [hdt] at hdt2
          have : cdv = cdv2 ∧ qual = qual2 := by
            injection hdt2 with hf
            injection hf
            exact ⟨by assumption, by assumption⟩
          rw [this.1, this.2]; exact hcd2
        refine wpAny_call (codeAny_call_generator (fd := fnOf name qual fnIter.1 fnIter.2.1 fnIter.2.2 .none .none doc pm an cdv ct) (body := fnIter.2.1) (by have := a.d; omega) ho1 hdt rfl rfl rfl hcd1 ?_)
        refine wpAny_of_eq (a := [(("addr" : Str), Value.str x t)]) rfl ?_
        refine wpAny_newFunctionEnv (show ∀ y ∈ fnIter.2.2.names, y.2 ≠ .cell by decide) (by intro y hy; rw [List.mem_singleton.mp hy]; rfl) (fun h2 hns2 hsb2 => ?_) rfl
        have hk2 : ∀ b ob, s1.heap.get? b = some ob → h2.get? b = some ob := fun b ob ey => hsb2.extBut b ob (Nat.ne_of_lt (Heap.lt_size ey)) (Heap.get?_push_of_some _ ey)
        have hz2 : h2.objs.size = s1.heap.objs.size + 1 := hsb2.1.trans (Heap.size_push ..)
        refine ⟨S1.nolim.keeps hk2, ?_⟩
        dsimp only
        let s3 : Shared := { s1 with gens := s1.gens.push (.fresh (.func fnIter.2.1 (iterEnv (fnOf name qual fnIter.1 fnIter.2.1 fnIter.2.2 .none .none doc pm an cdv ct) s1.heap.objs.size))), toks := s1.toks + 1 + 1 + 1, heap := h2.push { cls := .type "generator", data := .fields #[.int s1.gens.size 0, .str name (s1.toks + 1), .str qual (s1.toks + 1 + 1)] } }
        have isg : s3.heap.IsGen h2.objs.size s1.gens.size := ⟨_, _, _, Heap.get?_push_size _ rfl, rfl, rfl, rfl⟩
        show wpAny (model prog w) A (pyIter (.ref h2.objs.size)) _ E s3
        refine wpAny_pyIter_gen isg ?_
        have gr : Grows [s1.gens.size] s1 s3 := by
          refine ⟨fun b ob ey => Heap.get?_push_of_some _ (hk2 b ob ey), rfl, rfl, fun i y ey => ?_, fun i y e1 e2 => ?_⟩
          · show (s1.gens.push _)[i]? = some y
            have hi := (Array.getElem?_eq_some_iff.mp ey).1
            rw [Array.getElem?_push_lt hi]; rw [Array.getElem?_eq_getElem hi] at ey; exact ey
          · refine .inr ?_
            have e2 : (s1.gens.push _)[i]? = some y := e2
            have hi := (Array.getElem?_eq_some_iff.mp e2).1
            rw [Array.size_push] at hi
            have : ¬ i < s1.gens.size := fun q => by rw [Array.getElem?_eq_getElem q] at e1; cases e1
            simp; omega
        have hwn : ∀ b ∈ [h2.objs.size, s1.heap.objs.size], s1.heap.get? b = none := fun b hb => by
          rcases List.mem_cons.mp hb with rfl | hb
          · exact none_of_size (by rw [hz2]; exact Nat.le_succ _)
          · rw [List.mem_singleton.mp hb]; exact none_of_size (Nat.le_refl _)
        have hgn : ∀ i ∈ [s1.gens.size], s1.gens[i]? = none := fun i hi => by rw [List.mem_singleton.mp hi]; simp
        have hns3 := hns2.push { cls := .type "generator", data := .fields #[.int s1.gens.size 0, .str name (s1.toks + 1), .str qual (s1.toks + 1 + 1)] }
        have hgs3 : s3.gens[s1.gens.size]? = some (.fresh (.func fnIter.2.1 (iterEnv (fnOf name qual fnIter.1 fnIter.2.1 fnIter.2.2 .none .none doc pm an cdv ct) s1.heap.objs.size))) := by
          show (s1.gens.push _)[s1.gens.size]? = _
          simp
        have al : Alive [h2.objs.size, s1.heap.objs.size] [s1.gens.size] s3 := ⟨fun b hb => by
          rcases List.mem_cons.mp hb with rfl | hb
          · exact ⟨_, Heap.get?_push_size _ rfl⟩
          · rw [List.mem_singleton.mp hb]; obtain ⟨oo, _, _, y, _⟩ := hns3; exact ⟨oo, y⟩, fun i hi => by rw [List.mem_singleton.mp hi]; exact ⟨_, hgs3⟩⟩
        have hr := h1.enter gr hwn hgn al
        refine codeAny_forG (B := B) (wr := [h2.objs.size, s1.heap.objs.size]) (L := s1.heap.objs.size) (x := x) (t := t) (fd := fnOf name qual fnIter.1 fnIter.2.1 fnIter.2.2 .none .none doc pm an cdv ct) (f := f) hT ho hb hnr a rfl rfl rfl hx hys (S.mono l1.2) al ⟨h1.off hwn, h1.fresh_base hwn⟩
          ⟨isg, by rw [hz2]; exact Nat.succ_ne_self _, .head _, .tail _ (.head _), _, hgs3, .inl ⟨rfl, rfl, _, hns3, rfl⟩⟩ hr e2 fun W' s' wr' fl l' hf r' hbn hfin => ?_
        refine q W' fl s' (l1.trans l') hf (r'.leave h.cfix hbn fun i hi => ?_)
        rw [List.mem_singleton.mp hi]
        exact ⟨h1.fresh_gen hgn _ (by simp), hfin⟩
      · cases hys
    · cases hys
  · cases e2
end Mine
end

section
open PySem PySem.W PyProof.Rows PySem.Calls
set_option maxRecDepth 10000
namespace Mine
variable {prog : Program} {w : World} {F : FE} {B : Base} {W : Wd} {st : PS} {s : Shared}

/-- {name: 1 for name in d} -/
noncomputable def onesV (es : List (Str × PV)) : List (Str × PV) := es.map fun p => (p.1, .int 1)
noncomputable def onesL : EV → Option (List (Str × PV))
  | .v (.dct es) => if es.length ≤ 1000 then some (onesV es) else none
  | _ => none
noncomputable def pOnes (p : PM EV) : PM EV := pbind p fun e => fun st => (onesL e).map fun es => (.v (.dct es), st)


theorem stored_ones {FK : Value → Str → Prop} {ks : List Str} (nd : ks.Nodup) {vs : List Value} {kvs : List (Str × Value)} (h : StoredAll FK (fun _ y => ∃ t, y = .int 1 t) vs kvs) :
    vs.length ≤ ks.length → (∀ (j : Nat) (v : Value) (k : Str), vs[j]? = some v → FK v k → ks[j]? = some k) → kvs.map (·.1) = ks.take vs.length ∧ ∀ q ∈ kvs, ∃ t, q.2 = Value.int 1 t := by
  induction h with
  | nil => intro _ _; exact ⟨by simp, fun q hq => nomatch hq⟩
  | @snoc l kvs v k y hs hk hy ih =>
    intro hl hf
    rw [List.length_append, List.length_singleton] at hl
    obtain ⟨i1, i2⟩ := ih (by omega) fun j v' k' e1 e2 => hf j v' k' (by
      rw [List.getElem?_append_left (List.getElem?_eq_some_iff.mp e1).1]; exact e1) e2
    have hk2 := hf l.length v k (by simp) hk
    have htk : ks.take (l.length + 1) = ks.take l.length ++ [k] := by rw [List.take_add_one, hk2]; rfl
    have hnot : k ∉ ks.take l.length := by
      intro m
      have h3 := (List.take_append_drop (l.length + 1) ks)
      rw [htk] at h3
      rw [← h3, List.append_assoc] at nd
      exact (List.nodup_append.mp nd).2.2 k m k (by simp) rfl
    have hany : kvs.any (fun kv => decide (kv.1 = k)) = false := by
      rw [List.any_eq_false]
      intro q hq
      have : q.1 ∈ kvs.map (·.1) := List.mem_map_of_mem hq
      rw [i1] at this
      simp
      intro z
      exact hnot (z ▸ this)
    unfold stored
    rw [hany]
    refine ⟨?_, fun q hq => ?_⟩
    · simp only [Bool.false_eq_true, if_false]
      rw [List.map_append, i1, List.length_append, List.length_singleton, htk]; rfl
    · simp only [Bool.false_eq_true, if_false] at hq
      rcases List.mem_append.mp hq with hq | hq
      · exact i2 q hq
      · rw [List.mem_singleton.mp hq]; exact hy

theorem ref_Ones {k : Nat} {scope : Scope} {iter : Expr} {x : Str} {px pk pv pos : Pos} {c : Nat} {pe : PM EV} (he : Ref prog w F k (eval iter F.env) (EVR prog w) pe)
    (hclos : closureFor scope F.env = pure []) (hcell : ∀ y ∈ scope.names, y.2 ≠ .cell) (hkind : scope.kind = .function)
    (hnames : ∀ y ∈ scope.names, y.2 = .local → scope.names.lookup y.1 = some .local) (hx : scope.names.lookup x = some .local) (hd : (x == ("__debug__" : Str)) = false)
    (hs : ∀ x, foldedSetIterable iter F.env x = pure x := by intro _; rfl) :
    Ref prog w F k (eval (.DictComp (.Name x pk) (.Constant (.int 1) c pv) [⟨.Name x px, iter, [], 0⟩] scope pos) F.env) (EVR prog w) (pOnes pe) := by
  constructor
  intro A B W st b st' s Q E a S ee h q
  obtain ⟨v, st1, e1, e2⟩ := pbind_some ee
  obtain ⟨es', e3, e4⟩ := Option.map_eq_some_iff.mp e2
  cases e4
  refine wpAny_DictComp_free (strKind prog w) (fun _ => true) (fun v k => ∃ t, v = .str k t) (fun _ y => ∃ t, y = .int 1 t) hclos hcell hkind hnames hx (he.run a S e1 h fun W1 vv s1 l1 hv h1 => ?_) hs
  unfold onesL at e3
  split at e3
  · rename_i es
    split at e3
    · rename_i hlen
      cases e3
      obtain ⟨d, kvs, o, rfl, lo, g, hdd, hds⟩ := V.dct_inv (show V prog w W1.Z vv (.dct es) from hv)
      have gd := h1.zk _ _ g
      have hm := hdd _ gd
      obtain ⟨ep, hat⟩ := hm.dictAt
      have hlt := Heap.lt_size gd
      have hl := hds.length
      refine wpAny_pyIter_dict lo hat ?_
      refine ⟨_, [s1.heap.objs.size, d], [s1.heap.objs.size], kvs.length, _, _, rfl, Walks.dictKeys (knd := strKind prog w) a.h s1.heap.objs.size d (Nat.ne_of_lt hlt) kvs ep, by rw [sizeLine_eq]; omega, ⟨⟨_, Heap.get?_push_size _ rfl, rfl, rfl⟩, hat.push _⟩, ?_, ⟨?_, ?_, ?_⟩, ?_⟩
      · intro b hb
        rw [Heap.size_push]
        rcases List.mem_cons.mp hb with rfl | hb
        · exact Nat.lt_succ_self _
        · rw [List.mem_singleton.mp hb]; exact Nat.lt_succ_of_lt hlt
      · intro C i v s₃ m₃ E' _ _ _ _
        exact wpAny_tests_nil ⟨rfl, s₃.heap, s₃.toks, rfl, fun _ _ e => e⟩
      · intro C i v s₃ m₃ E' hP _ hn hm _
        obtain ⟨k', y, _, hk⟩ := hP
        refine wpAny_Name (wpAny_loadName_local hkind (lookup_relabel_local hx) hn hm ⟨⟨k', hk, ?_⟩, s₃.heap, s₃.toks, rfl, fun _ _ e => e⟩) hd
        cases v with
        | str z t => exact ⟨t, by rw [of_decide_eq_true (show decide (z = k') = true from hk)]⟩
        | _ => exact absurd (show false = true from hk) (by decide)
      · intro C i v s₃ m₃ E' _ _ _ _ _
        exact wpAny_Constant_int ⟨⟨_, rfl⟩, s₃.heap, s₃.toks + 1, rfl, fun _ _ e => e⟩
      · intro D h' tk kvs' vs hD hd' hlv hP hst hk
        have hfil : vs.filter (fun _ => true) = vs := by simp
        rw [hfil] at hst
        have nd : (kvs.map (·.1)).Nodup := hat.nodup
        obtain ⟨i1, i2⟩ := stored_ones nd hst (by rw [List.length_map]; omega) fun j v k' e1 e2 => by
          obtain ⟨k2, y, h3, h4⟩ := hP j v e1
          obtain ⟨t, rfl⟩ := e2
          have : k' = k2 := of_decide_eq_true (show decide (k' = k2) = true from h4)
          rw [List.getElem?_map, h3, this]; rfl
        have hk' : ∀ b o, s1.heap.get? b = some o → h'.get? b = some o := fun b o e => hk b o (fun m => by
          rw [List.mem_singleton.mp m] at e
          exact Nat.lt_irrefl _ (Heap.lt_size e)) (Heap.get?_push_of_some _ e)
        have hD1 : s1.heap.get? D = none := by
          cases q : s1.heap.get? D with
          | none => rfl
          | some o => have := Heap.get?_push_of_some { cls := .type "dict_keyiterator", data := .fields #[.ref d, .int 0 0, .int kvs.length 0, .int ep 0] } q; rw [hD] at this; cases this
        have h2 := h1.ext (tk := tk) hk'
        obtain ⟨od, esd, epd, gD, rD⟩ := id hd'
        obtain ⟨h3, l3⟩ := grows_frz h1 h2 hD1 gD
        have hkeys : kvs'.map (·.1) = es.map (·.1) := by
          rw [i1, hlv, ← hds.keys, List.take_of_length_le (by simp)]
        have loD : (D == sysModules) = false := by
          obtain ⟨o, eo⟩ := (h1.stat (S.mono l1.2)).sysm
          cases q : (D == sysModules) with
          | false => rfl
          | true => rw [eq_of_beq q, eo] at hD1; cases hD1
        refine q _ _ _ (l1.trans l3) ?_ h3
        refine V.dct loD (if_pos rfl) (fun h'' g'' => ⟨_, esd, epd, g'', rD⟩) (by rw [hkeys]; simp [onesV]) fun i p p' e1 e2 => ?_
        obtain ⟨t, ht⟩ := i2 p (List.mem_of_getElem? e1)
        unfold onesV at e2
        rw [List.getElem?_map] at e2
        obtain ⟨p0, _, h6⟩ := Option.map_eq_some_iff.mp e2
        rw [ht, ← h6]
        exact V.int _ _
    · cases e3
  · cases e3
end Mine
end

section
open PySem PySem.W PyProof.Rows PySem.Calls
set_option maxRecDepth 10000
namespace Mine
variable {prog : Program} {w : World} {F : FE} {B : Base} {W : Wd} {st : PS} {s : Shared}

theorem gt_mem {i : Nat} {p : Str × Value} (h : gtab[i]? = some p) : p ∈ gtab := List.mem_of_getElem? h
theorem lookup_of {α : Type} : ∀ {cs : List (Str × α)}, (cs.map (·.1)).Nodup → ∀ {n : Str} {c : α}, (n, c) ∈ cs → cs.lookup n = some c
  | (k, v) :: r, nd, n, c, m => by
    have nd : k ∉ r.map (·.1) ∧ (r.map (·.1)).Nodup := List.nodup_cons.mp nd
    rw [List.lookup_cons]
    rcases List.mem_cons.mp m with e | m2
    · cases e; simp
    · have hne : (n == k) = false := by
        rw [beq_eq_false_iff_ne]
        rintro rfl
        exact nd.1 (List.mem_map_of_mem (f := (·.1)) m2)
      rw [hne]
      exact lookup_of nd.2 m2
theorem ok_of {env : Env} {nm : List Str} {pc : List Addr} (kind : env.scope.kind = .function) (glob : env.globals = mainGlobals) (bi : env.builtins = builtinsNs) (nd : nm.Nodup)
    (kinds : ∀ x ∈ nm, env.kindOf x = some .local ∨ (env.kindOf x = some .cell ∧ ∃ c, env.cells.lookup x = some c)) (pw : env.cells.Pairwise fun x y => x.2 ≠ y.2) (dbg : ∀ x ∈ nm, (x == ("__debug__" : Str)) = false) : FE.Ok ⟨env, nm, pc⟩ where
  kind := kind
  glob := glob
  bi := bi
  nd := nd
  kinds := kinds
  apart x y c h h' := name_of_addr pw (mem_of_lookup h) (mem_of_lookup h')
  dbg := dbg
theorem wr_of {x : Str} (h : F.pc = F.env.cells.map (·.2)) : F.Wr x := fun c hc _ => by rw [h]; exact List.mem_map.mpr ⟨_, mem_of_lookup hc, rfl⟩
theorem wr_local {x : Str} (h : F.env.kindOf x = some .local) : F.Wr x := fun c _ h' => by rw [h] at h'; cases h'
theorem FunOk.le {k k' : Nat} {addr : Addr} {f : List PV → Option PV} (h : FunOk prog w k addr f) (hk : k ≤ k') : FunOk prog w k' addr f := ⟨fun a S zk hv hf q => h.run (a.le hk) S zk hv hf q⟩

noncomputable def pForS (pit : PM (List PV)) (asg : PV → PM Unit) (pb : PM PF) : PM PF := pbind pit (pFor asg pb)
noncomputable def pForG (pe : PM EV) (asg : PV → PM Unit) (pb : PM PF) : PM PF := pbind pe fun v => fun st => match escO v with
  | some ys => pFor asg pb ys st
  | none => none

theorem compOkC {scope : Scope} {cl : List (Str × Addr)} {tn cn : List Str} {caps : List Nat} (ok : F.Ok) (kind : scope.kind = .function) (loc : ∀ x ∈ tn, scope.names.lookup x = some .local) (cel : ∀ C, ∀ x ∈ cn, (compEnvC scope cl C F.env).kindOf x = some .cell)
    (clx : ∀ x ∈ cn, ∃ c, cl.lookup x = some c) (hl : caps.length = cn.length) (cap : ∀ p ∈ caps.zip cn, F.nm[p.1]? = some p.2 ∧ F.env.kindOf p.2 = some .cell) (sub : ∀ p ∈ cl, F.env.cells.lookup p.1 = some p.2)
    (clos : closureFor scope F.env = pure cl) (free : ∀ y ∈ scope.names, y.2 ≠ .cell) (names : ∀ y ∈ scope.names, y.2 = .local → scope.names.lookup y.1 = some .local) (nd : (tn ++ cn).Nodup) (dbg : ∀ x ∈ tn ++ cn, (x == ("__debug__" : Str)) = false) :
    CompOk F scope cl (tn ++ cn) tn.length caps where
  ok C := by
    have hsub : ∀ x c, cl.lookup x = some c → F.env.cells.lookup x = some c := fun x c h => sub _ (mem_of_lookup h)
    exact { kind := kind, glob := ok.glob, bi := ok.bi, nd := nd, dbg := dbg, apart := fun x y c h h' => ok.apart x y c (hsub x c h) (hsub y c h'),
            kinds := fun x hx => by
              rcases List.mem_append.mp hx with h | h
              · exact .inl (lookup_relabel_local (loc x h))
              · exact .inr ⟨cel C x h, clx x h⟩ }
  len := by rw [List.length_append, hl]
  loc C i x hi h := by
    rw [List.getElem?_append_left hi] at h
    exact lookup_relabel_local (loc x (List.mem_of_getElem? h))
  cel C i x hi h := by
    rw [List.getElem?_append_right hi] at h
    exact cel C x (List.mem_of_getElem? h)
  cap j i h := by
    have hj : j < cn.length := by rw [← hl]; exact (List.getElem?_eq_some_iff.mp h).1
    obtain ⟨h1, h2⟩ := cap (i, cn[j]) (List.mem_of_getElem? (i := j) (by rw [List.getElem?_zip_eq_some]; exact ⟨h, List.getElem?_eq_getElem hj⟩))
    refine ⟨cn[j], h1, ?_, h2⟩
    rw [List.getElem?_append_right (Nat.le_add_right _ _), Nat.add_sub_cancel_left]
    exact List.getElem?_eq_getElem hj
  sub x c h := sub _ (mem_of_lookup h)
  clos := clos
  free := free
  kind := kind
  names := names

theorem nr_next : NoRet pNext := fun st r e => by cases e; rfl
theorem nr_seq {a b : PM PF} (ha : NoRet a) (hb : NoRet b) : NoRet (pSeq a b) := fun st r e => by
  obtain ⟨f, st1, e1, e2⟩ := pbind_some (r := r) e
  have := ha _ _ e1
  have : f = .next := this
  subst this
  exact hb _ _ e2
theorem nr_if {t : PM Bool} {a b : PM PF} (ha : NoRet a) (hb : NoRet b) : NoRet (pIf t a b) := fun st r e => by
  obtain ⟨f, st1, e1, e2⟩ := pbind_some (r := r) e
  cases f
  · exact hb _ _ e2
  · exact ha _ _ e2
theorem nr_bind {α : Type} {p : PM α} {f : α → PM PF} (h : ∀ a, NoRet (f a)) : NoRet (pbind p f) := fun st r e => by
  obtain ⟨x, st1, e1, e2⟩ := pbind_some (r := r) e
  exact h x _ _ e2
theorem nr_asg (i : Nat) (p : PM EV) : NoRet (pAsg i p) := nr_bind fun _ => nr_bind fun _ => nr_next
theorem nr_expr (p : PM Unit) : NoRet (pExpr p) := nr_bind fun _ => nr_next
theorem nr_pairS (i j : Nat) (p q : PM EV) : NoRet (pPairS i j p q) := nr_bind fun _ => nr_bind fun _ => nr_bind fun _ => nr_bind fun _ => nr_next
theorem nr_while {t : PM Bool} {b : PM PF} (hb : NoRet b) : ∀ n, NoRet (pWhile t b n)
  | 0 => fun st r e => by cases e
  | n + 1 => nr_if (nr_seq hb (nr_while hb n)) nr_next
end Mine
end

section
open PySem PySem.W PyProof.Rows PySem.Calls
set_option maxRecDepth 100000
set_option maxHeartbeats 0
namespace Mine
noncomputable def de (P : Params) (x : String) (t : Tok) (v : Value) : DictEntry := ⟨PyData.keyHash P (Str.ofString x), .str (Str.ofString x) t, v⟩
/-- the things of the static heap that the proof looks at -/
noncomputable def e3a0 (P : Params) : List DictEntry := [de P "__name__" 165 (.str (Str.ofString "law_wf0052_01") 468), de P "__doc__" 166 .none, de P "__package__" 167 .none, de P "__loader__" 168 (.builtin "__main__.__loader__#opaque"), de P "__spec__" 169 .none, de P "__annotations__" 170 (.ref 6)]
noncomputable def e3a1 (P : Params) : List DictEntry := [de P "__builtins__" 171 (.ref 4), de P "__file__" 173 (.str (Str.ofString "/claim/cut.py") 172), de P "__cached__" 174 .none, de P "TupleComp" 230 (.ref 38), de P "add_callers" 241 (.ref 49), de P "count_calls" 250 (.ref 56)]
noncomputable def e3a2 (P : Params) : List DictEntry := [de P "_iter_escaped_chars" 262 (.ref 63), de P "_strip_quoted_realnames" 274 (.ref 70), de P "LPAR" 276 (.int 7 275), de P "RPAR" 278 (.int 8 277), de P "LSQB" 280 (.int 9 279), de P "RSQB" 282 (.int 10 281)]
noncomputable def e3a3 (P : Params) : List DictEntry := [de P "COLON" 284 (.int 11 283), de P "COMMA" 286 (.int 12 285), de P "SEMI" 288 (.int 13 287), de P "PLUS" 290 (.int 14 289), de P "MINUS" 292 (.int 15 291), de P "STAR" 294 (.int 16 293)]
noncomputable def e3a4 (P : Params) : List DictEntry := [de P "SLASH" 296 (.int 17 295), de P "VBAR" 298 (.int 18 297), de P "AMPER" 300 (.int 19 299), de P "LESS" 302 (.int 20 301), de P "GREATER" 304 (.int 21 303), de P "EQUAL" 306 (.int 22 305)]
noncomputable def e3a5 (P : Params) : List DictEntry := [de P "DOT" 308 (.int 23 307), de P "PERCENT" 310 (.int 24 309), de P "LBRACE" 312 (.int 25 311), de P "RBRACE" 314 (.int 26 313), de P "EQEQUAL" 316 (.int 27 315), de P "NOTEQUAL" 318 (.int 28 317)]
noncomputable def e3a6 (P : Params) : List DictEntry := [de P "LESSEQUAL" 320 (.int 29 319), de P "GREATEREQUAL" 322 (.int 30 321), de P "TILDE" 324 (.int 31 323), de P "CIRCUMFLEX" 326 (.int 32 325), de P "LEFTSHIFT" 328 (.int 33 327), de P "RIGHTSHIFT" 330 (.int 34 329)]
noncomputable def e3a7 (P : Params) : List DictEntry := [de P "DOUBLESTAR" 332 (.int 35 331), de P "PLUSEQUAL" 334 (.int 36 333), de P "MINEQUAL" 336 (.int 37 335), de P "STAREQUAL" 338 (.int 38 337), de P "SLASHEQUAL" 340 (.int 39 339), de P "PERCENTEQUAL" 342 (.int 40 341)]
noncomputable def e3a8 (P : Params) : List DictEntry := [de P "AMPEREQUAL" 344 (.int 41 343), de P "VBAREQUAL" 346 (.int 42 345), de P "CIRCUMFLEXEQUAL" 348 (.int 43 347), de P "LEFTSHIFTEQUAL" 350 (.int 44 349), de P "RIGHTSHIFTEQUAL" 352 (.int 45 351), de P "DOUBLESTAREQUAL" 354 (.int 46 353)]
noncomputable def e3a9 (P : Params) : List DictEntry := [de P "DOUBLESLASH" 356 (.int 47 355), de P "DOUBLESLASHEQUAL" 358 (.int 48 357), de P "AT" 360 (.int 49 359), de P "ATEQUAL" 362 (.int 50 361), de P "RARROW" 364 (.int 51 363), de P "ELLIPSIS" 366 (.int 52 365)]
noncomputable def e3a10 (P : Params) : List DictEntry := [de P "COLONEQUAL" 368 (.int 53 367), de P "EXCLAMATION" 370 (.int 54 369), de P "EXACT_TOKEN_TYPES" 467 (.ref 71), de P "_law_drawn" 475 (.ref 78), de P "_law_orders" 481 (.ref 83), de P "_law_swept" 487 (.ref 88)]
noncomputable def e3a11 (P : Params) : List DictEntry := [de P "_law_told" 493 (.ref 93), de P "law" 499 (.ref 98)]
noncomputable def k3 (P : Params) : Obj := ⟨(.type "dict"), none, .dict ⟨e3a0 P ++ (e3a1 P ++ (e3a2 P ++ (e3a3 P ++ (e3a4 P ++ (e3a5 P ++ (e3a6 P ++ (e3a7 P ++ (e3a8 P ++ (e3a9 P ++ (e3a10 P ++ (e3a11 P)))))))))))⟩ 68, #[]⟩
noncomputable def k27 (_ : Params) : Obj := ⟨(.type "code"), none, .fields #[(.str (Str.ofString "__init__") 201), (.str (Str.ofString "TupleComp.__init__") 202), (.str (Str.ofString "/claim/cut.py") 203), (.int 4 0), (.int 2 0), (.int 0 0), (.int 0 0), (.int 3 0), (.ref 22), (.bool true), (.int 181 0), (.ref 23), .none, (.ref 24), (.ref 25), (.ref 26), (.int 206 0), (.int 4 0), (.str (Str.ofString "/claim/cut.py") 207)], #[]⟩
noncomputable def k28 (_ : Params) : Obj := ⟨(.type "function"), none, .func (fnOf (Str.ofString "__init__") (Str.ofString "TupleComp.__init__") (methNo 0).1 (methNo 0).2.1 (methNo 0).2.2 .none .none .none (.str (Str.ofString "cpy313.pstats") 187) none (.ref 27) .none), #[]⟩
noncomputable def k34 (_ : Params) : Obj := ⟨(.type "code"), none, .fields #[(.str (Str.ofString "compare") 209), (.str (Str.ofString "TupleComp.compare") 210), (.str (Str.ofString "/claim/cut.py") 211), (.int 7 0), (.int 3 0), (.int 0 0), (.int 0 0), (.int 3 0), (.ref 29), (.bool true), (.int 181 0), (.ref 30), .none, (.ref 31), (.ref 32), (.ref 33), (.int 219 0), (.int 7 0), (.str (Str.ofString "/claim/cut.py") 220)], #[]⟩
noncomputable def k35 (_ : Params) : Obj := ⟨(.type "function"), none, .func (fnOf (Str.ofString "compare") (Str.ofString "TupleComp.compare") (methNo 1).1 (methNo 1).2.1 (methNo 1).2.2 .none .none .none (.str (Str.ofString "cpy313.pstats") 187) none (.ref 34) .none), #[]⟩
noncomputable def k36 (_ : Params) : Obj := ⟨(.type "tuple"), none, .seq #[(.str (Str.ofString "comp_select_list") 222)] 0, #[]⟩
noncomputable def k37 (P : Params) : Obj := ⟨(.type "dict"), none, .dict #[de P "__module__" 196 (.str (Str.ofString "cpy313.pstats") 187), de P "__firstlineno__" 200 (.int 2 199), de P "__init__" 208 (.ref 28), de P "compare" 221 (.ref 35), de P "__static_attributes__" 223 (.ref 36), de P "__dict__" 225 (.ref 39), de P "__weakref__" 227 (.ref 40), de P "__doc__" 228 .none] 4, #[]⟩
noncomputable def k38 (_ : Params) : Obj := ⟨(.type "type"), none, .cls { name := (Str.ofString "TupleComp"), bases := [(.type "object")], mro := [(.ref 38), (.type "object")], ns := 37, qualname := (Str.ofString "TupleComp"), hasDict := true }, #[none, none, some (.str (Str.ofString "TupleComp") 189), some (.str (Str.ofString "TupleComp") 197), some (.builtin "object.__new__"), some (.bool true)]⟩
noncomputable def k39 (_ : Params) : Obj := ⟨(.type "getset_descriptor"), none, .fields #[(.str (Str.ofString "__dict__") 224), (.ref 38), (.builtin "function.__dict__"), (.builtin "function.__dict__#set")], #[]⟩
noncomputable def k40 (_ : Params) : Obj := ⟨(.type "getset_descriptor"), none, .fields #[(.str (Str.ofString "__weakref__") 226), (.ref 38), (.builtin "ExceptionGroup.__weakref__"), .none], #[]⟩
noncomputable def k48 (_ : Params) : Obj := ⟨(.type "code"), none, .fields #[(.str (Str.ofString "add_callers") 231), (.str (Str.ofString "add_callers") 232), (.str (Str.ofString "/claim/cut.py") 233), (.int 16 0), (.int 2 0), (.int 0 0), (.int 0 0), (.int 3 0), (.ref 43), (.bool true), (.int 181 0), (.ref 44), .none, (.ref 45), (.ref 46), (.ref 47), (.int 239 0), (.int 16 0), (.str (Str.ofString "/claim/cut.py") 240)], #[]⟩
noncomputable def k49 (_ : Params) : Obj := ⟨(.type "function"), none, .func (fnOf (Str.ofString "add_callers") (Str.ofString "add_callers") (fnNo 2).1 (fnNo 2).2.1 (fnNo 2).2.2 .none .none .none (.str (Str.ofString "cpy313.pstats") 187) none (.ref 48) .none), #[]⟩
noncomputable def k55 (_ : Params) : Obj := ⟨(.type "code"), none, .fields #[(.str (Str.ofString "count_calls") 242), (.str (Str.ofString "count_calls") 243), (.str (Str.ofString "/claim/cut.py") 244), (.int 29 0), (.int 1 0), (.int 0 0), (.int 0 0), (.int 3 0), (.ref 50), (.bool true), (.int 181 0), (.ref 51), .none, (.ref 52), (.ref 53), (.ref 54), (.int 248 0), (.int 29 0), (.str (Str.ofString "/claim/cut.py") 249)], #[]⟩
noncomputable def k56 (_ : Params) : Obj := ⟨(.type "function"), none, .func (fnOf (Str.ofString "count_calls") (Str.ofString "count_calls") (fnNo 3).1 (fnNo 3).2.1 (fnNo 3).2.2 .none .none .none (.str (Str.ofString "cpy313.pstats") 187) none (.ref 55) .none), #[]⟩
noncomputable def k62 (_ : Params) : Obj := ⟨(.type "code"), none, .fields #[(.str (Str.ofString "_iter_escaped_chars") 253), (.str (Str.ofString "_iter_escaped_chars") 254), (.str (Str.ofString "/claim/cut.py") 255), (.int 35 0), (.int 1 0), (.int 0 0), (.int 0 0), (.int 35 0), (.ref 57), (.bool true), (.int 181 0), (.ref 58), .none, (.ref 59), (.ref 60), (.ref 61), (.int 260 0), (.int 35 0), (.str (Str.ofString "/claim/cut.py") 261)], #[]⟩
noncomputable def k63 (_ : Params) : Obj := ⟨(.type "function"), none, .func (fnOf (Str.ofString "_iter_escaped_chars") (Str.ofString "_iter_escaped_chars") (fnNo 5).1 (fnNo 5).2.1 (fnNo 5).2.2 .none .none .none (.str (Str.ofString "cpy313.email.utils") 251) none (.ref 62) .none), #[]⟩
noncomputable def k69 (_ : Params) : Obj := ⟨(.type "code"), none, .fields #[(.str (Str.ofString "_strip_quoted_realnames") 263), (.str (Str.ofString "_strip_quoted_realnames") 264), (.str (Str.ofString "/claim/cut.py") 265), (.int 48 0), (.int 1 0), (.int 0 0), (.int 0 0), (.int 3 0), (.ref 64), (.bool true), (.int 181 0), (.ref 65), .none, (.ref 66), (.ref 67), (.ref 68), (.int 272 0), (.int 48 0), (.str (Str.ofString "/claim/cut.py") 273)], #[]⟩
noncomputable def k70 (_ : Params) : Obj := ⟨(.type "function"), none, .func (fnOf (Str.ofString "_strip_quoted_realnames") (Str.ofString "_strip_quoted_realnames") (fnNo 6).1 (fnNo 6).2.1 (fnNo 6).2.2 .none .none .none (.str (Str.ofString "cpy313.email.utils") 251) none (.ref 69) .none), #[]⟩
noncomputable def e71a0 (P : Params) : List DictEntry := [de P "!" 371 (.int 54 369), de P "!=" 373 (.int 28 317), de P "%" 375 (.int 24 309), de P "%=" 377 (.int 40 341), de P "&" 379 (.int 19 299), de P "&=" 381 (.int 41 343)]
noncomputable def e71a1 (P : Params) : List DictEntry := [de P "(" 383 (.int 7 275), de P ")" 385 (.int 8 277), de P "*" 387 (.int 16 293), de P "**" 389 (.int 35 331), de P "**=" 391 (.int 46 353), de P "*=" 393 (.int 38 337)]
noncomputable def e71a2 (P : Params) : List DictEntry := [de P "+" 395 (.int 14 289), de P "+=" 397 (.int 36 333), de P "," 399 (.int 12 285), de P "-" 401 (.int 15 291), de P "-=" 403 (.int 37 335), de P "->" 405 (.int 51 363)]
noncomputable def e71a3 (P : Params) : List DictEntry := [de P "." 407 (.int 23 307), de P "..." 409 (.int 52 365), de P "/" 411 (.int 17 295), de P "//" 413 (.int 47 355), de P "//=" 415 (.int 48 357), de P "/=" 417 (.int 39 339)]
noncomputable def e71a4 (P : Params) : List DictEntry := [de P ":" 419 (.int 11 283), de P ":=" 421 (.int 53 367), de P ";" 423 (.int 13 287), de P "<" 425 (.int 20 301), de P "<<" 427 (.int 33 327), de P "<<=" 429 (.int 44 349)]
noncomputable def e71a5 (P : Params) : List DictEntry := [de P "<=" 431 (.int 29 319), de P "=" 433 (.int 22 305), de P "==" 435 (.int 27 315), de P ">" 437 (.int 21 303), de P ">=" 439 (.int 30 321), de P ">>" 440 (.int 34 329)]
noncomputable def e71a6 (P : Params) : List DictEntry := [de P ">>=" 441 (.int 45 351), de P "@" 442 (.int 49 359), de P "@=" 443 (.int 50 361), de P "[" 444 (.int 9 279), de P "]" 445 (.int 10 281), de P "^" 446 (.int 32 325)]
noncomputable def e71a7 (P : Params) : List DictEntry := [de P "^=" 447 (.int 43 347), de P "{" 448 (.int 25 311), de P "|" 449 (.int 18 297), de P "|=" 450 (.int 42 345), de P "}" 451 (.int 26 313), de P "~" 452 (.int 31 323)]
noncomputable def k71 (P : Params) : Obj := ⟨(.type "dict"), none, .dict ⟨e71a0 P ++ (e71a1 P ++ (e71a2 P ++ (e71a3 P ++ (e71a4 P ++ (e71a5 P ++ (e71a6 P ++ (e71a7 P)))))))⟩ 48, #[]⟩
noncomputable def k77 (_ : Params) : Obj := ⟨(.type "code"), none, .fields #[(.str (Str.ofString "_law_drawn") 470), (.str (Str.ofString "_law_drawn") 471), (.str (Str.ofString "/claim/cut.py") 472), (.int 116 0), (.int 1 0), (.int 0 0), (.int 0 0), (.int 3 0), (.ref 74), (.bool true), (.int 181 0), (.ref 75), .none, .none, .none, (.ref 76), (.int 473 0), (.int 116 0), (.str (Str.ofString "/claim/cut.py") 474)], #[]⟩
noncomputable def k78 (_ : Params) : Obj := ⟨(.type "function"), none, .func (fnOf (Str.ofString "_law_drawn") (Str.ofString "_law_drawn") (fnNo 57).1 (fnNo 57).2.1 (fnNo 57).2.2 .none .none .none (.str (Str.ofString "law_wf0052_01") 468) none (.ref 77) .none), #[]⟩
noncomputable def k82 (_ : Params) : Obj := ⟨(.type "code"), none, .fields #[(.str (Str.ofString "_law_orders") 476), (.str (Str.ofString "_law_orders") 477), (.str (Str.ofString "/claim/cut.py") 478), (.int 128 0), (.int 1 0), (.int 0 0), (.int 0 0), (.int 3 0), (.ref 79), (.bool true), (.int 181 0), (.ref 80), .none, .none, .none, (.ref 81), (.int 479 0), (.int 128 0), (.str (Str.ofString "/claim/cut.py") 480)], #[]⟩
noncomputable def k83 (_ : Params) : Obj := ⟨(.type "function"), none, .func (fnOf (Str.ofString "_law_orders") (Str.ofString "_law_orders") (fnNo 58).1 (fnNo 58).2.1 (fnNo 58).2.2 .none .none .none (.str (Str.ofString "law_wf0052_01") 468) none (.ref 82) .none), #[]⟩
noncomputable def k87 (_ : Params) : Obj := ⟨(.type "code"), none, .fields #[(.str (Str.ofString "_law_swept") 482), (.str (Str.ofString "_law_swept") 483), (.str (Str.ofString "/claim/cut.py") 484), (.int 138 0), (.int 2 0), (.int 0 0), (.int 0 0), (.int 3 0), (.ref 84), (.bool true), (.int 181 0), (.ref 85), .none, .none, .none, (.ref 86), (.int 485 0), (.int 138 0), (.str (Str.ofString "/claim/cut.py") 486)], #[]⟩
noncomputable def k88 (_ : Params) : Obj := ⟨(.type "function"), none, .func (fnOf (Str.ofString "_law_swept") (Str.ofString "_law_swept") (fnNo 59).1 (fnNo 59).2.1 (fnNo 59).2.2 .none .none .none (.str (Str.ofString "law_wf0052_01") 468) none (.ref 87) .none), #[]⟩
noncomputable def k92 (_ : Params) : Obj := ⟨(.type "code"), none, .fields #[(.str (Str.ofString "_law_told") 488), (.str (Str.ofString "_law_told") 489), (.str (Str.ofString "/claim/cut.py") 490), (.int 149 0), (.int 2 0), (.int 0 0), (.int 0 0), (.int 3 0), (.ref 89), (.bool true), (.int 181 0), (.ref 90), .none, .none, .none, (.ref 91), (.int 491 0), (.int 149 0), (.str (Str.ofString "/claim/cut.py") 492)], #[]⟩
noncomputable def k93 (_ : Params) : Obj := ⟨(.type "function"), none, .func (fnOf (Str.ofString "_law_told") (Str.ofString "_law_told") (fnNo 60).1 (fnNo 60).2.1 (fnNo 60).2.2 .none .none .none (.str (Str.ofString "law_wf0052_01") 468) none (.ref 92) .none), #[]⟩
noncomputable def myK (P : Params) : Frag := [(3, k3 P), (27, k27 P), (28, k28 P), (34, k34 P), (35, k35 P), (36, k36 P), (37, k37 P), (38, k38 P), (39, k39 P), (40, k40 P), (48, k48 P), (49, k49 P), (55, k55 P), (56, k56 P), (62, k62 P), (63, k63 P), (69, k69 P), (70, k70 P), (71, k71 P), (77, k77 P), (78, k78 P), (82, k82 P), (83, k83 P), (87, k87 P), (88, k88 P), (92, k92 P), (93, k93 P)]
noncomputable def myAs : List Addr := [3, 27, 28, 34, 35, 36, 37, 38, 39, 40, 48, 49, 55, 56, 62, 63, 69, 70, 71, 77, 78, 82, 83, 87, 88, 92, 93]
end Mine
end

section
open PySem PySem.W PyProof.Rows
set_option maxRecDepth 100000
namespace Mine
def stmtNo (i : Nat) : Stmt := (PySem.Challenge.pw_wf0052_01.main.body[i]?).getD (.Pass default)
def pst0 : Stmt := stmtNo 0
def pst1 : Stmt := stmtNo 1
def pst2 : Stmt := stmtNo 2
def pst3 : Stmt := stmtNo 3
def pst4 : Stmt := stmtNo 4
def pst5 : Stmt := stmtNo 5
def pst6 : Stmt := stmtNo 6
def pst7 : Stmt := stmtNo 7
def pst8 : Stmt := stmtNo 8
def pst9 : Stmt := stmtNo 9
def pst10 : Stmt := stmtNo 10
def pst11 : Stmt := stmtNo 11
def pst12 : Stmt := stmtNo 12
def pst13 : Stmt := stmtNo 13
def pst14 : Stmt := stmtNo 14
def pst15 : Stmt := stmtNo 15
def pst16 : Stmt := stmtNo 16
def pst17 : Stmt := stmtNo 17
def pst18 : Stmt := stmtNo 18
def pst19 : Stmt := stmtNo 19
def pst20 : Stmt := stmtNo 20
def pst21 : Stmt := stmtNo 21
def pst22 : Stmt := stmtNo 22
def pst23 : Stmt := stmtNo 23
def pst24 : Stmt := stmtNo 24
def pst25 : Stmt := stmtNo 25
def pst26 : Stmt := stmtNo 26
def pst27 : Stmt := stmtNo 27
def pst28 : Stmt := stmtNo 28
def pst29 : Stmt := stmtNo 29
def pst30 : Stmt := stmtNo 30
def pst31 : Stmt := stmtNo 31
def pst32 : Stmt := stmtNo 32
def pst33 : Stmt := stmtNo 33
def pst34 : Stmt := stmtNo 34
def pst35 : Stmt := stmtNo 35
def pst36 : Stmt := stmtNo 36
def pst37 : Stmt := stmtNo 37
def pst38 : Stmt := stmtNo 38
def pst39 : Stmt := stmtNo 39
def pst40 : Stmt := stmtNo 40
def pst41 : Stmt := stmtNo 41
def pst42 : Stmt := stmtNo 42
def pst43 : Stmt := stmtNo 43
def pst44 : Stmt := stmtNo 44
def pst45 : Stmt := stmtNo 45
def pst46 : Stmt := stmtNo 46
def pst47 : Stmt := stmtNo 47
def pst48 : Stmt := stmtNo 48
def pst49 : Stmt := stmtNo 49
def pst50 : Stmt := stmtNo 50
def pst51 : Stmt := stmtNo 51
def pst52 : Stmt := stmtNo 52
def pst53 : Stmt := stmtNo 53
def pst54 : Stmt := stmtNo 54
def pst55 : Stmt := stmtNo 55
def pst56 : Stmt := stmtNo 56
def pst57 : Stmt := stmtNo 57
def pst58 : Stmt := stmtNo 58
def pst59 : Stmt := stmtNo 59
def pst60 : Stmt := stmtNo 60
def pst61 : Stmt := stmtNo 61
def myPw : Program := { main := { body := [pst0, pst1, pst2, pst3, pst4, pst5, pst6, pst7, pst8, pst9, pst10, pst11, pst12, pst13, pst14, pst15, pst16, pst17, pst18, pst19, pst20, pst21, pst22, pst23, pst24, pst25, pst26, pst27, pst28, pst29, pst30, pst31, pst32, pst33, pst34, pst35, pst36, pst37, pst38, pst39, pst40, pst41, pst42, pst43, pst44, pst45, pst46, pst47, pst48, pst49, pst50, pst51, pst52, pst53, pst54, pst55, pst56, pst57, pst58, pst59, pst60, pst61], scope := PySem.Challenge.pw_wf0052_01.main.scope, futureAnnotations := false, file := "/claim/cut.py", more := [] }, modules := [], parses := [], absent := [], harvested := [], given := PySem.Challenge.pw_wf0052_01.given }
abbrev myRw : OpenLaw := { prog := myPw, name := "law", about := ["TupleComp", "compare"], foot := 5, most := some 63, bound := none, writes := false }
theorem rw_eq (h : myRw.Holds) : PySem.Challenge.rw_wf0052_01.Holds := h
end Mine
end

section
open PySem PySem.W PyProof.Rows PySem.Calls
set_option maxRecDepth 100000
namespace Mine
noncomputable def compare_blk1 : PM PF := (pSeq (pReturn (pUn negP (pLoad 4))) pNext)
noncomputable def compare_blk2 : PM PF := (pSeq (pReturn (pLoad 4)) pNext)
noncomputable def compare_blk3 : PM PF := (pSeq (pAsg 5 (pBin subP (pLoad 1) (pLoad 3))) (pSeq (pAsg 6 (pBin subP (pLoad 2) (pLoad 3))) (pSeq (pIf (pCmp ltP (pLoad 5) (pLoad 6)) compare_blk1 pNext) (pSeq (pIf (pCmp gtP (pLoad 5) (pLoad 6)) compare_blk2 pNext) pNext))))
noncomputable def compare_body : PM PF := (pSeq (pForS (pIter (pUn attrP (pLoad 0))) (pT2 (fun v => pStore 3 (.v v)) (fun v => pStore 4 (.v v))) compare_blk3) (pSeq (pReturn (pRet (.v (.int 0)))) pNext))
noncomputable def compare_nm : List Str := ["self", "left", "right", "index", "direction", "l", "r"]
noncomputable def compareF (xs : List PV) : Option PV := if xs.length = 3 then runBody 7 compare_body xs else none
theorem compare_ok (fd : FuncData) (L : Addr) (h1 : fd.scope = (methNo 1).2.2) (h2 : fd.globals = mainGlobals) (h3 : fd.builtins = builtinsNs) : FE.Ok (⟨callEnvC fd L 35, compare_nm, (callEnvC fd L 35).cells.map (·.2)⟩ : FE) := by
  obtain ⟨a1, a2, a3, a4, a5, a6, a7, a8, a9, a10, a11, a12⟩ := fd
  subst h1 h2 h3
  refine ok_of rfl rfl rfl (by decide +kernel) ?_ ?_ (by decide +kernel)
  ·
    intro x hx
    rcases List.mem_cons.mp hx with rfl | hx
    · first | exact .inl rfl | exact .inr ⟨rfl, _, rfl⟩
    rcases List.mem_cons.mp hx with rfl | hx
    · first | exact .inl rfl | exact .inr ⟨rfl, _, rfl⟩
    rcases List.mem_cons.mp hx with rfl | hx
    · first | exact .inl rfl | exact .inr ⟨rfl, _, rfl⟩
    rcases List.mem_cons.mp hx with rfl | hx
    · first | exact .inl rfl | exact .inr ⟨rfl, _, rfl⟩
    rcases List.mem_cons.mp hx with rfl | hx
    · first | exact .inl rfl | exact .inr ⟨rfl, _, rfl⟩
    rcases List.mem_cons.mp hx with rfl | hx
    · first | exact .inl rfl | exact .inr ⟨rfl, _, rfl⟩
    rcases List.mem_cons.mp hx with rfl | hx
    · first | exact .inl rfl | exact .inr ⟨rfl, _, rfl⟩
    exact absurd hx List.not_mem_nil
  · exact List.Pairwise.nil

theorem ok_compare {prog : Program} {w : World} : FunOk prog w 2 35 compareF := by
  refine FunOk.ofBody (k := 1) (d := methNo 1) (nm := compare_nm) (params := ["self", "left", "right"]) (pb := compare_body) (fun h S => S.fCmp) ?_ compare_ok ?_ ⟨_, rfl⟩ ?_ ?_ rfl rfl rfl
  · intro name qual doc pm an cdv ct vs hl
    rcases vs with _ | ⟨v0, _ | ⟨v1, _ | ⟨v2, _ | ⟨v3, vs⟩⟩⟩⟩ <;> first | rfl | (simp at hl)
  · intro fd L h1 n c hm
    exact lookup_of (by
      obtain ⟨a1, a2, a3, a4, a5, a6, a7, a8, a9, a10, a11, a12⟩ := fd
      subst h1
      exact List.nodup_nil) hm
  ·
    intro x hx
    rcases List.mem_cons.mp hx with rfl | hx
    · rfl
    rcases List.mem_cons.mp hx with rfl | hx
    · rfl
    rcases List.mem_cons.mp hx with rfl | hx
    · rfl
    exact absurd hx List.not_mem_nil
  · intro fd L h1 h2 h3
    have ok := compare_ok fd L h1 h2 h3
    obtain ⟨a1, a2, a3, a4, a5, a6, a7, a8, a9, a10, a11, a12⟩ := fd
    subst h1 h2 h3
    exact (ref_cons (ref_For (ret := True) (iref_list (ref_Attr ok (i := 0) rfl)) (tref_Tuple2 (tref_Name ok (i := 3) rfl (wr_of rfl)) (tref_Name ok (i := 4) rfl (wr_of rfl))) (.inr ⟨_, _, _, rfl⟩) (ref_cons (ref_Assign ok (i := 5) rfl (wr_of rfl) (ref_Sub (ref_Name ok (i := 1) rfl) (ref_Name ok (i := 3) rfl))) (ref_cons (ref_Assign ok (i := 6) rfl (wr_of rfl) (ref_Sub (ref_Name ok (i := 2) rfl) (ref_Name ok (i := 3) rfl))) (ref_cons (ref_If (tst_Compare (ref_Name ok (i := 5) rfl) (ref_Name ok (i := 6) rfl) cmp_lt) (ref_cons (ref_Return (ref_Neg (ref_Name ok (i := 4) rfl))) ref_nil) ref_nil) (ref_cons (ref_If (tst_Compare (ref_Name ok (i := 5) rfl) (ref_Name ok (i := 6) rfl) cmp_gt) (ref_cons (ref_Return (ref_Name ok (i := 4) rfl)) ref_nil) ref_nil) ref_nil)))) (by decide) (.inl trivial)) (ref_cons (ref_Return ref_int) ref_nil))

end Mine
end

section
open PySem PySem.W PyProof.Rows PySem.Calls
set_option maxRecDepth 100000
namespace Mine
noncomputable def addc_blk1 : PM PF := (pSeq (pSetItem (pLoad 4) (pLoad 2) (pLoad 3)) pNext)
noncomputable def addc_blk2 : PM PF := (pSeq (pSetItem (pLoad 4) (pLoad 2) (pLoad 3)) pNext)
noncomputable def addc_blk3 : PM PF := (pSeq (pIf (pCmp inP (pLoad 3) (pLoad 2)) pDead addc_blk2) pNext)
noncomputable def addc_body : PM PF := (pSeq (pAsg 2 (pNewM (.dict []))) (pSeq (pForS (pItems (pLoad 0)) (pT2 (fun v => pStore 3 (.v v)) (fun v => pStore 4 (.v v))) addc_blk1) (pSeq (pForS (pItems (pLoad 1)) (pT2 (fun v => pStore 3 (.v v)) (fun v => pStore 4 (.v v))) addc_blk3) (pbind (pFrz 2) fun _ => (pSeq (pReturn (pLoad 2)) pNext)))))
noncomputable def addc_nm : List Str := ["target", "source", "new_callers", "func", "caller"]
noncomputable def addcF (xs : List PV) : Option PV := if xs.length = 2 then runBody 5 addc_body xs else none
theorem addc_ok (fd : FuncData) (L : Addr) (h1 : fd.scope = (fnNo 2).2.2) (h2 : fd.globals = mainGlobals) (h3 : fd.builtins = builtinsNs) : FE.Ok (⟨callEnvC fd L 49, addc_nm, (callEnvC fd L 49).cells.map (·.2)⟩ : FE) := by
  obtain ⟨a1, a2, a3, a4, a5, a6, a7, a8, a9, a10, a11, a12⟩ := fd
  subst h1 h2 h3
  refine ok_of rfl rfl rfl (by decide +kernel) ?_ ?_ (by decide +kernel)
  ·
    intro x hx
    rcases List.mem_cons.mp hx with rfl | hx
    · first | exact .inl rfl | exact .inr ⟨rfl, _, rfl⟩
    rcases List.mem_cons.mp hx with rfl | hx
    · first | exact .inl rfl | exact .inr ⟨rfl, _, rfl⟩
    rcases List.mem_cons.mp hx with rfl | hx
    · first | exact .inl rfl | exact .inr ⟨rfl, _, rfl⟩
    rcases List.mem_cons.mp hx with rfl | hx
    · first | exact .inl rfl | exact .inr ⟨rfl, _, rfl⟩
    rcases List.mem_cons.mp hx with rfl | hx
    · first | exact .inl rfl | exact .inr ⟨rfl, _, rfl⟩
    exact absurd hx List.not_mem_nil
  · exact List.Pairwise.nil

theorem ok_addc {prog : Program} {w : World} : FunOk prog w 2 49 addcF := by
  refine FunOk.ofBody (k := 1) (d := fnNo 2) (nm := addc_nm) (params := ["target", "source"]) (pb := addc_body) (fun h S => S.fAdd) ?_ addc_ok ?_ ⟨_, rfl⟩ ?_ ?_ rfl rfl rfl
  · intro name qual doc pm an cdv ct vs hl
    rcases vs with _ | ⟨v0, _ | ⟨v1, _ | ⟨v2, vs⟩⟩⟩ <;> first | rfl | (simp at hl)
  · intro fd L h1 n c hm
    exact lookup_of (by
      obtain ⟨a1, a2, a3, a4, a5, a6, a7, a8, a9, a10, a11, a12⟩ := fd
      subst h1
      exact List.nodup_nil) hm
  ·
    intro x hx
    rcases List.mem_cons.mp hx with rfl | hx
    · rfl
    rcases List.mem_cons.mp hx with rfl | hx
    · rfl
    exact absurd hx List.not_mem_nil
  · intro fd L h1 h2 h3
    have ok := addc_ok fd L h1 h2 h3
    obtain ⟨a1, a2, a3, a4, a5, a6, a7, a8, a9, a10, a11, a12⟩ := fd
    subst h1 h2 h3
    exact (ref_cons (ref_Assign ok (i := 2) rfl (wr_of rfl) ref_DictM) (ref_cons (ref_For (ret := True) (iref_items (ref_Name ok (i := 0) rfl)) (tref_Tuple2 (tref_Name ok (i := 3) rfl (wr_of rfl)) (tref_Name ok (i := 4) rfl (wr_of rfl))) ⟨_, _, _, rfl⟩ (ref_cons (ref_SetItem (ref_Name ok (i := 4) rfl) (ref_Name ok (i := 2) rfl) (ref_Name ok (i := 3) rfl)) ref_nil) (by decide) (.inl trivial)) (ref_cons (ref_For (ret := True) (iref_items (ref_Name ok (i := 1) rfl)) (tref_Tuple2 (tref_Name ok (i := 3) rfl (wr_of rfl)) (tref_Name ok (i := 4) rfl (wr_of rfl))) ⟨_, _, _, rfl⟩ (ref_cons (ref_If (tst_Compare (ref_Name ok (i := 3) rfl) (ref_Name ok (i := 2) rfl) cmp_in) ref_dead (ref_cons (ref_SetItem (ref_Name ok (i := 4) rfl) (ref_Name ok (i := 2) rfl) (ref_Name ok (i := 3) rfl)) ref_nil)) ref_nil) (by decide) (.inl trivial)) (ref_frz (i := 2) (ref_cons (ref_Return (ref_Name ok (i := 2) rfl)) ref_nil)))))

end Mine
end

section
open PySem PySem.W PyProof.Rows PySem.Calls
set_option maxRecDepth 100000
namespace Mine
noncomputable def cnt_blk1 : PM PF := (pSeq (pAug 1 (pLoad 2)) pNext)
noncomputable def cnt_body : PM PF := (pSeq (pAsg 1 (pRet (.v (.int 0)))) (pSeq (pForS (pVals (pLoad 0)) (fun v => pStore 2 (.v v)) cnt_blk1) (pSeq (pReturn (pLoad 1)) pNext)))
noncomputable def cnt_nm : List Str := ["callers", "nc", "calls"]
noncomputable def cntF (xs : List PV) : Option PV := if xs.length = 1 then runBody 3 cnt_body xs else none
theorem cnt_ok (fd : FuncData) (L : Addr) (h1 : fd.scope = (fnNo 3).2.2) (h2 : fd.globals = mainGlobals) (h3 : fd.builtins = builtinsNs) : FE.Ok (⟨callEnvC fd L 56, cnt_nm, (callEnvC fd L 56).cells.map (·.2)⟩ : FE) := by
  obtain ⟨a1, a2, a3, a4, a5, a6, a7, a8, a9, a10, a11, a12⟩ := fd
  subst h1 h2 h3
  refine ok_of rfl rfl rfl (by decide +kernel) ?_ ?_ (by decide +kernel)
  ·
    intro x hx
    rcases List.mem_cons.mp hx with rfl | hx
    · first | exact .inl rfl | exact .inr ⟨rfl, _, rfl⟩
    rcases List.mem_cons.mp hx with rfl | hx
    · first | exact .inl rfl | exact .inr ⟨rfl, _, rfl⟩
    rcases List.mem_cons.mp hx with rfl | hx
    · first | exact .inl rfl | exact .inr ⟨rfl, _, rfl⟩
    exact absurd hx List.not_mem_nil
  · exact List.Pairwise.nil

theorem ok_cnt {prog : Program} {w : World} : FunOk prog w 2 56 cntF := by
  refine FunOk.ofBody (k := 1) (d := fnNo 3) (nm := cnt_nm) (params := ["callers"]) (pb := cnt_body) (fun h S => S.fCount) ?_ cnt_ok ?_ ⟨_, rfl⟩ ?_ ?_ rfl rfl rfl
  · intro name qual doc pm an cdv ct vs hl
    rcases vs with _ | ⟨v0, _ | ⟨v1, vs⟩⟩ <;> first | rfl | (simp at hl)
  · intro fd L h1 n c hm
    exact lookup_of (by
      obtain ⟨a1, a2, a3, a4, a5, a6, a7, a8, a9, a10, a11, a12⟩ := fd
      subst h1
      exact List.nodup_nil) hm
  ·
    intro x hx
    rcases List.mem_cons.mp hx with rfl | hx
    · rfl
    exact absurd hx List.not_mem_nil
  · intro fd L h1 h2 h3
    have ok := cnt_ok fd L h1 h2 h3
    obtain ⟨a1, a2, a3, a4, a5, a6, a7, a8, a9, a10, a11, a12⟩ := fd
    subst h1 h2 h3
    exact (ref_cons (ref_Assign ok (i := 1) rfl (wr_of rfl) ref_int) (ref_cons (ref_For (ret := True) (iref_values (ref_Name ok (i := 0) rfl)) (tref_Name ok (i := 2) rfl (wr_of rfl)) ⟨_, _, rfl⟩ (ref_cons (ref_AugAdd ok (i := 1) rfl (wr_of rfl) (ref_Name ok (i := 2) rfl)) ref_nil) (by decide) (.inl trivial)) (ref_cons (ref_Return (ref_Name ok (i := 1) rfl)) ref_nil)))

end Mine
end

section
open PySem PySem.W PyProof.Rows PySem.Calls
set_option maxRecDepth 100000
namespace Mine
noncomputable def strip_blk1 : PM PF := (pSeq (pReturn (pLoad 0)) pNext)
noncomputable def strip_blk2 : PM PF := (pSeq (pAsg 2 (pLoad 4)) pNext)
noncomputable def strip_blk3 : PM PF := (pSeq (pExpr (pAppend (pLoad 3) (pSlice (pLoad 0) (some (pLoad 1)) (some (pLoad 2))))) pNext)
noncomputable def strip_blk4 : PM PF := (pSeq (pIf (pCmp neP (pLoad 1) (pLoad 2)) strip_blk3 pNext) (pSeq (pAsg 1 (pBin addP (pLoad 4) (pRet (.v (.int 1))))) (pSeq (pAsg 2 (pRet (.v .none))) pNext)))
noncomputable def strip_blk5 : PM PF := (pSeq (pIf (pCmp isP (pLoad 2) (pRet (.v .none))) strip_blk2 strip_blk4) pNext)
noncomputable def strip_blk6 : PM PF := (pSeq (pIf (pCmp eqP (pLoad 5) (pRet (.v (.str "\"")))) strip_blk5 pNext) pNext)
noncomputable def strip_blk7 : PM PF := (pSeq (pExpr (pAppend (pLoad 3) (pSlice (pLoad 0) (some (pLoad 1)) none))) pNext)
theorem strip_blk6_nr : NoRet strip_blk6 := by
  repeat (first | exact nr_next | exact nr_asg _ _ | exact nr_expr _ | exact nr_pairS _ _ _ _ | apply nr_while | apply nr_seq | apply nr_if)
noncomputable def strip_body : PM PF := (pSeq (pIf (pCmp notInP (pRet (.v (.str "\""))) (pLoad 0)) strip_blk1 pNext) (pSeq (pAsg 1 (pRet (.v (.int 0)))) (pSeq (pAsg 2 (pRet (.v .none))) (pSeq (pAsg 3 (pNewM (.list []))) (pSeq (pForG (pLoad 0) (pT2 (fun v => pStore 4 (.v v)) (fun v => pStore 5 (.v v))) strip_blk6) (pSeq (pIf (pCmp ltP (pLoad 1) (pLen (pLoad 0))) strip_blk7 pNext) (pSeq (pReturn (pJoin "" (pLoad 3))) pNext)))))))
noncomputable def strip_nm : List Str := ["addr", "start", "open_pos", "result", "pos", "ch"]
noncomputable def stripF (xs : List PV) : Option PV := if xs.length = 1 then runBody 6 strip_body xs else none
theorem strip_ok (fd : FuncData) (L : Addr) (h1 : fd.scope = (fnNo 6).2.2) (h2 : fd.globals = mainGlobals) (h3 : fd.builtins = builtinsNs) : FE.Ok (⟨callEnvC fd L 70, strip_nm, (callEnvC fd L 70).cells.map (·.2)⟩ : FE) := by
  obtain ⟨a1, a2, a3, a4, a5, a6, a7, a8, a9, a10, a11, a12⟩ := fd
  subst h1 h2 h3
  refine ok_of rfl rfl rfl (by decide +kernel) ?_ ?_ (by decide +kernel)
  ·
    intro x hx
    rcases List.mem_cons.mp hx with rfl | hx
    · first | exact .inl rfl | exact .inr ⟨rfl, _, rfl⟩
    rcases List.mem_cons.mp hx with rfl | hx
    · first | exact .inl rfl | exact .inr ⟨rfl, _, rfl⟩
    rcases List.mem_cons.mp hx with rfl | hx
    · first | exact .inl rfl | exact .inr ⟨rfl, _, rfl⟩
    rcases List.mem_cons.mp hx with rfl | hx
    · first | exact .inl rfl | exact .inr ⟨rfl, _, rfl⟩
    rcases List.mem_cons.mp hx with rfl | hx
    · first | exact .inl rfl | exact .inr ⟨rfl, _, rfl⟩
    rcases List.mem_cons.mp hx with rfl | hx
    · first | exact .inl rfl | exact .inr ⟨rfl, _, rfl⟩
    exact absurd hx List.not_mem_nil
  · exact List.Pairwise.nil

theorem ok_strip {prog : Program} {w : World} : FunOk prog w 2 70 stripF := by
  refine FunOk.ofBody (k := 1) (d := fnNo 6) (nm := strip_nm) (params := ["addr"]) (pb := strip_body) (fun h S => S.fStrip) ?_ strip_ok ?_ ⟨_, rfl⟩ ?_ ?_ rfl rfl rfl
  · intro name qual doc pm an cdv ct vs hl
    rcases vs with _ | ⟨v0, _ | ⟨v1, vs⟩⟩ <;> first | rfl | (simp at hl)
  · intro fd L h1 n c hm
    exact lookup_of (by
      obtain ⟨a1, a2, a3, a4, a5, a6, a7, a8, a9, a10, a11, a12⟩ := fd
      subst h1
      exact List.nodup_nil) hm
  ·
    intro x hx
    rcases List.mem_cons.mp hx with rfl | hx
    · rfl
    exact absurd hx List.not_mem_nil
  · intro fd L h1 h2 h3
    have ok := strip_ok fd L h1 h2 h3
    obtain ⟨a1, a2, a3, a4, a5, a6, a7, a8, a9, a10, a11, a12⟩ := fd
    subst h1 h2 h3
    exact (ref_cons (ref_If (tst_Compare ref_str (ref_Name ok (i := 0) rfl) cmp_notIn) (ref_cons (ref_Return (ref_Name ok (i := 0) rfl)) ref_nil) ref_nil) (ref_cons (ref_Assign ok (i := 1) rfl (wr_of rfl) ref_int) (ref_cons (ref_Assign ok (i := 2) rfl (wr_of rfl) ref_none) (ref_cons (ref_Assign ok (i := 3) rfl (wr_of rfl) ref_ListM) (ref_cons (ref_ForG ok rfl (ref_Name ok (i := 0) rfl) (tref_Tuple2 (tref_Name ok (i := 4) rfl (wr_of rfl)) (tref_Name ok (i := 5) rfl (wr_of rfl))) (.inr ⟨_, _, _, rfl⟩) (ref_cons (ref_If (tst_Compare (ref_Name ok (i := 5) rfl) ref_str cmp_eq) (ref_cons (ref_If (tst_Compare (ref_Name ok (i := 2) rfl) ref_none cmp_is) (ref_cons (ref_Assign ok (i := 2) rfl (wr_of rfl) (ref_Name ok (i := 4) rfl)) ref_nil) (ref_cons (ref_If (tst_Compare (ref_Name ok (i := 1) rfl) (ref_Name ok (i := 2) rfl) cmp_ne) (ref_cons (ref_Expr (ref_append (ref_Name ok (i := 3) rfl) (ref_Slice (ref_Name ok (i := 0) rfl) (ref_Name ok (i := 1) rfl) (ref_Name ok (i := 2) rfl)))) ref_nil) ref_nil) (ref_cons (ref_Assign ok (i := 1) rfl (wr_of rfl) (ref_BinOp (ref_Name ok (i := 4) rfl) ref_int op_add)) (ref_cons (ref_Assign ok (i := 2) rfl (wr_of rfl) ref_none) ref_nil)))) ref_nil) ref_nil) ref_nil) strip_blk6_nr (fun _ S => S.fIter)) (ref_cons (ref_If (tst_Compare (ref_Name ok (i := 1) rfl) (ref_len ok rfl (ref_Name ok (i := 0) rfl)) cmp_lt) (ref_cons (ref_Expr (ref_append (ref_Name ok (i := 3) rfl) (ref_Slice (ref_Name ok (i := 0) rfl) (ref_Name ok (i := 1) rfl) trivial))) ref_nil) ref_nil) (ref_cons (ref_Return (ref_join (ref_Name ok (i := 3) rfl))) ref_nil)))))))

end Mine
end

section
open PySem PySem.W PyProof.Rows PySem.Calls
set_option maxRecDepth 100000
namespace Mine
noncomputable def drawn_comp1 : PM EV := pComp 1 [] (pIter (pSlice (pLoad 0) none (some (pRet (.v (.int 4)))))) (fun v => pStore 0 (.v v)) (pRet true) (pBin (intP modI) (pInt (pLoad 0)) (pBin (intP powI) (pRet (.v (.int 10))) (pRet (.v (.int 6)))))
noncomputable def drawn_blk2 : PM PF := (pSeq (pAsg 6 (pBin (intP modI) (pBin addP (pBin addP (pBin (intP divI) (pLoad 5) (pRet (.v (.int 3)))) (pRet (.v (.int 8)))) (pLoad 4)) (pRet (.v (.int 24))))) (pSeq (pAsg 7 (pBin (intP modI) (pBin (intP divI) (pLoad 5) (pRet (.v (.int 72)))) (pRet (.v (.int 2))))) (pSeq (pExpr (pAppend (pLoad 3) (pTup [(pBin addP (pBin mulP (pRet (.v (.str "\\"))) (pLoad 7)) (pBin subP (pRet (.v (.str "()[]:,;+-*/|&<>=.%{}~^@!"))) (pLoad 6))), (pBin mulP (pBin subP (pLoad 2) (pLoad 6)) (pBin (intP subI) (pRet (.v (.int 1))) (pBin mulP (pRet (.v (.int 2))) (pLoad 7))))]))) pNext)))
noncomputable def drawn_comp3 : PM EV := pComp 1 [] (pIter (pLoad 1)) (fun v => pStore 0 (.v v)) (pRet true) (pBin (intP divI) (pLoad 0) (pRet (.v (.int 144))))
noncomputable def drawn_comp4 : PM EV := pComp 1 [3] (pIter (pLoad 1)) (fun v => pStore 0 (.v v)) (pRet true) (pBin subP (pLoad 1) (pBin (intP modI) (pLoad 0) (pRet (.v (.int 3)))))
noncomputable def drawn_body : PM PF := (pSeq (pAsg 1 drawn_comp1) (pSeq (pAsg 1 (pBin addP (pLoad 1) (pSlice (pLst [(pRet (.v (.int 3))), (pRet (.v (.int 73))), (pRet (.v (.int 5))), (pRet (.v (.int 0)))]) (some (pLen (pLoad 1))) none))) (pSeq (pAsg 2 (pBin addP (pListRange 7 27) (pLst [(pRet (.v (.int 31))), (pRet (.v (.int 32))), (pRet (.v (.int 49))), (pRet (.v (.int 54)))]))) (pSeq (pAsg 3 (pNewM (.list []))) (pSeq (pForS (pEnum (pSlice (pLoad 1) none (some (pRet (.v (.int 3)))))) (pT2 (fun v => pStore 4 (.v v)) (fun v => pStore 5 (.v v))) drawn_blk2) (pSeq (pAsg 8 (pSum drawn_comp3)) (pSeq (pAsg 9 (pBin subP (pLst [(pRet (.v (.str "\"+\""))), (pRet (.v (.str ""))), (pRet (.v (.str "\"\\\"(\"")))]) (pBin (intP modI) (pBin (intP divI) (pLoad 8) (pRet (.v (.int 60)))) (pRet (.v (.int 3)))))) (pbind (pFrz 3) fun _ => (pSeq (pReturn (pTup [drawn_comp4, (pBin addP (pRet (.v (.int 2))) (pBin (intP modI) (pBin addP (pLoad 8) (pRet (.v (.int 5)))) (pRet (.v (.int 60))))), (pLoad 9)])) pNext)))))))))
noncomputable def drawn_nm : List Str := ["script", "numbers", "loads", "kinds", "turn", "number", "spot", "down", "whole", "rider"]
noncomputable def drawnF (xs : List PV) : Option PV := if xs.length = 1 then runBody 10 drawn_body xs else none
theorem drawn_ok (fd : FuncData) (L : Addr) (h1 : fd.scope = (fnNo 57).2.2) (h2 : fd.globals = mainGlobals) (h3 : fd.builtins = builtinsNs) : FE.Ok (⟨callEnvC fd L 78, drawn_nm, (callEnvC fd L 78).cells.map (·.2)⟩ : FE) := by
  obtain ⟨a1, a2, a3, a4, a5, a6, a7, a8, a9, a10, a11, a12⟩ := fd
  subst h1 h2 h3
  refine ok_of rfl rfl rfl (by decide +kernel) ?_ ?_ (by decide +kernel)
  ·
    intro x hx
    rcases List.mem_cons.mp hx with rfl | hx
    · first | exact .inl rfl | exact .inr ⟨rfl, _, rfl⟩
    rcases List.mem_cons.mp hx with rfl | hx
    · first | exact .inl rfl | exact .inr ⟨rfl, _, rfl⟩
    rcases List.mem_cons.mp hx with rfl | hx
    · first | exact .inl rfl | exact .inr ⟨rfl, _, rfl⟩
    rcases List.mem_cons.mp hx with rfl | hx
    · first | exact .inl rfl | exact .inr ⟨rfl, _, rfl⟩
    rcases List.mem_cons.mp hx with rfl | hx
    · first | exact .inl rfl | exact .inr ⟨rfl, _, rfl⟩
    rcases List.mem_cons.mp hx with rfl | hx
    · first | exact .inl rfl | exact .inr ⟨rfl, _, rfl⟩
    rcases List.mem_cons.mp hx with rfl | hx
    · first | exact .inl rfl | exact .inr ⟨rfl, _, rfl⟩
    rcases List.mem_cons.mp hx with rfl | hx
    · first | exact .inl rfl | exact .inr ⟨rfl, _, rfl⟩
    rcases List.mem_cons.mp hx with rfl | hx
    · first | exact .inl rfl | exact .inr ⟨rfl, _, rfl⟩
    rcases List.mem_cons.mp hx with rfl | hx
    · first | exact .inl rfl | exact .inr ⟨rfl, _, rfl⟩
    exact absurd hx List.not_mem_nil
  · show List.Pairwise _ ([("kinds", L + 1)] : List (Str × Addr))
    simp

theorem ok_drawn {prog : Program} {w : World} : FunOk prog w 2 78 drawnF := by
  refine FunOk.ofBody (k := 1) (d := fnNo 57) (nm := drawn_nm) (params := ["script"]) (pb := drawn_body) (fun h S => S.fDrawn) ?_ drawn_ok ?_ ⟨_, rfl⟩ ?_ ?_ rfl rfl rfl
  · intro name qual doc pm an cdv ct vs hl
    rcases vs with _ | ⟨v0, _ | ⟨v1, vs⟩⟩ <;> first | rfl | (simp at hl)
  · intro fd L h1 n c hm
    exact lookup_of (by
      obtain ⟨a1, a2, a3, a4, a5, a6, a7, a8, a9, a10, a11, a12⟩ := fd
      subst h1
      show (([("kinds", L + 1)] : List (Str × Addr)).map (·.1)).Nodup
      first | (simp; done) | (simp; decide)) hm
  ·
    intro x hx
    rcases List.mem_cons.mp hx with rfl | hx
    · rfl
    exact absurd hx List.not_mem_nil
  · intro fd L h1 h2 h3
    have ok := drawn_ok fd L h1 h2 h3
    obtain ⟨a1, a2, a3, a4, a5, a6, a7, a8, a9, a10, a11, a12⟩ := fd
    subst h1 h2 h3
    exact (ref_cons (ref_AssignComp ok (i := 1) rfl (wr_of rfl) (compOkC (F := _) (cl := []) (tn := ["cell"]) (cn := []) (caps := []) ok rfl (by decide) (fun C => (fun _ h => nomatch h)) (fun _ h => nomatch h) rfl (fun _ h => nomatch h) (fun _ h => nomatch h) rfl (by decide) (by decide) (by decide +kernel) (by decide +kernel)) (iref_list (ref_Slice (ref_Name ok (i := 0) rfl) trivial ref_int)) (fun C => (tref_Name ((compOkC (F := _) (cl := []) (tn := ["cell"]) (cn := []) (caps := []) ok rfl (by decide) (fun C => (fun _ h => nomatch h)) (fun _ h => nomatch h) rfl (fun _ h => nomatch h) (fun _ h => nomatch h) rfl (by decide) (by decide) (by decide +kernel) (by decide +kernel)).ok _) (i := 0) rfl (wr_local rfl))) (.inl ⟨_, _, rfl⟩) (fun C => rfl) (fun C => (ref_BinOp (ref_intc ((compOkC (F := _) (cl := []) (tn := ["cell"]) (cn := []) (caps := []) ok rfl (by decide) (fun C => (fun _ h => nomatch h)) (fun _ h => nomatch h) rfl (fun _ h => nomatch h) (fun _ h => nomatch h) rfl (by decide) (by decide) (by decide +kernel) (by decide +kernel)).ok _) rfl (ref_Name ((compOkC (F := _) (cl := []) (tn := ["cell"]) (cn := []) (caps := []) ok rfl (by decide) (fun C => (fun _ h => nomatch h)) (fun _ h => nomatch h) rfl (fun _ h => nomatch h) (fun _ h => nomatch h) rfl (by decide) (by decide) (by decide +kernel) (by decide +kernel)).ok _) (i := 0) rfl)) (ref_BinOp ref_int ref_int op_pow) op_mod)) (by decide) rfl) (ref_cons (ref_Assign ok (i := 1) rfl (wr_of rfl) (ref_BinOp (ref_Name ok (i := 1) rfl) (ref_Slice (ref_List ⟨rfl, ref_int, ⟨rfl, ref_int, ⟨rfl, ref_int, ⟨rfl, ref_int, trivial⟩⟩⟩⟩) (ref_len ok rfl (ref_Name ok (i := 1) rfl)) trivial) op_add)) (ref_cons (ref_Assign ok (i := 2) rfl (wr_of rfl) (ref_BinOp (ref_ListRange ok rfl rfl) (ref_List ⟨rfl, ref_int, ⟨rfl, ref_int, ⟨rfl, ref_int, ⟨rfl, ref_int, trivial⟩⟩⟩⟩) op_add)) (ref_cons (ref_Assign ok (i := 3) rfl (wr_of rfl) ref_ListM) (ref_cons (ref_For (ret := True) (iref_enum ok rfl (ref_Slice (ref_Name ok (i := 1) rfl) trivial ref_int)) (tref_Tuple2 (tref_Name ok (i := 4) rfl (wr_of rfl)) (tref_Name ok (i := 5) rfl (wr_of rfl))) ⟨_, _, _, rfl⟩ (ref_cons (ref_Assign ok (i := 6) rfl (wr_of rfl) (ref_BinOp (ref_BinOp (ref_BinOp (ref_BinOp (ref_Name ok (i := 5) rfl) ref_int op_div) ref_int op_add) (ref_Name ok (i := 4) rfl) op_add) ref_int op_mod)) (ref_cons (ref_Assign ok (i := 7) rfl (wr_of rfl) (ref_BinOp (ref_BinOp (ref_Name ok (i := 5) rfl) ref_int op_div) ref_int op_mod)) (ref_cons (ref_Expr (ref_append (ref_Name ok (i := 3) rfl) (ref_Tuple ⟨rfl, (ref_BinOp (ref_BinOp ref_str (ref_Name ok (i := 7) rfl) op_mul) (ref_Sub ref_str (ref_Name ok (i := 6) rfl)) op_add), ⟨rfl, (ref_BinOp (ref_Sub (ref_Name ok (i := 2) rfl) (ref_Name ok (i := 6) rfl)) (ref_BinOp ref_int (ref_BinOp ref_int (ref_Name ok (i := 7) rfl) op_mul) op_sub) op_mul), trivial⟩⟩))) ref_nil))) (by decide) (.inl trivial)) (ref_cons (ref_Assign ok (i := 8) rfl (wr_of rfl) (ref_sum ok rfl (ref_ListComp (compOkC (F := _) (cl := []) (tn := ["number"]) (cn := []) (caps := []) ok rfl (by decide) (fun C => (fun _ h => nomatch h)) (fun _ h => nomatch h) rfl (fun _ h => nomatch h) (fun _ h => nomatch h) rfl (by decide) (by decide) (by decide +kernel) (by decide +kernel)) (iref_list (ref_Name ok (i := 1) rfl)) (fun C => (tref_Name ((compOkC (F := _) (cl := []) (tn := ["number"]) (cn := []) (caps := []) ok rfl (by decide) (fun C => (fun _ h => nomatch h)) (fun _ h => nomatch h) rfl (fun _ h => nomatch h) (fun _ h => nomatch h) rfl (by decide) (by decide) (by decide +kernel) (by decide +kernel)).ok _) (i := 0) rfl (wr_local rfl))) (.inl ⟨_, _, rfl⟩) (fun C => rfl) (fun C => (ref_BinOp (ref_Name ((compOkC (F := _) (cl := []) (tn := ["number"]) (cn := []) (caps := []) ok rfl (by decide) (fun C => (fun _ h => nomatch h)) (fun _ h => nomatch h) rfl (fun _ h => nomatch h) (fun _ h => nomatch h) rfl (by decide) (by decide) (by decide +kernel) (by decide +kernel)).ok _) (i := 0) rfl) ref_int op_div)) (by decide)))) (ref_cons (ref_Assign ok (i := 9) rfl (wr_of rfl) (ref_Sub (ref_List ⟨rfl, ref_str, ⟨rfl, ref_str, ⟨rfl, ref_str, trivial⟩⟩⟩) (ref_BinOp (ref_BinOp (ref_Name ok (i := 8) rfl) ref_int op_div) ref_int op_mod))) (ref_frz (i := 3) (ref_cons (ref_Return (ref_Tuple ⟨rfl, (ref_ListComp (compOkC (F := _) (cl := [("kinds", L + 1)]) (tn := ["number"]) (cn := ["kinds"]) (caps := [3]) ok rfl (by decide) (fun C => (by intro x hx; rcases List.mem_cons.mp hx with rfl | hx; (· rfl); exact absurd hx List.not_mem_nil)) (by intro x hx; rcases List.mem_cons.mp hx with rfl | hx; (· exact ⟨_, rfl⟩); exact absurd hx List.not_mem_nil) rfl (by intro x hx; rcases List.mem_cons.mp hx with rfl | hx; (· exact ⟨rfl, rfl⟩); exact absurd hx List.not_mem_nil) (by intro x hx; rcases List.mem_cons.mp hx with rfl | hx; (· rfl); exact absurd hx List.not_mem_nil) rfl (by decide) (by decide) (by decide +kernel) (by decide +kernel)) (iref_list (ref_Name ok (i := 1) rfl)) (fun C => (tref_Name ((compOkC (F := _) (cl := [("kinds", L + 1)]) (tn := ["number"]) (cn := ["kinds"]) (caps := [3]) ok rfl (by decide) (fun C => (by intro x hx; rcases List.mem_cons.mp hx with rfl | hx; (· rfl); exact absurd hx List.not_mem_nil)) (by intro x hx; rcases List.mem_cons.mp hx with rfl | hx; (· exact ⟨_, rfl⟩); exact absurd hx List.not_mem_nil) rfl (by intro x hx; rcases List.mem_cons.mp hx with rfl | hx; (· exact ⟨rfl, rfl⟩); exact absurd hx List.not_mem_nil) (by intro x hx; rcases List.mem_cons.mp hx with rfl | hx; (· rfl); exact absurd hx List.not_mem_nil) rfl (by decide) (by decide) (by decide +kernel) (by decide +kernel)).ok _) (i := 0) rfl (wr_local rfl))) (.inl ⟨_, _, rfl⟩) (fun C => rfl) (fun C => (ref_Sub (ref_Name ((compOkC (F := _) (cl := [("kinds", L + 1)]) (tn := ["number"]) (cn := ["kinds"]) (caps := [3]) ok rfl (by decide) (fun C => (by intro x hx; rcases List.mem_cons.mp hx with rfl | hx; (· rfl); exact absurd hx List.not_mem_nil)) (by intro x hx; rcases List.mem_cons.mp hx with rfl | hx; (· exact ⟨_, rfl⟩); exact absurd hx List.not_mem_nil) rfl (by intro x hx; rcases List.mem_cons.mp hx with rfl | hx; (· exact ⟨rfl, rfl⟩); exact absurd hx List.not_mem_nil) (by intro x hx; rcases List.mem_cons.mp hx with rfl | hx; (· rfl); exact absurd hx List.not_mem_nil) rfl (by decide) (by decide) (by decide +kernel) (by decide +kernel)).ok _) (i := 1) rfl) (ref_BinOp (ref_Name ((compOkC (F := _) (cl := [("kinds", L + 1)]) (tn := ["number"]) (cn := ["kinds"]) (caps := [3]) ok rfl (by decide) (fun C => (by intro x hx; rcases List.mem_cons.mp hx with rfl | hx; (· rfl); exact absurd hx List.not_mem_nil)) (by intro x hx; rcases List.mem_cons.mp hx with rfl | hx; (· exact ⟨_, rfl⟩); exact absurd hx List.not_mem_nil) rfl (by intro x hx; rcases List.mem_cons.mp hx with rfl | hx; (· exact ⟨rfl, rfl⟩); exact absurd hx List.not_mem_nil) (by intro x hx; rcases List.mem_cons.mp hx with rfl | hx; (· rfl); exact absurd hx List.not_mem_nil) rfl (by decide) (by decide) (by decide +kernel) (by decide +kernel)).ok _) (i := 0) rfl) ref_int op_mod))) (by decide)), ⟨rfl, (ref_BinOp ref_int (ref_BinOp (ref_BinOp (ref_Name ok (i := 8) rfl) ref_int op_add) ref_int op_mod) op_add), ⟨rfl, (ref_Name ok (i := 9) rfl), trivial⟩⟩⟩)) ref_nil)))))))))

end Mine
end

section
open PySem PySem.W PyProof.Rows PySem.Calls
set_option maxRecDepth 100000
namespace Mine
noncomputable def orders_comp1 : PM EV := pComp 2 [] (pIter (pLoad 6)) (pT2 (fun v => pStore 0 (.v v)) (fun v => pStore 1 (.v v))) (pRet true) (pLoad 0)
noncomputable def orders_blk2 : PM PF := (pSeq (pAsg 6 (pBin addP (pBin addP (pSlice (pLoad 4) none (some (pLoad 5))) (pLst [(pLoad 2)])) (pSlice (pLoad 4) (some (pLoad 5)) none))) (pSeq (pSetItem (pLoad 6) (pLoad 3) (pJoin "" orders_comp1)) pNext))
noncomputable def orders_blk3 : PM PF := (pSeq (pForS (pRange (pBin addP (pLen (pLoad 4)) (pRet (.v (.int 1))))) (fun v => pStore 5 (.v v)) orders_blk2) pNext)
noncomputable def orders_blk4 : PM PF := (pSeq (pAsg 3 (pNewM (.dict []))) (pSeq (pForS (pVals (pLoad 1)) (fun v => pStore 4 (.v v)) orders_blk3) (pbind (pFrz 3) fun _ => (pSeq (pAsg 1 (pLoad 3)) pNext))))
noncomputable def orders_body : PM PF := (pSeq (pAsg 1 (pDict1 (pRet (.v (.str ""))) (pLst []))) (pSeq (pForS (pIter (pLoad 0)) (fun v => pStore 2 (.v v)) orders_blk4) (pSeq (pReturn (pLoad 1)) pNext)))
noncomputable def orders_nm : List Str := ["pieces", "orders", "piece", "longer", "order", "spot", "row"]
noncomputable def ordersF (xs : List PV) : Option PV := if xs.length = 1 then runBody 7 orders_body xs else none
theorem orders_ok (fd : FuncData) (L : Addr) (h1 : fd.scope = (fnNo 58).2.2) (h2 : fd.globals = mainGlobals) (h3 : fd.builtins = builtinsNs) : FE.Ok (⟨callEnvC fd L 83, orders_nm, (callEnvC fd L 83).cells.map (·.2)⟩ : FE) := by
  obtain ⟨a1, a2, a3, a4, a5, a6, a7, a8, a9, a10, a11, a12⟩ := fd
  subst h1 h2 h3
  refine ok_of rfl rfl rfl (by decide +kernel) ?_ ?_ (by decide +kernel)
  ·
    intro x hx
    rcases List.mem_cons.mp hx with rfl | hx
    · first | exact .inl rfl | exact .inr ⟨rfl, _, rfl⟩
    rcases List.mem_cons.mp hx with rfl | hx
    · first | exact .inl rfl | exact .inr ⟨rfl, _, rfl⟩
    rcases List.mem_cons.mp hx with rfl | hx
    · first | exact .inl rfl | exact .inr ⟨rfl, _, rfl⟩
    rcases List.mem_cons.mp hx with rfl | hx
    · first | exact .inl rfl | exact .inr ⟨rfl, _, rfl⟩
    rcases List.mem_cons.mp hx with rfl | hx
    · first | exact .inl rfl | exact .inr ⟨rfl, _, rfl⟩
    rcases List.mem_cons.mp hx with rfl | hx
    · first | exact .inl rfl | exact .inr ⟨rfl, _, rfl⟩
    rcases List.mem_cons.mp hx with rfl | hx
    · first | exact .inl rfl | exact .inr ⟨rfl, _, rfl⟩
    exact absurd hx List.not_mem_nil
  · exact List.Pairwise.nil

theorem ok_orders {prog : Program} {w : World} : FunOk prog w 2 83 ordersF := by
  refine FunOk.ofBody (k := 1) (d := fnNo 58) (nm := orders_nm) (params := ["pieces"]) (pb := orders_body) (fun h S => S.fOrders) ?_ orders_ok ?_ ⟨_, rfl⟩ ?_ ?_ rfl rfl rfl
  · intro name qual doc pm an cdv ct vs hl
    rcases vs with _ | ⟨v0, _ | ⟨v1, vs⟩⟩ <;> first | rfl | (simp at hl)
  · intro fd L h1 n c hm
    exact lookup_of (by
      obtain ⟨a1, a2, a3, a4, a5, a6, a7, a8, a9, a10, a11, a12⟩ := fd
      subst h1
      exact List.nodup_nil) hm
  ·
    intro x hx
    rcases List.mem_cons.mp hx with rfl | hx
    · rfl
    exact absurd hx List.not_mem_nil
  · intro fd L h1 h2 h3
    have ok := orders_ok fd L h1 h2 h3
    obtain ⟨a1, a2, a3, a4, a5, a6, a7, a8, a9, a10, a11, a12⟩ := fd
    subst h1 h2 h3
    exact (ref_cons (ref_Assign ok (i := 1) rfl (wr_of rfl) (ref_Dict1 ref_str (ref_List trivial))) (ref_cons (ref_For (ret := True) (iref_list (ref_Name ok (i := 0) rfl)) (tref_Name ok (i := 2) rfl (wr_of rfl)) (.inl ⟨_, _, rfl⟩) (ref_cons (ref_Assign ok (i := 3) rfl (wr_of rfl) ref_DictM) (ref_cons (ref_For (ret := True) (iref_values (ref_Name ok (i := 1) rfl)) (tref_Name ok (i := 4) rfl (wr_of rfl)) ⟨_, _, rfl⟩ (ref_cons (ref_For (ret := True) (iref_range ok rfl (ref_BinOp (ref_len ok rfl (ref_Name ok (i := 4) rfl)) ref_int op_add)) (tref_Name ok (i := 5) rfl (wr_of rfl)) ⟨_, _, rfl⟩ (ref_cons (ref_Assign ok (i := 6) rfl (wr_of rfl) (ref_BinOp (ref_BinOp (ref_Slice (ref_Name ok (i := 4) rfl) trivial (ref_Name ok (i := 5) rfl)) (ref_List ⟨rfl, (ref_Name ok (i := 2) rfl), trivial⟩) op_add) (ref_Slice (ref_Name ok (i := 4) rfl) (ref_Name ok (i := 5) rfl) trivial) op_add)) (ref_cons (ref_SetItem (ref_Name ok (i := 6) rfl) (ref_Name ok (i := 3) rfl) (ref_join (ref_ListComp (compOkC (F := _) (cl := []) (tn := ["unit", "load"]) (cn := []) (caps := []) ok rfl (by decide) (fun C => (fun _ h => nomatch h)) (fun _ h => nomatch h) rfl (fun _ h => nomatch h) (fun _ h => nomatch h) rfl (by decide) (by decide) (by decide +kernel) (by decide +kernel)) (iref_list (ref_Name ok (i := 6) rfl)) (fun C => (tref_Tuple2 (tref_Name ((compOkC (F := _) (cl := []) (tn := ["unit", "load"]) (cn := []) (caps := []) ok rfl (by decide) (fun C => (fun _ h => nomatch h)) (fun _ h => nomatch h) rfl (fun _ h => nomatch h) (fun _ h => nomatch h) rfl (by decide) (by decide) (by decide +kernel) (by decide +kernel)).ok _) (i := 0) rfl (wr_local rfl)) (tref_Name ((compOkC (F := _) (cl := []) (tn := ["unit", "load"]) (cn := []) (caps := []) ok rfl (by decide) (fun C => (fun _ h => nomatch h)) (fun _ h => nomatch h) rfl (fun _ h => nomatch h) (fun _ h => nomatch h) rfl (by decide) (by decide) (by decide +kernel) (by decide +kernel)).ok _) (i := 1) rfl (wr_local rfl)))) (.inr ⟨_, _, _, rfl⟩) (fun C => rfl) (fun C => (ref_Name ((compOkC (F := _) (cl := []) (tn := ["unit", "load"]) (cn := []) (caps := []) ok rfl (by decide) (fun C => (fun _ h => nomatch h)) (fun _ h => nomatch h) rfl (fun _ h => nomatch h) (fun _ h => nomatch h) rfl (by decide) (by decide) (by decide +kernel) (by decide +kernel)).ok _) (i := 0) rfl)) (by decide)))) ref_nil)) (by decide) (.inl trivial)) ref_nil) (by decide) (.inl trivial)) (ref_frz (i := 3) (ref_cons (ref_Assign ok (i := 1) rfl (wr_of rfl) (ref_Name ok (i := 3) rfl)) ref_nil)))) (by decide) (.inl trivial)) (ref_cons (ref_Return (ref_Name ok (i := 1) rfl)) ref_nil)))

end Mine
end

section
open PySem PySem.W PyProof.Rows PySem.Calls
set_option maxRecDepth 100000
namespace Mine
noncomputable def told_blk1 : PM PF := (pSeq (pAsg 3 (pBin (intP modI) (pBin addP (pLoad 3) (pLoad 5)) (pLoad 1))) (pSeq (pExpr (pAppend (pLoad 2) (pTup [(pLoad 3), (pLen (pLoad 2))]))) pNext))
noncomputable def told_comp2 : PM EV := pComp 1 [2, 7] (pIter (pLoad 2)) (fun v => pStore 0 (.v v)) (pCmp gtP (pLoad 0) (pBin subP (pLoad 1) (pLoad 2))) (pLoad 0)
noncomputable def told_blk3 : PM PF := (pSeq (pSetItem (pLoad 4) (pLoad 6) (pLen told_comp2)) pNext)
noncomputable def told_body : PM PF := (pSeq (pPair 2 3 (pNewM (.list [])) (pRet (.v (.int 0)))) (pSeq (pForS (pIter (pLoad 0)) (pT2 (fun v => pStore 4 (.v v)) (fun v => pStore 5 (.v v))) told_blk1) (pbind (pFrz 2) fun _ => (pSeq (pAsg 6 (pBin mulMP (pLst [(pRet (.v (.str "")))]) (pLen (pLoad 0)))) (pSeq (pForS (pEnum (pLoad 0)) (pT2 (fun v => pStore 7 (.v v)) (pT2 (fun v => pStore 4 (.v v)) (fun v => pStore 5 (.v v)))) told_blk3) (pSeq (pReturn (pJoin "" (pLoad 6))) pNext))))))
noncomputable def told_nm : List Str := ["order", "size", "levels", "level", "unit", "load", "line", "spot"]
noncomputable def toldF (xs : List PV) : Option PV := if xs.length = 2 then runBody 8 told_body xs else none
theorem told_ok (fd : FuncData) (L : Addr) (h1 : fd.scope = (fnNo 60).2.2) (h2 : fd.globals = mainGlobals) (h3 : fd.builtins = builtinsNs) : FE.Ok (⟨callEnvC fd L 93, told_nm, (callEnvC fd L 93).cells.map (·.2)⟩ : FE) := by
  obtain ⟨a1, a2, a3, a4, a5, a6, a7, a8, a9, a10, a11, a12⟩ := fd
  subst h1 h2 h3
  refine ok_of rfl rfl rfl (by decide +kernel) ?_ ?_ (by decide +kernel)
  ·
    intro x hx
    rcases List.mem_cons.mp hx with rfl | hx
    · first | exact .inl rfl | exact .inr ⟨rfl, _, rfl⟩
    rcases List.mem_cons.mp hx with rfl | hx
    · first | exact .inl rfl | exact .inr ⟨rfl, _, rfl⟩
    rcases List.mem_cons.mp hx with rfl | hx
    · first | exact .inl rfl | exact .inr ⟨rfl, _, rfl⟩
    rcases List.mem_cons.mp hx with rfl | hx
    · first | exact .inl rfl | exact .inr ⟨rfl, _, rfl⟩
    rcases List.mem_cons.mp hx with rfl | hx
    · first | exact .inl rfl | exact .inr ⟨rfl, _, rfl⟩
    rcases List.mem_cons.mp hx with rfl | hx
    · first | exact .inl rfl | exact .inr ⟨rfl, _, rfl⟩
    rcases List.mem_cons.mp hx with rfl | hx
    · first | exact .inl rfl | exact .inr ⟨rfl, _, rfl⟩
    rcases List.mem_cons.mp hx with rfl | hx
    · first | exact .inl rfl | exact .inr ⟨rfl, _, rfl⟩
    exact absurd hx List.not_mem_nil
  · show List.Pairwise _ ([("spot", L + 1 + 1), ("levels", L + 1)] : List (Str × Addr))
    simp

theorem ok_told {prog : Program} {w : World} : FunOk prog w 2 93 toldF := by
  refine FunOk.ofBody (k := 1) (d := fnNo 60) (nm := told_nm) (params := ["order", "size"]) (pb := told_body) (fun h S => S.fTold) ?_ told_ok ?_ ⟨_, rfl⟩ ?_ ?_ rfl rfl rfl
  · intro name qual doc pm an cdv ct vs hl
    rcases vs with _ | ⟨v0, _ | ⟨v1, _ | ⟨v2, vs⟩⟩⟩ <;> first | rfl | (simp at hl)
  · intro fd L h1 n c hm
    exact lookup_of (by
      obtain ⟨a1, a2, a3, a4, a5, a6, a7, a8, a9, a10, a11, a12⟩ := fd
      subst h1
      show (([("spot", L + 1 + 1), ("levels", L + 1)] : List (Str × Addr)).map (·.1)).Nodup
      first | (simp; done) | (simp; decide)) hm
  ·
    intro x hx
    rcases List.mem_cons.mp hx with rfl | hx
    · rfl
    rcases List.mem_cons.mp hx with rfl | hx
    · rfl
    exact absurd hx List.not_mem_nil
  · intro fd L h1 h2 h3
    have ok := told_ok fd L h1 h2 h3
    obtain ⟨a1, a2, a3, a4, a5, a6, a7, a8, a9, a10, a11, a12⟩ := fd
    subst h1 h2 h3
    exact (ref_cons (ref_AssignPair ok (i := 2) (j := 3) rfl rfl (wr_of rfl) (wr_of rfl) ref_ListM ref_int rfl) (ref_cons (ref_For (ret := True) (iref_list (ref_Name ok (i := 0) rfl)) (tref_Tuple2 (tref_Name ok (i := 4) rfl (wr_of rfl)) (tref_Name ok (i := 5) rfl (wr_of rfl))) (.inr ⟨_, _, _, rfl⟩) (ref_cons (ref_Assign ok (i := 3) rfl (wr_of rfl) (ref_BinOp (ref_BinOp (ref_Name ok (i := 3) rfl) (ref_Name ok (i := 5) rfl) op_add) (ref_Name ok (i := 1) rfl) op_mod)) (ref_cons (ref_Expr (ref_append (ref_Name ok (i := 2) rfl) (ref_Tuple ⟨rfl, (ref_Name ok (i := 3) rfl), ⟨rfl, (ref_len ok rfl (ref_Name ok (i := 2) rfl)), trivial⟩⟩))) ref_nil)) (by decide) (.inl trivial)) (ref_frz (i := 2) (ref_cons (ref_Assign ok (i := 6) rfl (wr_of rfl) (ref_BinOp (ref_List ⟨rfl, ref_str, trivial⟩) (ref_len ok rfl (ref_Name ok (i := 0) rfl)) op_mulM)) (ref_cons (ref_For (ret := True) (iref_enum ok rfl (ref_Name ok (i := 0) rfl)) (tref_Tuple2 (tref_Name ok (i := 7) rfl (wr_of rfl)) (tref_Tuple2 (tref_Name ok (i := 4) rfl (wr_of rfl)) (tref_Name ok (i := 5) rfl (wr_of rfl)))) ⟨_, _, _, rfl⟩ (ref_cons (ref_SetItem (ref_Name ok (i := 4) rfl) (ref_Name ok (i := 6) rfl) (ref_len ok rfl (ref_ListComp (compOkC (F := _) (cl := [("spot", L + 1 + 1), ("levels", L + 1)]) (tn := ["other"]) (cn := ["levels", "spot"]) (caps := [2, 7]) ok rfl (by decide) (fun C => (by intro x hx; rcases List.mem_cons.mp hx with rfl | hx; (· rfl); rcases List.mem_cons.mp hx with rfl | hx; (· rfl); exact absurd hx List.not_mem_nil)) (by intro x hx; rcases List.mem_cons.mp hx with rfl | hx; (· exact ⟨_, rfl⟩); rcases List.mem_cons.mp hx with rfl | hx; (· exact ⟨_, rfl⟩); exact absurd hx List.not_mem_nil) rfl (by intro x hx; rcases List.mem_cons.mp hx with rfl | hx; (· exact ⟨rfl, rfl⟩); rcases List.mem_cons.mp hx with rfl | hx; (· exact ⟨rfl, rfl⟩); exact absurd hx List.not_mem_nil) (by intro x hx; rcases List.mem_cons.mp hx with rfl | hx; (· rfl); rcases List.mem_cons.mp hx with rfl | hx; (· rfl); exact absurd hx List.not_mem_nil) rfl (by decide) (by decide) (by decide +kernel) (by decide +kernel)) (iref_list (ref_Name ok (i := 2) rfl)) (fun C => (tref_Name ((compOkC (F := _) (cl := [("spot", L + 1 + 1), ("levels", L + 1)]) (tn := ["other"]) (cn := ["levels", "spot"]) (caps := [2, 7]) ok rfl (by decide) (fun C => (by intro x hx; rcases List.mem_cons.mp hx with rfl | hx; (· rfl); rcases List.mem_cons.mp hx with rfl | hx; (· rfl); exact absurd hx List.not_mem_nil)) (by intro x hx; rcases List.mem_cons.mp hx with rfl | hx; (· exact ⟨_, rfl⟩); rcases List.mem_cons.mp hx with rfl | hx; (· exact ⟨_, rfl⟩); exact absurd hx List.not_mem_nil) rfl (by intro x hx; rcases List.mem_cons.mp hx with rfl | hx; (· exact ⟨rfl, rfl⟩); rcases List.mem_cons.mp hx with rfl | hx; (· exact ⟨rfl, rfl⟩); exact absurd hx List.not_mem_nil) (by intro x hx; rcases List.mem_cons.mp hx with rfl | hx; (· rfl); rcases List.mem_cons.mp hx with rfl | hx; (· rfl); exact absurd hx List.not_mem_nil) rfl (by decide) (by decide) (by decide +kernel) (by decide +kernel)).ok _) (i := 0) rfl (wr_local rfl))) (.inl ⟨_, _, rfl⟩) (fun C => (tst_Compare (ref_Name ((compOkC (F := _) (cl := [("spot", L + 1 + 1), ("levels", L + 1)]) (tn := ["other"]) (cn := ["levels", "spot"]) (caps := [2, 7]) ok rfl (by decide) (fun C => (by intro x hx; rcases List.mem_cons.mp hx with rfl | hx; (· rfl); rcases List.mem_cons.mp hx with rfl | hx; (· rfl); exact absurd hx List.not_mem_nil)) (by intro x hx; rcases List.mem_cons.mp hx with rfl | hx; (· exact ⟨_, rfl⟩); rcases List.mem_cons.mp hx with rfl | hx; (· exact ⟨_, rfl⟩); exact absurd hx List.not_mem_nil) rfl (by intro x hx; rcases List.mem_cons.mp hx with rfl | hx; (· exact ⟨rfl, rfl⟩); rcases List.mem_cons.mp hx with rfl | hx; (· exact ⟨rfl, rfl⟩); exact absurd hx List.not_mem_nil) (by intro x hx; rcases List.mem_cons.mp hx with rfl | hx; (· rfl); rcases List.mem_cons.mp hx with rfl | hx; (· rfl); exact absurd hx List.not_mem_nil) rfl (by decide) (by decide) (by decide +kernel) (by decide +kernel)).ok _) (i := 0) rfl) (ref_Sub (ref_Name ((compOkC (F := _) (cl := [("spot", L + 1 + 1), ("levels", L + 1)]) (tn := ["other"]) (cn := ["levels", "spot"]) (caps := [2, 7]) ok rfl (by decide) (fun C => (by intro x hx; rcases List.mem_cons.mp hx with rfl | hx; (· rfl); rcases List.mem_cons.mp hx with rfl | hx; (· rfl); exact absurd hx List.not_mem_nil)) (by intro x hx; rcases List.mem_cons.mp hx with rfl | hx; (· exact ⟨_, rfl⟩); rcases List.mem_cons.mp hx with rfl | hx; (· exact ⟨_, rfl⟩); exact absurd hx List.not_mem_nil) rfl (by intro x hx; rcases List.mem_cons.mp hx with rfl | hx; (· exact ⟨rfl, rfl⟩); rcases List.mem_cons.mp hx with rfl | hx; (· exact ⟨rfl, rfl⟩); exact absurd hx List.not_mem_nil) (by intro x hx; rcases List.mem_cons.mp hx with rfl | hx; (· rfl); rcases List.mem_cons.mp hx with rfl | hx; (· rfl); exact absurd hx List.not_mem_nil) rfl (by decide) (by decide) (by decide +kernel) (by decide +kernel)).ok _) (i := 1) rfl) (ref_Name ((compOkC (F := _) (cl := [("spot", L + 1 + 1), ("levels", L + 1)]) (tn := ["other"]) (cn := ["levels", "spot"]) (caps := [2, 7]) ok rfl (by decide) (fun C => (by intro x hx; rcases List.mem_cons.mp hx with rfl | hx; (· rfl); rcases List.mem_cons.mp hx with rfl | hx; (· rfl); exact absurd hx List.not_mem_nil)) (by intro x hx; rcases List.mem_cons.mp hx with rfl | hx; (· exact ⟨_, rfl⟩); rcases List.mem_cons.mp hx with rfl | hx; (· exact ⟨_, rfl⟩); exact absurd hx List.not_mem_nil) rfl (by intro x hx; rcases List.mem_cons.mp hx with rfl | hx; (· exact ⟨rfl, rfl⟩); rcases List.mem_cons.mp hx with rfl | hx; (· exact ⟨rfl, rfl⟩); exact absurd hx List.not_mem_nil) (by intro x hx; rcases List.mem_cons.mp hx with rfl | hx; (· rfl); rcases List.mem_cons.mp hx with rfl | hx; (· rfl); exact absurd hx List.not_mem_nil) rfl (by decide) (by decide) (by decide +kernel) (by decide +kernel)).ok _) (i := 2) rfl)) cmp_gt)) (fun C => (ref_Name ((compOkC (F := _) (cl := [("spot", L + 1 + 1), ("levels", L + 1)]) (tn := ["other"]) (cn := ["levels", "spot"]) (caps := [2, 7]) ok rfl (by decide) (fun C => (by intro x hx; rcases List.mem_cons.mp hx with rfl | hx; (· rfl); rcases List.mem_cons.mp hx with rfl | hx; (· rfl); exact absurd hx List.not_mem_nil)) (by intro x hx; rcases List.mem_cons.mp hx with rfl | hx; (· exact ⟨_, rfl⟩); rcases List.mem_cons.mp hx with rfl | hx; (· exact ⟨_, rfl⟩); exact absurd hx List.not_mem_nil) rfl (by intro x hx; rcases List.mem_cons.mp hx with rfl | hx; (· exact ⟨rfl, rfl⟩); rcases List.mem_cons.mp hx with rfl | hx; (· exact ⟨rfl, rfl⟩); exact absurd hx List.not_mem_nil) (by intro x hx; rcases List.mem_cons.mp hx with rfl | hx; (· rfl); rcases List.mem_cons.mp hx with rfl | hx; (· rfl); exact absurd hx List.not_mem_nil) rfl (by decide) (by decide) (by decide +kernel) (by decide +kernel)).ok _) (i := 0) rfl)) (by decide)))) ref_nil) (by decide) (.inl trivial)) (ref_cons (ref_Return (ref_join (ref_Name ok (i := 6) rfl))) ref_nil))))))

end Mine
end

section
open PySem PySem.W PyProof.Rows PySem.Calls
set_option maxRecDepth 100000
namespace Mine
noncomputable def swept_tst1 : PM Bool := (pAnd (pCmp gtP (pLoad 9) (pRet (.v (.int 0)))) (pCmp ltP (pMeth compareF (pLoad 2) [(pLoad 8), (pBin subP (pLoad 3) (pBin (intP subI) (pLoad 9) (pRet (.v (.int 1)))))]) (pRet (.v (.int 0)))))
noncomputable def swept_blk2 : PM PF := (pSeq (pAsg 9 (pBin (intP subI) (pLoad 9) (pRet (.v (.int 1))))) pNext)
noncomputable def swept_blk3 : PM PF := (pSeq (pAsg 7 (pbind (pBin subP (pLoad 6) (pUn negP (pRet (.v (.int 1))))) exactP)) (pSeq (pAsg 4 (pBin (intP modI) (pBin addP (pLoad 4) (pIf (pCmp eqP (pLen (pLoad 6)) (pRet (.v (.int 1)))) (pLoad 7) (pUn negP (pLoad 7)))) (pLoad 1))) (pSeq (pPairS 8 9 (pTup [(pLoad 4), (pLoad 5), (pLoad 6)]) (pLen (pLoad 3))) (pSeq (pWhile swept_tst1 swept_blk2 1000) (pSeq (pExpr (pInsert (pLoad 3) (pLoad 9) (pLoad 8))) pNext)))))
noncomputable def swept_comp4 : PM EV := pComp 1 [] (pIter (pLoad 3)) (fun v => pStore 0 (.v v)) (pRet true) (pBin subP (pLoad 0) (pRet (.v (.int 2))))
theorem swept_blk3_nr : NoRet swept_blk3 := by
  repeat (first | exact nr_next | exact nr_asg _ _ | exact nr_expr _ | exact nr_pairS _ _ _ _ | apply nr_while | apply nr_seq | apply nr_if)
noncomputable def swept_body : PM PF := (pSeq (pAsg 2 (pMake (pTup [(pTup [(pRet (.v (.int 0))), (pUn negP (pRet (.v (.int 1))))]), (pTup [(pRet (.v (.int 1))), (pUn negP (pRet (.v (.int 1))))])]))) (pSeq (pPairS 3 4 (pNewM (.list [])) (pRet (.v (.int 0)))) (pSeq (pForG (pCall stripF [(pLoad 0)]) (pT2 (fun v => pStore 5 (.v v)) (fun v => pStore 6 (.v v))) swept_blk3) (pbind (pFrz 3) fun _ => (pSeq (pReturn (pJoin "" swept_comp4)) pNext)))))
noncomputable def swept_nm : List Str := ["text", "size", "judge", "line", "level", "place", "unit", "number", "row", "spot"]
noncomputable def sweptF (xs : List PV) : Option PV := if xs.length = 2 then runBody 10 swept_body xs else none
theorem swept_ok (fd : FuncData) (L : Addr) (h1 : fd.scope = (fnNo 59).2.2) (h2 : fd.globals = mainGlobals) (h3 : fd.builtins = builtinsNs) : FE.Ok (⟨callEnvC fd L 88, swept_nm, (callEnvC fd L 88).cells.map (·.2)⟩ : FE) := by
  obtain ⟨a1, a2, a3, a4, a5, a6, a7, a8, a9, a10, a11, a12⟩ := fd
  subst h1 h2 h3
  refine ok_of rfl rfl rfl (by decide +kernel) ?_ ?_ (by decide +kernel)
  ·
    intro x hx
    rcases List.mem_cons.mp hx with rfl | hx
    · first | exact .inl rfl | exact .inr ⟨rfl, _, rfl⟩
    rcases List.mem_cons.mp hx with rfl | hx
    · first | exact .inl rfl | exact .inr ⟨rfl, _, rfl⟩
    rcases List.mem_cons.mp hx with rfl | hx
    · first | exact .inl rfl | exact .inr ⟨rfl, _, rfl⟩
    rcases List.mem_cons.mp hx with rfl | hx
    · first | exact .inl rfl | exact .inr ⟨rfl, _, rfl⟩
    rcases List.mem_cons.mp hx with rfl | hx
    · first | exact .inl rfl | exact .inr ⟨rfl, _, rfl⟩
    rcases List.mem_cons.mp hx with rfl | hx
    · first | exact .inl rfl | exact .inr ⟨rfl, _, rfl⟩
    rcases List.mem_cons.mp hx with rfl | hx
    · first | exact .inl rfl | exact .inr ⟨rfl, _, rfl⟩
    rcases List.mem_cons.mp hx with rfl | hx
    · first | exact .inl rfl | exact .inr ⟨rfl, _, rfl⟩
    rcases List.mem_cons.mp hx with rfl | hx
    · first | exact .inl rfl | exact .inr ⟨rfl, _, rfl⟩
    rcases List.mem_cons.mp hx with rfl | hx
    · first | exact .inl rfl | exact .inr ⟨rfl, _, rfl⟩
    exact absurd hx List.not_mem_nil
  · exact List.Pairwise.nil

theorem ok_swept {prog : Program} {w : World} : FunOk prog w 4 88 sweptF := by
  refine FunOk.ofBody (k := 3) (d := fnNo 59) (nm := swept_nm) (params := ["text", "size"]) (pb := swept_body) (fun h S => S.fSwept) ?_ swept_ok ?_ ⟨_, rfl⟩ ?_ ?_ rfl rfl rfl
  · intro name qual doc pm an cdv ct vs hl
    rcases vs with _ | ⟨v0, _ | ⟨v1, _ | ⟨v2, vs⟩⟩⟩ <;> first | rfl | (simp at hl)
  · intro fd L h1 n c hm
    exact lookup_of (by
      obtain ⟨a1, a2, a3, a4, a5, a6, a7, a8, a9, a10, a11, a12⟩ := fd
      subst h1
      exact List.nodup_nil) hm
  ·
    intro x hx
    rcases List.mem_cons.mp hx with rfl | hx
    · rfl
    rcases List.mem_cons.mp hx with rfl | hx
    · rfl
    exact absurd hx List.not_mem_nil
  · intro fd L h1 h2 h3
    have ok := swept_ok fd L h1 h2 h3
    obtain ⟨a1, a2, a3, a4, a5, a6, a7, a8, a9, a10, a11, a12⟩ := fd
    subst h1 h2 h3
    exact (ref_cons (ref_Assign ok (i := 2) rfl (wr_of rfl) (ref_Make (k := 0) ok rfl (ref_Tuple ⟨rfl, (ref_Tuple ⟨rfl, ref_int, ⟨rfl, (ref_Neg ref_int), trivial⟩⟩), ⟨rfl, (ref_Tuple ⟨rfl, ref_int, ⟨rfl, (ref_Neg ref_int), trivial⟩⟩), trivial⟩⟩))) (ref_cons (ref_AssignPairS ok (i := 3) (j := 4) rfl rfl (wr_of rfl) (wr_of rfl) ref_ListM ref_int rfl) (ref_cons (ref_ForG ok rfl (ref_Call ok (addr := 70) (gt_mem (i := 5) rfl) rfl (ok_strip.le (by decide)) (fun _ S => S.fStrip) (by decide) ⟨rfl, (ref_Name ok (i := 0) rfl), trivial⟩) (tref_Tuple2 (tref_Name ok (i := 5) rfl (wr_of rfl)) (tref_Name ok (i := 6) rfl (wr_of rfl))) (.inr ⟨_, _, _, rfl⟩) (ref_cons (ref_Assign ok (i := 7) rfl (wr_of rfl) (ref_Exact ok rfl (ref_Sub (ref_Name ok (i := 6) rfl) (ref_Neg ref_int)))) (ref_cons (ref_Assign ok (i := 4) rfl (wr_of rfl) (ref_BinOp (ref_BinOp (ref_Name ok (i := 4) rfl) (ref_IfExp (tst_Compare (ref_len ok rfl (ref_Name ok (i := 6) rfl)) ref_int cmp_eq) (ref_Name ok (i := 7) rfl) (ref_Neg (ref_Name ok (i := 7) rfl))) op_add) (ref_Name ok (i := 1) rfl) op_mod)) (ref_cons (ref_AssignPairS ok (i := 8) (j := 9) rfl rfl (wr_of rfl) (wr_of rfl) (ref_Tuple ⟨rfl, (ref_Name ok (i := 4) rfl), ⟨rfl, (ref_Name ok (i := 5) rfl), ⟨rfl, (ref_Name ok (i := 6) rfl), trivial⟩⟩⟩) (ref_len ok rfl (ref_Name ok (i := 3) rfl)) rfl) (ref_cons (ref_While 1000 (tst_And (tst_Compare (ref_Name ok (i := 9) rfl) ref_int cmp_gt) (tst_Compare (ref_Meth (ok_compare.le (by decide)) (ref_Name ok (i := 2) rfl) ⟨rfl, (ref_Name ok (i := 8) rfl), ⟨rfl, (ref_Sub (ref_Name ok (i := 3) rfl) (ref_BinOp (ref_Name ok (i := 9) rfl) ref_int op_sub)), trivial⟩⟩ (pl := _) rfl rfl) ref_int cmp_lt)) (ref_cons (ref_Assign ok (i := 9) rfl (wr_of rfl) (ref_BinOp (ref_Name ok (i := 9) rfl) ref_int op_sub)) ref_nil)) (ref_cons (ref_Expr (ref_insert (ref_Name ok (i := 3) rfl) (ref_Name ok (i := 9) rfl) (ref_Name ok (i := 8) rfl))) ref_nil))))) swept_blk3_nr (fun _ S => S.fIter)) (ref_frz (i := 3) (ref_cons (ref_Return (ref_join (ref_ListComp (compOkC (F := _) (cl := []) (tn := ["told"]) (cn := []) (caps := []) ok rfl (by decide) (fun C => (fun _ h => nomatch h)) (fun _ h => nomatch h) rfl (fun _ h => nomatch h) (fun _ h => nomatch h) rfl (by decide) (by decide) (by decide +kernel) (by decide +kernel)) (iref_list (ref_Name ok (i := 3) rfl)) (fun C => (tref_Name ((compOkC (F := _) (cl := []) (tn := ["told"]) (cn := []) (caps := []) ok rfl (by decide) (fun C => (fun _ h => nomatch h)) (fun _ h => nomatch h) rfl (fun _ h => nomatch h) (fun _ h => nomatch h) rfl (by decide) (by decide) (by decide +kernel) (by decide +kernel)).ok _) (i := 0) rfl (wr_local rfl))) (.inl ⟨_, _, rfl⟩) (fun C => rfl) (fun C => (ref_Sub (ref_Name ((compOkC (F := _) (cl := []) (tn := ["told"]) (cn := []) (caps := []) ok rfl (by decide) (fun C => (fun _ h => nomatch h)) (fun _ h => nomatch h) rfl (fun _ h => nomatch h) (fun _ h => nomatch h) rfl (by decide) (by decide) (by decide +kernel) (by decide +kernel)).ok _) (i := 0) rfl) ref_int)) (by decide)))) ref_nil)))))

end Mine
end

section
open PySem PySem.W PyProof.Rows PySem.Calls
set_option maxRecDepth 100000
namespace Mine
noncomputable def law_comp1 : PM EV := pComp 2 [] (pIter (pLoad 6)) (pT2 (fun v => pStore 0 (.v v)) (fun v => pStore 1 (.v v))) (pRet true) (pLoad 0)
noncomputable def law_blk2 : PM PF := (pSeq (pReturn (pRet (.v (.bool false)))) pNext)
noncomputable def law_blk3 : PM PF := (pSeq (pAsg 7 law_comp1) (pSeq (pAsg 8 (pCall sweptF [(pBin addP (pBin addP (pJoin "" (pSlice (pLoad 7) none (some (pRet (.v (.int 2)))))) (pLoad 3)) (pJoin "" (pSlice (pLoad 7) (some (pRet (.v (.int 2)))) none))), (pLoad 2)])) (pSeq (pIf (pCmp neP (pLoad 8) (pCall toldF [(pLoad 6), (pLoad 2)])) law_blk2 pNext) (pSeq (pAsg 5 (pCall addcF [(pLoad 5), (pDict1 (pLoad 8) (pRet (.v (.int 1))))])) pNext))))
noncomputable def law_body : PM PF := (pSeq (pAsgT (pT3 (fun v => pStore 1 (.v v)) (fun v => pStore 2 (.v v)) (fun v => pStore 3 (.v v))) (pCall drawnF [(pLoad 0)])) (pSeq (pAsg 4 (pCall ordersF [(pLoad 1)])) (pSeq (pAsg 5 (pRet (.v (.dct [])))) (pSeq (pForS (pVals (pLoad 4)) (fun v => pStore 6 (.v v)) law_blk3) (pSeq (pReturn (pB (pAnd (pCmp eqP (pLoad 5) (pOnes (pLoad 4))) (pCmp eqP (pCall cntF [(pLoad 5)]) (pLen (pLoad 4)))))) pNext)))))
noncomputable def law_nm : List Str := ["script", "pieces", "size", "rider", "orders", "table", "order", "units", "swept"]
theorem law_ok (L a : Addr) (cd : Value) : FE.Ok (⟨envOf "law" (fnNo 61).2.2 L a cd, law_nm, []⟩ : FE) := by
  refine ok_of rfl rfl rfl (by decide +kernel) ?_ ?_ (by decide +kernel)
  ·
    intro x hx
    rcases List.mem_cons.mp hx with rfl | hx
    · exact .inl rfl
    rcases List.mem_cons.mp hx with rfl | hx
    · exact .inl rfl
    rcases List.mem_cons.mp hx with rfl | hx
    · exact .inl rfl
    rcases List.mem_cons.mp hx with rfl | hx
    · exact .inl rfl
    rcases List.mem_cons.mp hx with rfl | hx
    · exact .inl rfl
    rcases List.mem_cons.mp hx with rfl | hx
    · exact .inl rfl
    rcases List.mem_cons.mp hx with rfl | hx
    · exact .inl rfl
    rcases List.mem_cons.mp hx with rfl | hx
    · exact .inl rfl
    rcases List.mem_cons.mp hx with rfl | hx
    · exact .inl rfl
    exact absurd hx List.not_mem_nil
  · exact List.Pairwise.nil

theorem ref_law {prog : Program} {w : World} (L a : Addr) (cd : Value) : Ref prog w (⟨envOf "law" (fnNo 61).2.2 L a cd, law_nm, []⟩ : FE) 4 (execs (fnNo 61).2.1 (envOf "law" (fnNo 61).2.2 L a cd)) (FR prog w) law_body := by
  have ok := law_ok L a cd
  exact (ref_cons (ref_AssignT (ref_Call ok (addr := 78) (gt_mem (i := 6) rfl) rfl (ok_drawn.le (by decide)) (fun _ S => S.fDrawn) (by decide) ⟨rfl, (ref_Name ok (i := 0) rfl), trivial⟩) (tref_Tuple3 (tref_Name ok (i := 1) rfl (wr_of rfl)) (tref_Name ok (i := 2) rfl (wr_of rfl)) (tref_Name ok (i := 3) rfl (wr_of rfl)))) (ref_cons (ref_Assign ok (i := 4) rfl (wr_of rfl) (ref_Call ok (addr := 83) (gt_mem (i := 7) rfl) rfl (ok_orders.le (by decide)) (fun _ S => S.fOrders) (by decide) ⟨rfl, (ref_Name ok (i := 1) rfl), trivial⟩)) (ref_cons (ref_Assign ok (i := 5) rfl (wr_of rfl) ref_DictE) (ref_cons (ref_For (ret := True) (iref_values (ref_Name ok (i := 4) rfl)) (tref_Name ok (i := 6) rfl (wr_of rfl)) ⟨_, _, rfl⟩ (ref_cons (ref_AssignComp ok (i := 7) rfl (wr_of rfl) (compOkC (F := _) (cl := []) (tn := ["unit", "load"]) (cn := []) (caps := []) ok rfl (by decide) (fun C => (fun _ h => nomatch h)) (fun _ h => nomatch h) rfl (fun _ h => nomatch h) (fun _ h => nomatch h) rfl (by decide) (by decide) (by decide +kernel) (by decide +kernel)) (iref_list (ref_Name ok (i := 6) rfl)) (fun C => (tref_Tuple2 (tref_Name ((compOkC (F := _) (cl := []) (tn := ["unit", "load"]) (cn := []) (caps := []) ok rfl (by decide) (fun C => (fun _ h => nomatch h)) (fun _ h => nomatch h) rfl (fun _ h => nomatch h) (fun _ h => nomatch h) rfl (by decide) (by decide) (by decide +kernel) (by decide +kernel)).ok _) (i := 0) rfl (wr_local rfl)) (tref_Name ((compOkC (F := _) (cl := []) (tn := ["unit", "load"]) (cn := []) (caps := []) ok rfl (by decide) (fun C => (fun _ h => nomatch h)) (fun _ h => nomatch h) rfl (fun _ h => nomatch h) (fun _ h => nomatch h) rfl (by decide) (by decide) (by decide +kernel) (by decide +kernel)).ok _) (i := 1) rfl (wr_local rfl)))) (.inr ⟨_, _, _, rfl⟩) (fun C => rfl) (fun C => (ref_Name ((compOkC (F := _) (cl := []) (tn := ["unit", "load"]) (cn := []) (caps := []) ok rfl (by decide) (fun C => (fun _ h => nomatch h)) (fun _ h => nomatch h) rfl (fun _ h => nomatch h) (fun _ h => nomatch h) rfl (by decide) (by decide) (by decide +kernel) (by decide +kernel)).ok _) (i := 0) rfl)) (by decide) rfl) (ref_cons (ref_Assign ok (i := 8) rfl (wr_of rfl) (ref_Call ok (addr := 88) (gt_mem (i := 8) rfl) rfl (ok_swept.le (by decide)) (fun _ S => S.fSwept) (by decide) ⟨rfl, (ref_BinOp (ref_BinOp (ref_join (ref_Slice (ref_Name ok (i := 7) rfl) trivial ref_int)) (ref_Name ok (i := 3) rfl) op_add) (ref_join (ref_Slice (ref_Name ok (i := 7) rfl) ref_int trivial)) op_add), ⟨rfl, (ref_Name ok (i := 2) rfl), trivial⟩⟩)) (ref_cons (ref_If (tst_Compare (ref_Name ok (i := 8) rfl) (ref_Call ok (addr := 93) (gt_mem (i := 9) rfl) rfl (ok_told.le (by decide)) (fun _ S => S.fTold) (by decide) ⟨rfl, (ref_Name ok (i := 6) rfl), ⟨rfl, (ref_Name ok (i := 2) rfl), trivial⟩⟩) cmp_ne) (ref_cons (ref_Return ref_bool) ref_nil) ref_nil) (ref_cons (ref_Assign ok (i := 5) rfl (wr_of rfl) (ref_Call ok (addr := 49) (gt_mem (i := 2) rfl) rfl (ok_addc.le (by decide)) (fun _ S => S.fAdd) (by decide) ⟨rfl, (ref_Name ok (i := 5) rfl), ⟨rfl, (ref_Dict1 (ref_Name ok (i := 8) rfl) ref_int), trivial⟩⟩)) ref_nil)))) (by decide) (.inl trivial)) (ref_cons (ref_Return (ref_And (ref_Compare (ref_Name ok (i := 5) rfl) (ref_Ones (ref_Name ok (i := 4) rfl) rfl (by decide) rfl (by decide) rfl (by decide)) cmp_eq) (ref_Compare (ref_Call ok (addr := 56) (gt_mem (i := 3) rfl) rfl (ok_cnt.le (by decide)) (fun _ S => S.fCount) (by decide) ⟨rfl, (ref_Name ok (i := 5) rfl), trivial⟩) (ref_len ok rfl (ref_Name ok (i := 4) rfl)) cmp_eq))) ref_nil)))))

end Mine
end

section
open PySem PySem.W PyProof.Rows PySem.Calls
set_option maxRecDepth 100000
set_option maxHeartbeats 2000000
namespace Mine
theorem kfacts (P : Params) : KFacts (myK P) where
  cmp := by rfl
  pg := by rfl
  fn35 := by rfl
  hd := by rfl
  gA := by rfl
  gI := by rfl
  fn28 := by rfl
  mkC := by rfl
  sa := by rfl
  po := by rfl
  ta := by rfl
  kp35 := by rfl
  kp38 := by rfl

theorem fnAt_of {K : Frag} {h : Heap} {a : Addr} {d : Arguments × List Stmt × Scope} (X : K.In h) {oc : Value} {od : Option Addr} {osl : Array (Option Value)} {name qual : Str} {doc pm : Value} {an : Option Addr} {cdv ct : Value}
    (ho : K.lookup a = some ⟨oc, od, .func (fnOf name qual d.1 d.2.1 d.2.2 .none .none doc pm an cdv ct), osl⟩) (hcd : codeIn K cdv qual = true) : FnAt h a d :=
  ⟨_, name, qual, doc, pm, an, cdv, ct, X _ _ ho, rfl, codeRec_of X hcd⟩
end Mine
end

section
open PySem PySem.W PyProof.Rows PySem.Calls
set_option maxRecDepth 100000
set_option maxHeartbeats 2000000
namespace Mine
theorem gt_in (P : Params) : ∀ p ∈ gtab, nsIn (myK P) mainGlobals p.1 = some (some p.2) := by
  unfold gtab
  repeat' (first | exact List.forall_mem_nil _ | refine List.forall_mem_cons.mpr ⟨by rfl, ?_⟩)
theorem bt_in (P : Params) : ∀ p ∈ btab, nsIn (myK P) mainGlobals p.1 = some none ∧ p.1 ≠ "__name__" ∧ bootBuiltins p.1 = some p.2 := by
  unfold btab
  repeat' (first | exact List.forall_mem_nil _ | refine List.forall_mem_cons.mpr ⟨⟨by rfl, by decide, by rfl⟩, ?_⟩)
end Mine
end

section
open PySem PySem.W PyProof.Rows PySem.Calls
set_option maxRecDepth 100000
set_option maxHeartbeats 2000000
namespace Mine
theorem hl71 (P : Params) : ∃ es n, (myK P).lookup 71 = some ⟨.type "dict", none, .dict es n, #[]⟩ ∧ KeysLit P es.toList := by
  refine ⟨_, _, rfl, ?_⟩
  repeat' (first | exact trivial | refine ⟨⟨_, _, rfl, rfl⟩, ?_⟩)
theorem ex_in (P : Params) : ∀ p ∈ exactTab, ∃ t, nsIn (myK P) 71 ⟨#[p.1]⟩ = some (some (.int p.2 t)) := by
  unfold exactTab
  repeat' (first | exact List.forall_mem_nil _ | refine List.forall_mem_cons.mpr ⟨⟨_, by rfl⟩, ?_⟩)
theorem exact_in (w : World) {prog : Program} {h : Heap} (X : (myK w.params).In h) : ∃ f, h.MapOf (strKind prog w) 71 f ∧ ∀ p ∈ exactTab, ∃ t, f ⟨#[p.1]⟩ = some (.int p.2 t) := by
  obtain ⟨es, n, hl, hk⟩ := hl71 w.params
  refine ⟨_, mapOf_K X hl hk, fun p hp => ?_⟩
  obtain ⟨t, e⟩ := ex_in w.params p hp
  exact ⟨t, find_K hl e⟩
end Mine
end

section
open PySem PySem.W PyProof.Rows PySem.Calls
set_option maxRecDepth 100000
set_option maxHeartbeats 2000000
namespace Mine
theorem stat_at {prog : Program} {w : World} {h : Heap} {mg mb : Str → Option Value} (X : (myK w.params).In h) (g : h.Ns mainGlobals mg) (b : h.Ns builtinsNs mb) (bi : ∀ x : Str, x ≠ "__name__" → mb x = bootBuiltins x)
    (nl : h.NoLimit) (sm : ∃ o, h.get? sysModules = some o) : Stat prog w h where
  ns := ⟨mg, mb, g, b, fun p hp => mg_of X g (gt_in w.params p hp), fun p hp => let ⟨h1, h2, h3⟩ := bt_in w.params p hp; ⟨ns_none_of X g h1, (bi _ h2).trans h3⟩⟩
  nolim := nl
  sysm := sm
  exact := exact_in w X
  fInit := fnAt_of X rfl rfl
  fCmp := fnAt_of X rfl rfl
  fAdd := fnAt_of X rfl rfl
  fCount := fnAt_of X rfl rfl
  fIter := fnAt_of X rfl rfl
  fStrip := fnAt_of X rfl rfl
  fDrawn := fnAt_of X rfl rfl
  fOrders := fnAt_of X rfl rfl
  fSwept := fnAt_of X rfl rfl
  fTold := fnAt_of X rfl rfl
theorem fns_in (P : Params) : ∀ a ∈ fnAddrs, ((myK P).lookup a).isSome = true := by
  unfold fnAddrs
  repeat' (first | exact List.forall_mem_nil _ | refine List.forall_mem_cons.mpr ⟨by rfl, ?_⟩)
theorem zstat_at {prog : Program} {w : World} {h : Heap} {mg mb : Str → Option Value} (X : (myK w.params).In h) (g : h.Ns mainGlobals mg) (b : h.Ns builtinsNs mb) (bi : ∀ x : Str, x ≠ "__name__" → mb x = bootBuiltins x)
    (nl : h.NoLimit) (sm : ∃ o, h.get? sysModules = some o) : ZStat prog w h.get? where
  all := fun _ z => (stat_at X g b bi nl sm).keeps z
  fns := fun a m => by
    have := fns_in w.params a m
    obtain ⟨o, e⟩ := Option.isSome_iff_exists.mp this
    exact ⟨o, X _ _ e⟩
  kin := ⟨_, kfacts w.params, fun _ z a o e => z a o (X a o e)⟩

theorem vs_ints {prog : Program} {w : World} {Z : Frz} {h : Heap} {P : Params} : ∀ {vs : List Value} {il : List Int}, WellAll P h vs (ofPys (il.map PyData.int)) → Vs prog w Z vs (il.map PV.int)
  | _, [], x => by cases x; exact .nil
  | _, i :: l, x => by
    cases x with
    | cons a b => cases a; exact .cons (.int _ _) (vs_ints b)
theorem v_ints {prog : Program} {w : World} {h : Heap} {P : Params} {v : Value} {il : List Int} (x : Well P h v (ofPy (PyData.list (il.map PyData.int)))) : V prog w h.get? v (.lst (il.map PV.int)) := by
  cases x with
  | list g y => exact V.lst' g (vs_ints y)

theorem rr_entry {prog : Program} {w : World} {s₁ : Shared} {h₁ : Heap} {m : Str → Option Value} {fa : Addr} {tk : Nat} {cd v : Value} {x : PV} {Z : Frz} (hZ : Z = s₁.heap.get?)
    (F : Fr s₁.heap s₁.heap.objs.size h₁ m) (hm : m "script" = some v) (hv : V prog w Z v x) (al : ∃ o, h₁.get? s₁.heap.objs.size = some o) :
    RR prog w ⟨envOf "law" (fnNo 61).2.2 s₁.heap.objs.size fa cd, law_nm, []⟩ (baseOf Z s₁) ⟨[], Z⟩ (st0 9 [x]) { s₁ with heap := h₁, toks := tk } := by
  have hn : s₁.heap.get? s₁.heap.objs.size = none := none_of_size (Nat.le_refl _)
  subst hZ
  refine { keep := fun b o e => ?_, zk := fun b o e => F.keep b o e, rest := ⟨rfl, rfl, fun i y e => e, fun i y e e' => ?_⟩, ll := rfl, locs := ⟨_, F.ns, fun i y e h1 h2 h3 => ?_⟩, cels := fun i y c h1 h2 h3 => (by cases h3),
           cfix := fun y c h => (by cases h), objs := fun i o e => (by simp [st0] at e), len := rfl, nd := (by simp), dis := fun b o e => ?_, fpriv := fun a ha => ?_, alive := fun a ha => ?_, fown := fun i a o e => (by simp at e), low := fun a ha => by cases ha }
  · simp only [baseOf] at e
    split at e
    · cases e
    · exact F.keep b o e
  · have e' : s₁.gens[i]? = some y := e'
    rw [show s₁.gens[i]? = none from e] at e'; cases e'
  · match i with
    | 0 => cases h1; cases h3; exact ⟨v, hm, hv⟩
    | 1 => cases h3
    | 2 => cases h3
    | 3 => cases h3
    | 4 => cases h3
    | 5 => cases h3
    | 6 => cases h3
    | 7 => cases h3
    | 8 => cases h3
    | (n + 9) => cases h3
  · simp only [baseOf] at e
    split at e
    · cases e
    · rename_i hz; rw [e] at hz; exact absurd rfl hz
  · obtain rfl := List.mem_singleton.mp ha
    exact hn
  · obtain rfl := List.mem_singleton.mp ha
    exact al

theorem law_run {prog : Program} {w : World} {s₁ : Shared} {mg mb : Str → Option Value} {h₁ : Heap} {m : Str → Option Value} {fa : Addr} {tk : Nat} {cd v : Value} {il : List Int} {st' : PS} {Q : Flow → Shared → Prop} {E : Value → Shared → Prop}
    (X : (myK w.params).In s₁.heap) (g : s₁.heap.Ns mainGlobals mg) (b : s₁.heap.Ns builtinsNs mb) (bi : ∀ x : Str, x ≠ "__name__" → mb x = bootBuiltins x)
    (nl : s₁.heap.NoLimit) (sm : ∃ o, s₁.heap.get? sysModules = some o) (F : Fr s₁.heap s₁.heap.objs.size h₁ m) (hm : m "script" = some v)
    (wl : Well w.params s₁.heap v (ofPy (PyData.list (il.map PyData.int)))) (hg : s₁.gens = #[]) (hlaw : law_body (st0 9 [.lst (il.map .int)]) = some (.ret (.v (.bool true)), st'))
    (q : ∀ s', (∀ b o, s₁.heap.get? b = some o → s'.heap.get? b = some o) → s'.os = s₁.os → AllBare s'.gens → Q (.ret (.bool true)) s') :
    wpAny (model prog w) (callerA.deeper (envOf "law" (fnNo 61).2.2 s₁.heap.objs.size fa cd)) (execs (fnNo 61).2.1 (envOf "law" (fnNo 61).2.2 s₁.heap.objs.size fa cd)) Q E { s₁ with heap := h₁, toks := tk } := by
  have al : ∃ o, h₁.get? s₁.heap.objs.size = some o := let ⟨o, _, _, ho, _⟩ := F.ns; ⟨o, ho⟩
  have r := rr_entry (tk := tk) (w := w) (fa := fa) (cd := cd) rfl F hm (v_ints (prog := prog) (w := w) wl) al
  refine (ref_law (prog := prog) (w := w) s₁.heap.objs.size fa cd).run (AOk.deeper (k := 4) ⟨rfl, by decide, by decide⟩) (zstat_at X g b bi nl sm) hlaw r fun W' a s' l x r' => ?_
  have e : a = .ret (.bool true) := by
    cases a with
    | ret u => have x : EVR prog w W' u (.v (.bool true)) := x; cases x; rfl
    | _ => exact x.elim
  subst e
  refine q s' (fun c o e => r'.zk c o (l.2 _ _ e)) r'.rest.os fun y hy => ?_
  obtain ⟨i, hi⟩ := Array.mem_iff_getElem?.mp hy
  have := r'.rest.fin i y (by simp [baseOf, hg]) hi
  subst this; rfl
end Mine
end

section
open PySem PySem.W PyProof.Rows PySem.Calls
set_option maxRecDepth 10000
namespace Mine
/-- texts by their signs -/
noncomputable def tx (l : List Nat) : Str := ⟨⟨l⟩⟩
theorem tx_app (a b : List Nat) : tx a ++ tx b = tx (a ++ b) := by
  show (⟨(⟨a⟩ : Array Nat) ++ ⟨b⟩⟩ : Str) = ⟨⟨a ++ b⟩⟩
  simp
theorem tx_len (l : List Nat) : (tx l).length = l.length := rfl
theorem tx_nil : ("" : Str) = tx [] := rfl
theorem tx_inj {a b : List Nat} (h : tx a = tx b) : a = b := by
  unfold tx at h
  injection h with h
  injection h
theorem join_tx : ∀ ls : List (List Nat), Txt.join "" (ls.map tx) = tx ls.flatten := by
  have key : ∀ ls : List (List Nat), Str.join "" (ls.map tx) = tx ls.flatten := by
    intro ls
    induction ls with
    | nil => rfl
    | cons a r ih =>
      cases r with
      | nil => show tx a = tx (a ++ []); rw [List.append_nil]
      | cons b r =>
        show tx a ++ tx [] ++ Str.join "" ((b :: r).map tx) = _
        rw [ih, tx_app, tx_app, List.append_nil]; rfl
  intro ls
  exact (StrLaws.glued_eq_join _ _).trans (key ls)
theorem slice_tx {l : List Nat} {i j : Nat} (h : i ≤ j) (h' : j ≤ l.length) : Txt.slice (tx l) (some (i : Int)) (some (j : Int)) = tx ((l.drop i).take (j - i)) := by
  have := eq_of_beq (slice_closesL (x := tx l) (i := (i : Int)) (j := (j : Int)) (by omega) (by omega) (by rw [tx_len]; omega))
  rw [this]
  have e : ((j : Int) - i).toNat = j - i := by omega
  rw [e]; rfl
theorem slice_from_tx {l : List Nat} {i : Nat} (h' : i ≤ l.length) : Txt.slice (tx l) (some (i : Int)) none = tx (l.drop i) := by
  have := slice_from_eq (x := tx l) (i := (i : Int)) (b := (l.length : Nat)) (by omega) (by rw [tx_len]; omega) (by rw [tx_len])
  rw [this]
  have e : ((l.length : Int) - i).toNat = l.length - i := by omega
  rw [e]
  show (⟨⟨(l.drop i).take (l.length - i)⟩⟩ : Str) = _
  rw [List.take_of_length_le (by rw [List.length_drop]; exact Nat.le_refl _)]; rfl
theorem occ_tx (l : List Nat) (c : Nat) : (Builtin.Str.occurrences (tx l) ⟨#[c]⟩ 0 (tx l).length 1).isEmpty = !decide (c ∈ l) := empty_one (tx l) c

/-- steps -/
theorem bind_to {α β : Type} {m : PM α} {f : α → PM β} {st st1 : PS} {a : α} {r : Option (β × PS)} (h : m st = some (a, st1)) (k : f a st1 = r) : pbind m f st = r := by
  unfold pbind; rw [h]; exact k
theorem bind_at {α β : Type} {m : PM α} {f : α → PM β} {st : PS} {a : α} {r : Option (β × PS)} (h : m st = some (a, st)) (k : f a st = r) : pbind m f st = r := bind_to h k
theorem seq_to {a b : PM PF} {st st1 : PS} {r : Option (PF × PS)} (h : a st = some (.next, st1)) (k : b st1 = r) : pSeq a b st = r := bind_to h k
theorem seq_ret {a b : PM PF} {st st1 : PS} {e : EV} (h : a st = some (.ret e, st1)) : pSeq a b st = some (.ret e, st1) := bind_to h rfl
theorem asg_to {p : PM EV} {i : Nat} {st st1 : PS} {e : EV} (h : p st = some (e, st1)) (hi : i < st1.loc.length) : pAsg i p st = some (.next, setL i e st1) :=
  bind_to h (bind_to (a := ()) (by unfold pStore; rw [if_pos hi]) rfl)
theorem asg_at {p : PM EV} {i : Nat} {st : PS} {e : EV} (h : p st = some (e, st)) (hi : (i + 1).ble st.loc.length = true) : pAsg i p st = some (.next, setL i e st) := asg_to h (Nat.le_of_ble_eq_true hi)
theorem if_t {α : Type} {c : PM Bool} {x y : PM α} {st st1 : PS} {r : Option (α × PS)} (h : c st = some (true, st1)) (k : x st1 = r) : pIf c x y st = r := bind_to h k
theorem if_f {α : Type} {c : PM Bool} {x y : PM α} {st st1 : PS} {r : Option (α × PS)} (h : c st = some (false, st1)) (k : y st1 = r) : pIf c x y st = r := bind_to h k

theorem ift {α : Type} {c : PM Bool} {x y : PM α} {st : PS} {r : Option (α × PS)} (h : c st = some (true, st)) (k : x st = r) : pIf c x y st = r := bind_to h k
theorem iff_ {α : Type} {c : PM Bool} {x y : PM α} {st : PS} {r : Option (α × PS)} (h : c st = some (false, st)) (k : y st = r) : pIf c x y st = r := bind_to h k

/-- a letter: its sign, its number in the table, whether it stands behind a backslash -/
structure Lt where
  c : Nat
  v : Int
  dn : Bool
noncomputable def Lt.Ok (a : Lt) : Prop := (a.c, a.v) ∈ exactTab
noncomputable def uL (a : Lt) : List Nat := if a.dn = true then [92, a.c] else [a.c]
noncomputable def ld (a : Lt) : Int := if a.dn = true then -a.v else a.v
noncomputable def ltP' (a : Lt) : PV := .tup [.str (tx (uL a)), .int (ld a)]
noncomputable def wL (w : List Lt) : List Nat := w.flatMap uL
theorem exact_facts : ∀ p ∈ exactTab, p.1 ≠ 34 ∧ p.1 ≠ 92 ∧ exactTab.lookup p.1 = some p.2 ∧ 7 ≤ p.2 ∧ p.2 ≤ 54 := by decide
namespace Lt.Ok
variable {a b : Lt}
theorem nq (h : a.Ok) : a.c ≠ 34 := (exact_facts _ h).1
theorem nb (h : a.Ok) : a.c ≠ 92 := (exact_facts _ h).2.1
theorem look (h : a.Ok) : exactTab.lookup a.c = some a.v := (exact_facts _ h).2.2.1
theorem lo (h : a.Ok) : 7 ≤ a.v := (exact_facts _ h).2.2.2.1
theorem hi (h : a.Ok) : a.v ≤ 54 := (exact_facts _ h).2.2.2.2
theorem ext (h : a.Ok) (k : b.Ok) (e : a.c = b.c) (f : a.dn = b.dn) : a = b := by
  have h1 := h.look
  rw [e, k.look] at h1
  cases a; cases b
  simp at e f h1
  simp [e, f, h1]
end Lt.Ok
theorem uL_pos (a : Lt) : 1 ≤ (uL a).length ∧ (uL a).length ≤ 2 := by unfold uL; split <;> simp
theorem wL_cons (a : Lt) (w : List Lt) : wL (a :: w) = uL a ++ wL w := rfl
theorem wL_app (v w : List Lt) : wL (v ++ w) = wL v ++ wL w := by unfold wL; simp
theorem wL_len : ∀ w : List Lt, w.length ≤ (wL w).length ∧ (wL w).length ≤ 2 * w.length
  | [] => by simp [wL]
  | a :: w => by
    have h := uL_pos a
    have k := wL_len w
    rw [wL_cons, List.length_append, List.length_cons]; omega
theorem wL_inj : ∀ {v w : List Lt}, (∀ a ∈ v, a.Ok) → (∀ a ∈ w, a.Ok) → wL v = wL w → v = w
  | [], [], _, _, _ => rfl
  | [], b :: w, _, _, h => by
    have h1 := uL_pos b
    have h2 : 0 = (wL (b :: w)).length := congrArg List.length h
    rw [wL_cons, List.length_append] at h2
    omega
  | a :: v, [], _, _, h => by
    have h1 := uL_pos a
    have h2 : (wL (a :: v)).length = 0 := congrArg List.length h
    rw [wL_cons, List.length_append] at h2
    omega
  | a :: v, b :: w, hv, hw, h => by
    have ha := hv a (.head _)
    have hb := hw b (.head _)
    have hv' := fun x hx => hv x (.tail _ hx)
    have hw' := fun x hx => hw x (.tail _ hx)
    rw [wL_cons, wL_cons] at h
    unfold uL at h
    have na := ha.nb
    have nb := hb.nb
    by_cases da : a.dn = true <;> by_cases db : b.dn = true <;> simp [da, db] at h
    · rw [ha.ext hb h.1 (by rw [da, db]), wL_inj hv' hw' h.2]
    · exact absurd h.1.symm nb
    · exact absurd h.1 na
    · rw [ha.ext hb h.1 (by simp at da db; rw [da, db]), wL_inj hv' hw' h.2]
theorem wL_nq {w : List Lt} (h : ∀ a ∈ w, a.Ok) : 34 ∉ wL w := by
  intro m
  obtain ⟨a, ha, m⟩ := List.mem_flatMap.mp m
  have k := (h a ha).nq
  unfold uL at m
  split at m
  · simp at m; exact k m.symm
  · simp at m; exact k m.symm
end Mine
end

section
open PySem PySem.W PyProof.Rows PySem.Calls
set_option maxRecDepth 10000
namespace Mine
noncomputable def Sm (n : Int) : Prop := 0 ≤ n ∧ n < 1000000
theorem sm_mod (x : Int) : Sm (x.fmod 1000000) := ⟨Int.fmod_nonneg_of_pos _ (by omega), Int.fmod_lt_of_pos _ (by omega)⟩
theorem modI_pos {a b : Int} (h : 0 < b) : modI a b = some (a.fmod b) := if_neg (by omega)
theorem divI_pos {a b : Int} (h : 0 < b) (h' : b < 1000) : divI a b = some (a.fdiv b) := by
  refine if_neg ?_
  rintro (h1 | h1)
  · omega
  · rw [PyProof.noPylong_small (by omega)] at h1; cases h1
theorem mulI_small {a b : Int} (h : a.natAbs < 2 ^ 60) : mulI a b = some (a * b) := if_pos h
noncomputable def c1 : PM EV := pBin (intP modI) (pInt (pLoad 0)) (pBin (intP powI) (pRet (.v (.int 10))) (pRet (.v (.int 6))))
theorem comp1_loop : ∀ (xs : List Int) (o : Option EV), ∃ st', compLoop (fun v => pStore 0 (.v v)) (pRet true) c1 (xs.map .int) ⟨[o], []⟩ = some (xs.map fun x => .int (x.fmod 1000000), st')
  | [], o => ⟨_, rfl⟩
  | x :: xs, o => by
    obtain ⟨st', h⟩ := comp1_loop xs (some (.v (.int x)))
    refine ⟨st', ?_⟩
    refine bind_to (a := ()) (st1 := ⟨[some (.v (.int x))], []⟩) rfl (bind_to (a := true) rfl ?_)
    refine bind_to (a := .v (.int (x.fmod 1000000))) (st1 := ⟨[some (.v (.int x))], []⟩) rfl ?_
    exact bind_to h rfl
theorem sl_to {xs : List PV} {st : PS} {k : Int} (hk : 0 ≤ k) (hl : xs.length ≤ 1000) : sliceP (.v (.lst xs)) (.v .none) (.v (.int k)) st = some (.v (.lst (xs.take k.toNat)), st) := if_pos ⟨hk, hl⟩
theorem sl_from {xs : List PV} {st : PS} {k : Int} (hk : 0 ≤ k) (hl : xs.length ≤ 1000) : sliceP (.v (.lst xs)) (.v (.int k)) (.v .none) st = some (.v (.lst (xs.drop k.toNat)), st) := if_pos ⟨hk, hl⟩
noncomputable def asg2 : PM EV := (pBin addP (pLoad 1) (pSlice (pLst [(pRet (.v (.int 3))), (pRet (.v (.int 73))), (pRet (.v (.int 5))), (pRet (.v (.int 0)))]) (some (pLen (pLoad 1))) none))
theorem drawn_a (il : List Int) (h : il.length ≤ 63) : drawn_comp1 (st0 10 [.lst (il.map .int)]) = some (.v (.lst ((il.take 4).map fun x => .int (x.fmod 1000000))), st0 10 [.lst (il.map .int)]) := by
  unfold drawn_comp1 pComp
  refine bind_to (a := (il.take 4).map .int) (st1 := st0 10 [.lst (il.map .int)]) ?_ ?_
  · unfold pIter
    refine bind_to (a := .v (.lst ((il.take 4).map .int))) (st1 := st0 10 [.lst (il.map .int)]) ?_ rfl
    refine bind_to rfl (bind_to rfl (bind_to rfl ?_))
    rw [List.map_take]
    exact sl_to (by omega) (by rw [List.length_map]; omega)
  · obtain ⟨st', e⟩ := comp1_loop (il.take 4) none
    have hl : ((il.take 4).map PV.int).length ≤ 1000 := by rw [List.length_map, List.length_take]; omega
    rw [if_pos hl]
    show (match compLoop (fun v => pStore 0 (.v v)) (pRet true) c1 ((il.take 4).map .int) ⟨[none], []⟩ with
      | some (ys, _) => some (EV.v (.lst ys), st0 10 [.lst (il.map .int)])
      | none => none) = _
    rw [e]
theorem drawn_b (s : PV) (xs : List Int) (h : xs.length ≤ 4) : ∃ n0 n1 n2 n3, ((∀ x ∈ xs, Sm x) → Sm n0 ∧ Sm n1 ∧ Sm n2 ∧ Sm n3) ∧
    asg2 ⟨[some (.v s), some (.v (.lst (xs.map .int))), none, none, none, none, none, none, none, none], []⟩ = some (.v (.lst [.int n0, .int n1, .int n2, .int n3]), ⟨[some (.v s), some (.v (.lst (xs.map .int))), none, none, none, none, none, none, none, none], []⟩) := by
  rcases xs with _ | ⟨a, _ | ⟨b, _ | ⟨c, _ | ⟨d, _ | ⟨e, r⟩⟩⟩⟩⟩
  · refine ⟨3, 73, 5, 0, fun _ => ?_, rfl⟩
    unfold Sm; omega
  · refine ⟨a, 73, 5, 0, fun k => ?_, rfl⟩
    have := k a (by simp)
    unfold Sm at *; omega
  · refine ⟨a, b, 5, 0, fun k => ?_, rfl⟩
    have := k a (by simp)
    have := k b (by simp)
    unfold Sm at *; omega
  · refine ⟨a, b, c, 0, fun k => ?_, rfl⟩
    have := k a (by simp)
    have := k b (by simp)
    have := k c (by simp)
    unfold Sm at *; omega
  · refine ⟨a, b, c, d, fun k => ⟨k a (by simp), k b (by simp), k c (by simp), k d (by simp)⟩, rfl⟩
  · simp at h
end Mine
end

section
open PySem PySem.W PyProof.Rows PySem.Calls
set_option maxRecDepth 10000
namespace Mine
theorem int_to {f : Int → Int → Option Int} {pl pr : PM EV} {st : PS} {a b c : Int} (hl : pl st = some (.v (.int a), st)) (hr : pr st = some (.v (.int b), st)) (h : f a b = some c) : pBin (intP f) pl pr st = some (.v (.int c), st) := by
  refine bind_to hl (bind_to hr ?_)
  show (f a b).map _ = _
  rw [h]; rfl
theorem addI_to {pl pr : PM EV} {st : PS} {a b : Int} (hl : pl st = some (.v (.int a), st)) (hr : pr st = some (.v (.int b), st)) : pBin addP pl pr st = some (.v (.int (a + b)), st) :=
  bind_to hl (bind_to hr rfl)
theorem mulI_to {pl pr : PM EV} {st : PS} {a b : Int} (hl : pl st = some (.v (.int a), st)) (hr : pr st = some (.v (.int b), st)) (h : a.natAbs < 2 ^ 60) : pBin mulP pl pr st = some (.v (.int (a * b)), st) := by
  refine bind_to hl (bind_to hr ?_)
  show (mulI a b).map _ = _
  rw [mulI_small h]; rfl
theorem seqIndex_pos {k : Int} {n : Nat} (h : 0 ≤ k) (h' : k < n) : seqIndex? k n = some k.toNat := by
  have e : ¬ k < 0 := by omega
  simp [seqIndex?, e, h, h']
theorem ops_eq : ("()[]:,;+-*/|&<>=.%{}~^@!" : Str) = tx (exactTab.map (·.1)) := rfl
noncomputable def loadsL : List PV := exactTab.map fun p => .int p.2
theorem loads_to (st : PS) : (pBin addP (pListRange 7 27) (pLst [(pRet (.v (.int 31))), (pRet (.v (.int 32))), (pRet (.v (.int 49))), (pRet (.v (.int 54)))])) st = some (.v (.lst loadsL), st) := rfl
theorem subL_to {xs : List PV} {k : Int} {v : PV} {st : PS} (h : 0 ≤ k) (h' : k < 1000) (e : xs[k.toNat]? = some v) : subP (.v (.lst xs)) (.v (.int k)) st = some (.v v, st) := by
  show (if 0 ≤ k ∧ okIdx k then (xs[k.toNat]?).map fun v => (EV.v v, st) else none) = _
  rw [if_pos ⟨h, by omega, by omega⟩, e]; rfl
theorem subS_to {l : List Nat} {k : Int} {c : Nat} {st : PS} (h : 0 ≤ k) (h' : k < 1000) (e : l[k.toNat]? = some c) : subP (.v (.str (tx l))) (.v (.int k)) st = some (.v (.str (tx [c])), st) := by
  show (if okIdx k then ((seqIndex? k (tx l).length).bind fun i => (tx l).cps[i]?).map fun c => (EV.v (.str ⟨#[c]⟩), st) else none) = _
  have hl : k.toNat < l.length := (List.getElem?_eq_some_iff.mp e).1
  rw [if_pos ⟨by omega, by omega⟩, seqIndex_pos h (by rw [tx_len]; omega)]
  show ((l.toArray)[k.toNat]?).map _ = _
  rw [List.getElem?_toArray, e]; rfl
noncomputable def dSt (s nums : Option EV) (ks : List PV) (x4 x5 x6 x7 : Option EV) : PS := ⟨[s, nums, some (.v (.lst loadsL)), some (.m 0), x4, x5, x6, x7, none, none], [some (.list ks)]⟩
theorem drawn_turn {s nums : Option EV} {ks : List PV} {t n : Int} {x6 x7 : Option EV} (h : Sm n) (h0 : 0 ≤ t) (h1 : t < 3) (hk : ks.length ≤ 3) :
    ∃ a : Lt, a.Ok ∧ ∃ y6 y7, drawn_blk2 (dSt s nums ks (some (.v (.int t))) (some (.v (.int n))) x6 x7) = some (.next, dSt s nums (ks ++ [ltP' a]) (some (.v (.int t))) (some (.v (.int n))) y6 y7) := by
  have q0 : 0 ≤ (n.fdiv 3 + 8 + t).fmod 24 := Int.fmod_nonneg_of_pos _ (by omega)
  have q1 : (n.fdiv 3 + 8 + t).fmod 24 < 24 := Int.fmod_lt_of_pos _ (by omega)
  have r0 : 0 ≤ (n.fdiv 72).fmod 2 := Int.fmod_nonneg_of_pos _ (by omega)
  have r1 : (n.fdiv 72).fmod 2 < 2 := Int.fmod_lt_of_pos _ (by omega)
  generalize hq : (n.fdiv 3 + 8 + t).fmod 24 = q at q0 q1
  generalize hr : (n.fdiv 72).fmod 2 = r at r0 r1
  have hl : q.toNat < exactTab.length := by show q.toNat < 24; omega
  have hp : exactTab[q.toNat] ∈ exactTab := List.getElem_mem hl
  have e : exactTab[q.toNat]? = some exactTab[q.toNat] := List.getElem?_eq_getElem hl
  generalize exactTab[q.toNat] = p at hp e
  have e1 : (exactTab.map (·.1))[q.toNat]? = some p.1 := by rw [List.getElem?_map, e]; rfl
  have e2 : loadsL[q.toNat]? = some (.int p.2) := by unfold loadsL; rw [List.getElem?_map, e]; rfl
  have pf := exact_facts p hp
  have a1 : (pAsg 6 (pBin (intP modI) (pBin addP (pBin addP (pBin (intP divI) (pLoad 5) (pRet (.v (.int 3)))) (pRet (.v (.int 8)))) (pLoad 4)) (pRet (.v (.int 24))))) (dSt s nums ks (some (.v (.int t))) (some (.v (.int n))) x6 x7) = some (.next, dSt s nums ks (some (.v (.int t))) (some (.v (.int n))) (some (.v (.int q))) x7) :=
    asg_to (int_to (a := n.fdiv 3 + 8 + t) (b := 24) (addI_to (addI_to (int_to rfl rfl (divI_pos (by omega) (by omega))) rfl) rfl) rfl ((modI_pos (by omega)).trans (by rw [hq]))) (by show 6 < 10; decide)
  have a2 : (pAsg 7 (pBin (intP modI) (pBin (intP divI) (pLoad 5) (pRet (.v (.int 72)))) (pRet (.v (.int 2))))) (dSt s nums ks (some (.v (.int t))) (some (.v (.int n))) (some (.v (.int q))) x7) = some (.next, dSt s nums ks (some (.v (.int t))) (some (.v (.int n))) (some (.v (.int q))) (some (.v (.int r)))) :=
    asg_to (int_to (a := n.fdiv 72) (b := 2) (int_to rfl rfl (divI_pos (by omega) (by omega))) rfl ((modI_pos (by omega)).trans (by rw [hr]))) (by show 7 < 10; decide)
  refine ⟨⟨p.1, p.2, decide (r = 1)⟩, hp, some (.v (.int q)), some (.v (.int r)), ?_⟩
  refine seq_to a1 (seq_to a2 (seq_to ?_ rfl))
  refine bind_to (a := ()) (st1 := dSt s nums (ks ++ [ltP' ⟨p.1, p.2, decide (r = 1)⟩]) (some (.v (.int t))) (some (.v (.int n))) (some (.v (.int q))) (some (.v (.int r)))) ?_ rfl
  refine bind_to (a := .m 0) (st1 := dSt s nums ks (some (.v (.int t))) (some (.v (.int n))) (some (.v (.int q))) (some (.v (.int r)))) rfl ?_
  refine bind_to (a := 0) (st1 := dSt s nums ks (some (.v (.int t))) (some (.v (.int n))) (some (.v (.int q))) (some (.v (.int r)))) rfl ?_
  refine bind_to (a := .v (ltP' ⟨p.1, p.2, decide (r = 1)⟩)) (st1 := dSt s nums ks (some (.v (.int t))) (some (.v (.int n))) (some (.v (.int q))) (some (.v (.int r)))) ?_ ?_
  · have b1 : (pBin subP (pRet (.v (.str "()[]:,;+-*/|&<>=.%{}~^@!"))) (pLoad 6)) (dSt s nums ks (some (.v (.int t))) (some (.v (.int n))) (some (.v (.int q))) (some (.v (.int r)))) = some (.v (.str (tx [p.1])), dSt s nums ks (some (.v (.int t))) (some (.v (.int n))) (some (.v (.int q))) (some (.v (.int r)))) := by
      rw [ops_eq]
      exact bind_to rfl (bind_to rfl (subS_to q0 (by omega) e1))
    have b2 : (pBin subP (pLoad 2) (pLoad 6)) (dSt s nums ks (some (.v (.int t))) (some (.v (.int n))) (some (.v (.int q))) (some (.v (.int r)))) = some (.v (.int p.2), dSt s nums ks (some (.v (.int t))) (some (.v (.int n))) (some (.v (.int q))) (some (.v (.int r)))) :=
      bind_to rfl (bind_to rfl (subL_to q0 (by omega) e2))
    have b3 := mulI_to b2 (int_to (f := subI) (a := 1) (b := 2 * r) (pl := pRet (.v (.int 1))) (pr := (pBin mulP (pRet (.v (.int 2))) (pLoad 7))) rfl (mulI_to rfl rfl (by decide)) rfl) (by omega)
    have hr2 : r = 0 ∨ r = 1 := by omega
    refine bind_to (a := [.str (tx (uL ⟨p.1, p.2, decide (r = 1)⟩)), .int (ld ⟨p.1, p.2, decide (r = 1)⟩)]) (st1 := dSt s nums ks (some (.v (.int t))) (some (.v (.int n))) (some (.v (.int q))) (some (.v (.int r)))) ?_ rfl
    refine bind_to (a := .v (.str (tx (uL ⟨p.1, p.2, decide (r = 1)⟩)))) (st1 := dSt s nums ks (some (.v (.int t))) (some (.v (.int n))) (some (.v (.int q))) (some (.v (.int r)))) ?_ ?_
    · rcases hr2 with rfl | rfl
      · exact bind_to (a := .v (.str Str.empty)) (st1 := dSt s nums ks (some (.v (.int t))) (some (.v (.int n))) (some (.v (.int q))) (some (.v (.int 0)))) rfl (bind_to b1 rfl)
      · exact bind_to (a := .v (.str (tx [92]))) (st1 := dSt s nums ks (some (.v (.int t))) (some (.v (.int n))) (some (.v (.int q))) (some (.v (.int 1)))) rfl (bind_to b1 rfl)
    · refine bind_to (a := [.int (ld ⟨p.1, p.2, decide (r = 1)⟩)]) (st1 := dSt s nums ks (some (.v (.int t))) (some (.v (.int n))) (some (.v (.int q))) (some (.v (.int r)))) ?_ rfl
      refine bind_to (a := .v (.int (ld ⟨p.1, p.2, decide (r = 1)⟩))) (b3.trans ?_) rfl
      rcases hr2 with rfl | rfl
      · rw [show p.2 * (1 - 2 * 0) = ld ⟨p.1, p.2, decide ((0 : Int) = 1)⟩ by simp [ld]]
      · rw [show p.2 * (1 - 2 * 1) = ld ⟨p.1, p.2, decide ((1 : Int) = 1)⟩ by simp [ld]]
  · show (if ks.length ≤ 1000 then some ((), _) else none) = _
    rw [if_pos (by omega)]; rfl
end Mine
end

section
open PySem PySem.W PyProof.Rows PySem.Calls
set_option maxRecDepth 10000
namespace Mine
theorem for_cons {asg : PV → PM Unit} {body : PM PF} {x : PV} {xs : List PV} {st st1 st2 : PS} (h1 : asg x st = some ((), st1)) (h2 : body st1 = some (.next, st2)) : pFor asg body (x :: xs) st = pFor asg body xs st2 :=
  bind_to h1 (seq_to h2 rfl)
noncomputable def itm (p : Nat) (a : Lt) : PV := .tup [.int (p : Nat), .str (tx (uL a))]
noncomputable def items : List Lt → Nat → List PV
  | [], _ => []
  | a :: w, p => itm (p + (uL a).length - 1) a :: items w (p + (uL a).length)
theorem esc_items : ∀ (w : List Lt) (_ : ∀ a ∈ w, a.Ok) (rest : List Nat) (p : Nat), escP (wL w ++ rest) p false = (escP rest (p + (wL w).length) false).map (items w p ++ ·)
  | [], _, rest, p => by
    show escP rest p false = (escP rest p false).map (fun x => x)
    rw [Option.map_id']
  | a :: w, h, rest, p => by
    have hb := (h a (.head _)).nb
    have ih := esc_items w (fun x hx => h x (.tail _ hx)) rest (p + (uL a).length)
    rw [wL_cons, List.append_assoc, List.length_append, ← Nat.add_assoc]
    unfold items itm
    unfold uL at ih ⊢
    cases hd : a.dn with
    | true =>
      rw [hd] at ih
      show (escP (wL w ++ rest) (p + 2) false).map _ = _
      rw [show p + 2 = p + ([92, a.c] : List Nat).length from rfl]
      refine (congrArg _ ih).trans ?_
      rw [Option.map_map]; rfl
    | false =>
      rw [hd] at ih
      show (if a.c = 92 then _ else (escP (wL w ++ rest) (p + 1) false).map _) = _
      rw [if_neg hb]
      refine (congrArg _ ih).trans ?_
      rw [Option.map_map]; rfl
/-- the state of the loop in _strip_quoted_realnames -/
noncomputable def sSt (T : List Nat) (start op : PV) (res : List PV) (x4 x5 : Option EV) : PS := ⟨[some (.v (.str (tx T))), some (.v start), some (.v op), some (.m 0), x4, x5], [some (.list res)]⟩
noncomputable def sAsg : PV → PM Unit := pT2 (fun v => pStore 4 (.v v)) (fun v => pStore 5 (.v v))
theorem strip_skip {T s : List Nat} {start op : PV} {res xs : List PV} {x4 x5 : Option EV} {i : Int} (h : s ≠ [34]) :
    pFor sAsg strip_blk6 (.tup [.int i, .str (tx s)] :: xs) (sSt T start op res x4 x5) = pFor sAsg strip_blk6 xs (sSt T start op res (some (.v (.int i))) (some (.v (.str (tx s))))) := by
  refine for_cons (st1 := sSt T start op res (some (.v (.int i))) (some (.v (.str (tx s))))) rfl (seq_to (iff_ ?_ rfl) rfl)
  show some (tx s == tx [34], _) = _
  rw [beq_eq_false_iff_ne.mpr fun e => h (tx_inj e)]
theorem strip_items {T : List Nat} {start op : PV} {res xs : List PV} : ∀ (w : List Lt) (p : Nat) (_ : ∀ a ∈ w, a.Ok) (x4 x5 : Option EV), ∃ y4 y5, pFor sAsg strip_blk6 (items w p ++ xs) (sSt T start op res x4 x5) = pFor sAsg strip_blk6 xs (sSt T start op res y4 y5)
  | [], _, _, x4, x5 => ⟨x4, x5, rfl⟩
  | a :: w, p, h, x4, x5 => by
    obtain ⟨y4, y5, ih⟩ := strip_items w (p + (uL a).length) (fun x hx => h x (.tail _ hx)) (some (.v (.int (p + (uL a).length - 1 : Nat)))) (some (.v (.str (tx (uL a)))))
    refine ⟨y4, y5, (strip_skip ?_).trans ih⟩
    have hq := (h a (.head _)).nq
    unfold uL
    split
    · intro e; cases e
    · intro e; injection e with e; exact hq e
theorem strip_open {T : List Nat} {start : PV} {res xs : List PV} {x4 x5 : Option EV} {i : Int} :
    pFor sAsg strip_blk6 (.tup [.int i, .str (tx [34])] :: xs) (sSt T start .none res x4 x5) = pFor sAsg strip_blk6 xs (sSt T start (.int i) res (some (.v (.int i))) (some (.v (.str (tx [34]))))) :=
  for_cons (st1 := sSt T start .none res (some (.v (.int i))) (some (.v (.str (tx [34]))))) rfl rfl
theorem strip_app {T : List Nat} {start op : PV} {res : List PV} {x4 x5 : Option EV} {pe : PM EV} {s : Str} (hr : res.length ≤ 1000) (h : pe (sSt T start op res x4 x5) = some (.v (.str s), sSt T start op res x4 x5)) :
    (pSeq (pExpr (pAppend (pLoad 3) pe)) pNext) (sSt T start op res x4 x5) = some (.next, sSt T start op (res ++ [.str s]) x4 x5) := by
  refine seq_to (bind_to (a := ()) (bind_at rfl (bind_at (a := 0) rfl (bind_at h ?_))) rfl) rfl
  exact if_pos hr
theorem strip_shut {T : List Nat} {xs : List PV} {x4 x5 : Option EV} {p q : Nat} (h0 : 0 < p) (h1 : p ≤ T.length) (h2 : T.length ≤ 1000) :
    pFor sAsg strip_blk6 (.tup [.int q, .str (tx [34])] :: xs) (sSt T (.int 0) (.int p) [] x4 x5) = pFor sAsg strip_blk6 xs (sSt T (.int (q + 1)) .none [.str (tx (T.take p))] (some (.v (.int q))) (some (.v (.str (tx [34]))))) := by
  have e1 : (sAsg (.tup [.int q, .str (tx [34])])) (sSt T (.int 0) (.int p) [] x4 x5) = some ((), sSt T (.int 0) (.int p) [] (some (.v (.int q))) (some (.v (.str (tx [34]))))) := rfl
  refine for_cons e1 (st2 := sSt T (.int (q + 1)) .none [.str (tx (T.take p))] (some (.v (.int q))) (some (.v (.str (tx [34]))))) ?_
  refine seq_to (ift rfl (seq_to (iff_ rfl (seq_to (ift ?_ (strip_app (Nat.zero_le _) ?_)) rfl)) rfl)) rfl
  · show some ((0 : Int) != p, _) = _
    rw [show ((0 : Int) != p) = true from bne_iff_ne.mpr (by omega)]
  · refine bind_at rfl (bind_at rfl (bind_at rfl ?_))
    show (if (tx T).length ≤ 1000 then some (EV.v (.str (Txt.slice (tx T) (some ((0 : Nat) : Int)) (some (p : Int)))), _) else none) = _
    rw [if_pos (show (tx T).length ≤ 1000 from h2), slice_tx (Nat.zero_le _) h1]; rfl
theorem strip_rest {u v : List Lt} {R T : List Nat} {x4 x5 : Option EV} (hv : 0 < v.length) (hT : T = wL u ++ R ++ wL v) (hl : T.length ≤ 1000) : ∃ st',
    (pSeq (pIf (pCmp ltP (pLoad 1) (pLen (pLoad 0))) strip_blk7 pNext) (pSeq (pReturn (pJoin "" (pLoad 3))) pNext)) (sSt T (.int ((wL u ++ R).length : Nat)) .none [.str (tx (wL u))] x4 x5) =
      some (.ret (.v (.str (tx (wL u ++ wL v)))), st') := by
  have hk := (wL_len v).1
  have hlt : (wL u ++ R).length < T.length := by rw [hT, List.length_append (bs := wL v)]; omega
  refine ⟨sSt T (.int ((wL u ++ R).length : Nat)) .none ([.str (tx (wL u))] ++ [.str (tx (wL v))]) x4 x5, seq_to (ift ?_ (strip_app (s := tx (wL v)) (Nat.le_of_ble_eq_true rfl) ?_)) (seq_ret ?_)⟩
  · refine bind_at rfl (bind_at (a := .v (.int (T.length : Nat))) (bind_at rfl ?_) ?_)
    · show (if (tx T).length ≤ 1000000 then some ((tx T).length : Int) else none).map _ = _
      rw [if_pos (by rw [tx_len]; omega)]; rfl
    · show some (decide (((wL u ++ R).length : Int) < (T.length : Int)), _) = _
      rw [decide_eq_true (by omega)]
  · refine bind_at rfl (bind_at rfl (bind_at rfl ?_))
    show (if (tx T).length ≤ 1000 then some (EV.v (.str (Txt.slice (tx T) (some (((wL u ++ R).length : Nat) : Int)) none)), _) else none) = _
    rw [if_pos (show (tx T).length ≤ 1000 from hl), slice_from_tx (by omega), hT, List.drop_left]
  · refine bind_at (a := .v (.str (tx (wL u ++ wL v)))) (bind_at rfl ?_) rfl
    have hs : (wL u).length + (wL v).length ≤ 1000 := by
      have := congrArg List.length hT
      rw [List.length_append, List.length_append] at this; omega
    show ((if ([tx (wL u), tx (wL v)].map (·.length)).sum + 2 * 0 ≤ 1000000 then some (Txt.join "" [tx (wL u), tx (wL v)]) else none).map _) = _
    rw [if_pos (by show (wL u).length + ((wL v).length + 0) + 2 * 0 ≤ 1000000; omega), show [tx (wL u), tx (wL v)] = [wL u, wL v].map tx from rfl, join_tx]
    show some (EV.v (.str (tx (wL u ++ (wL v ++ [])))), _) = _
    rw [List.append_nil]
end Mine
end

section
open PySem PySem.W PyProof.Rows PySem.Calls
set_option maxRecDepth 10000
namespace Mine
theorem run_to {n : Nat} {pb : PM PF} {xs : List PV} {r : PV} {st' : PS} (h : pb (st0 n xs) = some (.ret (.v r), st')) : runBody n pb xs = some r := by unfold runBody; rw [h]
noncomputable def Rider (R : List Nat) : Prop := R = [] ∨ R = [34, 43, 34] ∨ R = [34, 92, 34, 40, 34]
theorem Rider.len {R : List Nat} (h : Rider R) : R.length ≤ 5 := by rcases h with rfl | rfl | rfl <;> decide
theorem esc_word (w : List Lt) (h : ∀ a ∈ w, a.Ok) (p : Nat) : escP (wL w) p false = some (items w p) := by
  have := esc_items w h [] p
  rw [List.append_nil] at this
  rw [this]
  show some (items w p ++ []) = _
  rw [List.append_nil]
noncomputable def midV (x : Nat × List Nat) : PV := .tup [.int (x.1 : Nat), .str (tx x.2)]
theorem esc_rider {v : List Lt} (h : ∀ a ∈ v, a.Ok) {R : List Nat} (hR : Rider R) (hne : R ≠ []) (p : Nat) : ∃ (ms : List (Nat × List Nat)) (q : Nat), (∀ x ∈ ms, x.2 ≠ [34]) ∧ p + R.length = q + 1 ∧
    escP (R ++ wL v) p false = some (.tup [.int (p : Nat), .str (tx [34])] :: (ms.map midV ++ .tup [.int (q : Nat), .str (tx [34])] :: items v (q + 1))) := by
  rcases hR with rfl | rfl | rfl
  · exact absurd rfl hne
  · refine ⟨[(p + 1, [43])], p + 2, by simp, rfl, ?_⟩
    show Option.map _ (Option.map _ (Option.map _ (escP (wL v) (p + 3) false))) = _
    rw [esc_word v h]; rfl
  · refine ⟨[(p + 2, [92, 34]), (p + 3, [40])], p + 4, by simp, rfl, ?_⟩
    show Option.map _ (Option.map _ (Option.map _ (Option.map _ (escP (wL v) (p + 5) false)))) = _
    rw [esc_word v h]; rfl
theorem strip_mids {T : List Nat} {start op : PV} {res xs : List PV} : ∀ (ms : List (Nat × List Nat)) (_ : ∀ x ∈ ms, x.2 ≠ [34]) (x4 x5 : Option EV), ∃ y4 y5, pFor sAsg strip_blk6 (ms.map midV ++ xs) (sSt T start op res x4 x5) = pFor sAsg strip_blk6 xs (sSt T start op res y4 y5)
  | [], _, x4, x5 => ⟨x4, x5, rfl⟩
  | x :: ms, h, x4, x5 => by
    obtain ⟨y4, y5, ih⟩ := strip_mids ms (fun y hy => h y (.tail _ hy)) (some (.v (.int (x.1 : Nat)))) (some (.v (.str (tx x.2))))
    exact ⟨y4, y5, (strip_skip (h x (.head _))).trans ih⟩
theorem stripF_eq {u v : List Lt} {R : List Nat} (hu : ∀ a ∈ u, a.Ok) (hv : ∀ a ∈ v, a.Ok) (lu : 0 < u.length) (lu' : u.length ≤ 100) (lv : 0 < v.length) (lv' : v.length ≤ 100) (hR : Rider R) :
    stripF [.str (tx (wL u ++ R ++ wL v))] = some (.str (tx (wL u ++ wL v))) := by
  have ku := wL_len u
  have kv := wL_len v
  have kR := hR.len
  have hl : (wL u ++ R ++ wL v).length ≤ 1000 := by rw [List.length_append, List.length_append]; omega
  have t1 : (pCmp notInP (pRet (.v (.str "\""))) (pLoad 0)) (st0 6 [.str (tx (wL u ++ R ++ wL v))]) = some (!decide (34 ∈ wL u ++ R ++ wL v), st0 6 [.str (tx (wL u ++ R ++ wL v))]) :=
    congrArg (fun b => some (b, st0 6 [.str (tx (wL u ++ R ++ wL v))])) (occ_tx (wL u ++ R ++ wL v) 34)
  by_cases hne : R = []
  · subst hne
    refine run_to (st' := st0 6 [.str (tx (wL u ++ [] ++ wL v))]) (seq_ret (ift (t1.trans ?_) ?_))
    · have : ¬ 34 ∈ wL u ++ [] ++ wL v := fun m => by
        rw [List.append_nil] at m
        rcases List.mem_append.mp m with m | m
        · exact wL_nq hu m
        · exact wL_nq hv m
      rw [decide_eq_false this]; rfl
    · rw [List.append_nil]; rfl
  · obtain ⟨ms, q, hs, hq, he⟩ := esc_rider hv hR hne (wL u).length
    have e : escO (.v (.str (tx (wL u ++ R ++ wL v)))) = some (items u 0 ++ (.tup [.int ((wL u).length : Nat), .str (tx [34])] :: (ms.map midV ++ .tup [.int (q : Nat), .str (tx [34])] :: items v (q + 1)))) := by
      refine (if_pos hl).trans ?_
      show escP (wL u ++ R ++ wL v) 0 false = _
      rw [List.append_assoc, esc_items u hu, Nat.zero_add, he]; rfl
    have hT : (wL u ++ R ++ wL v).take (wL u).length = wL u := by rw [List.append_assoc, List.take_left]
    have hq' : ((q : Int) + 1) = ((wL u ++ R).length : Nat) := by rw [List.length_append]; omega
    have loop : ∃ x4 x5, pFor sAsg strip_blk6 (items u 0 ++ (.tup [.int ((wL u).length : Nat), .str (tx [34])] :: (ms.map midV ++ .tup [.int (q : Nat), .str (tx [34])] :: items v (q + 1)))) (sSt (wL u ++ R ++ wL v) (.int 0) .none [] none none) =
        some (.next, sSt (wL u ++ R ++ wL v) (.int ((wL u ++ R).length : Nat)) .none [.str (tx (wL u))] x4 x5) := by
      obtain ⟨y4, y5, e1⟩ := strip_items (T := wL u ++ R ++ wL v) (start := .int 0) (op := .none) (res := []) (xs := .tup [.int ((wL u).length : Nat), .str (tx [34])] :: (ms.map midV ++ .tup [.int (q : Nat), .str (tx [34])] :: items v (q + 1))) u 0 hu none none
      obtain ⟨m4, m5, e3⟩ := strip_mids (T := wL u ++ R ++ wL v) (start := .int 0) (op := .int ((wL u).length : Nat)) (res := []) (xs := .tup [.int (q : Nat), .str (tx [34])] :: items v (q + 1)) ms hs (some (.v (.int ((wL u).length : Nat)))) (some (.v (.str (tx [34]))))
      obtain ⟨z4, z5, e2⟩ := strip_items (T := wL u ++ R ++ wL v) (start := .int ((wL u ++ R).length : Nat)) (op := .none) (res := [.str (tx (wL u))]) (xs := []) v (q + 1) hv (some (.v (.int q))) (some (.v (.str (tx [34]))))
      rw [List.append_nil] at e2
      refine ⟨z4, z5, e1.trans (strip_open.trans (e3.trans ((strip_shut (by omega) (by rw [List.length_append, List.length_append]; omega) hl).trans ?_)))⟩
      rw [hT, hq']; exact e2
    obtain ⟨x4, x5, loop⟩ := loop
    obtain ⟨st', fin⟩ := strip_rest (x4 := x4) (x5 := x5) lv rfl hl
    refine run_to (st' := st') (seq_to (iff_ (t1.trans ?_) rfl) (seq_to (st1 := ⟨[some (.v (.str (tx (wL u ++ R ++ wL v)))), some (.v (.int 0)), none, none, none, none], []⟩) rfl (seq_to (st1 := ⟨[some (.v (.str (tx (wL u ++ R ++ wL v)))), some (.v (.int 0)), some (.v .none), none, none, none], []⟩) rfl (seq_to (st1 := sSt (wL u ++ R ++ wL v) (.int 0) .none [] none none) rfl (seq_to (bind_at rfl ?_) fin)))))
    · rw [decide_eq_true (List.mem_append_left _ (List.mem_append_right _ (by rcases hR with rfl | rfl | rfl <;> simp at hne ⊢)))]; rfl
    · show (match escO (.v (.str (tx (wL u ++ R ++ wL v)))) with | some ys => pFor sAsg strip_blk6 ys (sSt (wL u ++ R ++ wL v) (.int 0) .none [] none none) | none => none) = _
      rw [e]; exact loop
end Mine
end

section
set_option maxRecDepth 10000
namespace Mine
/-- the next level: round and round by m -/
theorem fmod_step {l y m : Int} (hm : 0 < m) (h0 : 0 ≤ l) (h1 : l < m) : (l ≤ (l + y).fmod m ∧ (l + y).fmod m = l + y.fmod m) ∨ ((l + y).fmod m < l ∧ (l + y).fmod m = l + y.fmod m - m) := by
  have x0 := Int.fmod_nonneg_of_pos y hm
  have x1 := Int.fmod_lt_of_pos y hm
  rw [show (l + y).fmod m = (l + y.fmod m).fmod m from (Int.add_fmod_fmod l y m).symm]
  generalize y.fmod m = x at x0 x1 ⊢
  by_cases h : l + x < m
  · rw [Int.fmod_eq_of_lt (Int.add_nonneg h0 x0) h]
    exact .inl ⟨by omega, rfl⟩
  · rw [← Int.sub_fmod_right, Int.fmod_eq_of_lt (a := l + x - m) (by omega) (by omega)]
    exact .inr ⟨by omega, rfl⟩

/-- sums of coefficients by variables, and their facts -/
noncomputable def ev (v : Nat → Int) : List (Int × Nat) → Int
  | [] => 0
  | (c, k) :: r => c * v k + ev v r
noncomputable def ins1 (c : Int) (k : Nat) : List (Int × Nat) → List (Int × Nat)
  | [] => [(c, k)]
  | (d, j) :: r => match k == j with
    | true => (c + d, j) :: r
    | false => (d, j) :: ins1 c k r
theorem ev_ins1 (v : Nat → Int) (c : Int) (k : Nat) : ∀ f, ev v (ins1 c k f) = c * v k + ev v f
  | [] => rfl
  | (d, j) :: r => by
    unfold ins1
    cases h : k == j with
    | true => rw [beq_iff_eq.mp h]; show (c + d) * v j + ev v r = _; rw [Int.add_mul, Int.add_assoc]; rfl
    | false => show d * v j + ev v (ins1 c k r) = c * v k + (d * v j + ev v r); rw [ev_ins1]; exact Int.add_left_comm _ _ _
noncomputable def insF (m : Int) (acc : List (Int × Nat)) : List (Int × Nat) → List (Int × Nat)
  | [] => acc
  | (c, k) :: r => ins1 (m * c) k (insF m acc r)
theorem ev_insF (v : Nat → Int) (m : Int) (acc : List (Int × Nat)) : ∀ f, ev v (insF m acc f) = m * ev v f + ev v acc
  | [] => by show ev v acc = m * 0 + ev v acc; rw [Int.mul_zero, Int.zero_add]
  | (c, k) :: r => by
    show ev v (ins1 (m * c) k (insF m acc r)) = m * (c * v k + ev v r) + ev v acc
    rw [ev_ins1, ev_insF, Int.mul_add, Int.mul_assoc, Int.add_assoc]
noncomputable def Fact (v : Nat → Int) (x : Bool × List (Int × Nat)) : Prop := match x.1 with
  | true => ev v x.2 = 0
  | false => 0 ≤ ev v x.2
noncomputable def sumUp (fs : List (Bool × List (Int × Nat))) : List (Int × Nat) → Option (List (Int × Nat))
  | [] => some []
  | (m, i) :: r => match fs[i]?, sumUp fs r with
    | some (b, f), some acc => match b || decide (0 ≤ m) with
      | true => some (insF m acc f)
      | false => none
    | _, _ => none
theorem sumUp_pos {v : Nat → Int} {fs : List (Bool × List (Int × Nat))} (h : ∀ x ∈ fs, Fact v x) : ∀ (c : List (Int × Nat)) {acc : List (Int × Nat)}, sumUp fs c = some acc → 0 ≤ ev v acc
  | [], _, e => by cases e; exact Int.le_refl 0
  | (m, i) :: r, acc, e => by
    unfold sumUp at e
    cases h1 : fs[i]? with
    | none => rw [h1] at e; cases e
    | some x =>
      cases h2 : sumUp fs r with
      | none => rw [h1, h2] at e; cases e
      | some a =>
        obtain ⟨b, f⟩ := x
        rw [h1, h2] at e
        have k := sumUp_pos h r h2
        have hx := h _ (List.mem_of_getElem? h1)
        cases b with
        | true =>
          cases e
          rw [ev_insF, show ev v f = 0 from hx, Int.mul_zero, Int.zero_add]; exact k
        | false =>
          cases hm : decide (0 ≤ m) with
          | false => simp only [hm] at e; cases e
          | true =>
            simp only [hm] at e; cases e
            rw [ev_insF]
            exact Int.add_nonneg (Int.mul_nonneg (of_decide_eq_true hm) hx) k
noncomputable def negSum (acc : List (Int × Nat)) : Bool := acc.all (fun x => x.1 == 0 || (x.2 == 0 && decide (x.1 < 0))) && acc.any (fun x => x.2 == 0 && decide (x.1 < 0))
theorem ev_neg {v : Nat → Int} (h0 : v 0 = 1) : ∀ acc : List (Int × Nat), acc.all (fun x => x.1 == 0 || (x.2 == 0 && decide (x.1 < 0))) = true → ev v acc ≤ 0 ∧ (acc.any (fun x => x.2 == 0 && decide (x.1 < 0)) = true → ev v acc < 0)
  | [], _ => ⟨Int.le_refl 0, fun h => nomatch h⟩
  | (c, k) :: r, h => by
    simp only [List.all_cons, Bool.and_eq_true, Bool.or_eq_true, beq_iff_eq, decide_eq_true_eq] at h
    obtain ⟨i1, i2⟩ := ev_neg h0 r h.2
    simp only [List.any_cons, Bool.and_eq_true, Bool.or_eq_true, beq_iff_eq, decide_eq_true_eq]
    show c * v k + ev v r ≤ 0 ∧ (_ → c * v k + ev v r < 0)
    rcases h.1 with rfl | ⟨rfl, hc⟩
    · rw [Int.zero_mul, Int.zero_add]
      exact ⟨i1, fun q => q.elim (fun q => absurd q.2 (Int.lt_irrefl 0)) i2⟩
    · rw [h0, Int.mul_one]
      exact ⟨by omega, fun _ => by omega⟩

/-- the facts of a word: p tells the places from the lowest level to the highest -/
noncomputable def chainF (o : Nat) : List Nat → List (Bool × List (Int × Nat))
  | i :: j :: r => (false, [(1, o + j), (-1, o + i), (if i < j then 0 else -1, 0)]) :: chainF o (j :: r)
  | _ => []
noncomputable def stepF (p : List Nat) (o i : Nat) : Bool × List (Int × Nat) := (true, [(1, o + i + 1), (-1, o + i), (-1, 2 + p.idxOf (i + 1)), (if p.idxOf i < p.idxOf (i + 1) then 0 else 1, 1)])
noncomputable def wordF (p : List Nat) (o : Nat) : List (Bool × List (Int × Nat)) := chainF o p ++ ((List.range 4).map fun i => (false, [(1, o + i)])) ++ ((List.range 4).map fun i => (false, [(1, 1), (-1, o + i), (-1, 0)])) ++ (true, [(1, o), (-1, 2 + p.idxOf 0)]) :: (List.range 3).map (stepF p o)
noncomputable def baseF : List (Bool × List (Int × Nat)) := ((List.range 4).map fun k => (false, [(1, 2 + k)])) ++ ((List.range 4).map fun k => (false, [(1, 1), (-1, 2 + k), (-1, 0)]))

noncomputable def perms4 : List (List Nat) := [[0, 1, 2, 3], [0, 1, 3, 2], [0, 2, 1, 3], [0, 2, 3, 1], [0, 3, 1, 2], [0, 3, 2, 1], [1, 0, 2, 3], [1, 0, 3, 2], [1, 2, 0, 3], [1, 2, 3, 0], [1, 3, 0, 2], [1, 3, 2, 0], [2, 0, 1, 3], [2, 0, 3, 1], [2, 1, 0, 3], [2, 1, 3, 0], [2, 3, 0, 1], [2, 3, 1, 0], [3, 0, 1, 2], [3, 0, 2, 1], [3, 1, 0, 2], [3, 1, 2, 0], [3, 2, 0, 1], [3, 2, 1, 0]]
noncomputable def certs : List (List (List (Int × Nat))) := [
  [[(1, 8), (1, 11), (1, 18), (1, 21), (1, 22), (1, 24), (-1, 36), (-1, 37)], [(1, 11), (1, 17), (1, 20), (1, 21), (1, 23), (-1, 35), (-1, 36)], [(1, 9), (1, 11), (1, 18), (1, 20), (1, 22), (1, 23), (-1, 35), (-1, 36)], [(1, 11), (1, 18), (1, 20), (1, 21), (1, 22), (1, 23), (-1, 35), (-1, 36), (-1, 37)], [(1, 8), (1, 11), (1, 18), (1, 21), (1, 22), (1, 23), (1, 24), (-1, 35), (-1, 36)], [(1, 16), (1, 19), (1, 20), (1, 27), (-1, 34), (-1, 35)], [(1, 16), (1, 19), (1, 20), (1, 27), (-1, 34), (-1, 35)], [(1, 8), (1, 17), (1, 19), (1, 21), (1, 27), (-1, 34), (-1, 35)], [(1, 8), (1, 9), (1, 18), (1, 19), (1, 22), (1, 27), (-1, 34), (-1, 35)], [(1, 8), (1, 17), (1, 19), (1, 21), (1, 27), (-1, 34), (-1, 35)], [(1, 8), (1, 9), (1, 18), (1, 19), (1, 22), (1, 27), (-1, 34), (-1, 35)], [(1, 17), (1, 19), (1, 20), (1, 21), (1, 28), (-1, 34), (-1, 35), (-1, 36)], [(1, 9), (1, 18), (1, 19), (1, 20), (1, 22), (1, 28), (-1, 34), (-1, 35), (-1, 36)], [(1, 11), (1, 17), (1, 20), (1, 21), (1, 23), (1, 28), (-1, 34), (-1, 35)], [(1, 9), (1, 11), (1, 18), (1, 20), (1, 22), (1, 23), (1, 28), (-1, 34), (-1, 35)], [(1, 8), (1, 18), (1, 19), (1, 21), (1, 22), (1, 28), (-1, 34), (-1, 35), (-1, 36)], [(1, 8), (1, 11), (1, 18), (1, 21), (1, 22), (1, 23), (1, 24), (1, 28), (-1, 34), (-1, 35)], [(1, 18), (1, 19), (1, 20), (1, 21), (1, 22), (1, 29), (-1, 34), (-1, 35), (-1, 36), (-1, 37)], [(1, 11), (1, 18), (1, 20), (1, 21), (1, 22), (1, 23), (1, 24), (1, 29), (-1, 34), (-1, 35), (-1, 36)], [(1, 11), (1, 17), (1, 20), (1, 21), (1, 23), (1, 29), (-1, 34), (-1, 35)], [(1, 9), (1, 11), (1, 18), (1, 20), (1, 22), (1, 23), (1, 29), (-1, 34), (-1, 35)], [(1, 11), (1, 18), (1, 20), (1, 21), (1, 22), (1, 23), (1, 29), (-1, 34), (-1, 35), (-1, 36)], [(1, 8), (1, 11), (1, 18), (1, 21), (1, 22), (1, 23), (1, 24), (1, 29), (-1, 34), (-1, 35)]],
  [[(1, 11), (1, 17), (1, 20), (1, 21), (1, 25), (-1, 36), (-1, 37)], [(1, 11), (1, 17), (1, 20), (1, 21), (1, 23), (-1, 35), (-1, 36)], [(1, 9), (-1, 21), (-1, 22), (1, 26), (1, 32), (1, 35), (1, 36)], [(1, 11), (1, 17), (1, 20), (1, 21), (1, 23), (1, 25), (-1, 35), (-1, 37)], [(1, 9), (1, 10), (1, 17), (1, 19), (1, 20), (1, 27), (-1, 34), (-1, 35)], [(1, 9), (1, 10), (1, 17), (1, 19), (1, 20), (1, 27), (-1, 34), (-1, 35)], [(1, 17), (1, 19), (1, 20), (1, 21), (1, 25), (-1, 35), (-1, 36), (-1, 37)], [(1, 8), (1, 17), (1, 19), (1, 21), (1, 27), (-1, 34), (-1, 35)], [(1, 8), (1, 17), (1, 19), (1, 21), (1, 25), (-1, 35), (-1, 36)], [(1, 8), (1, 17), (1, 19), (1, 21), (1, 27), (-1, 34), (-1, 35)], [(1, 17), (1, 19), (1, 20), (1, 21), (1, 23), (1, 25), (1, 28), (-1, 34), (-1, 36), (-1, 37)], [(1, 17), (1, 19), (1, 20), (1, 21), (1, 28), (-1, 34), (-1, 35), (-1, 36)], [(1, 9), (1, 10), (1, 17), (1, 19), (1, 20), (1, 28), (1, 30), (-1, 35), (-1, 36)], [(1, 11), (1, 17), (1, 20), (1, 21), (1, 23), (1, 28), (-1, 34), (-1, 35)], [(1, 9), (-1, 21), (-1, 22), (1, 31), (1, 34), (1, 35)], [(1, 8), (1, 17), (1, 19), (1, 21), (1, 25), (1, 28), (-1, 34), (-1, 36)], [(1, 9), (-1, 21), (-1, 22), (1, 23), (1, 29), (1, 32), (1, 35), (1, 36)], [(1, 17), (1, 19), (1, 20), (1, 21), (1, 25), (1, 29), (-1, 34), (-1, 35), (-1, 37)], [(1, 11), (1, 17), (1, 20), (1, 21), (1, 25), (-1, 35), (-1, 36)], [(1, 11), (1, 17), (1, 20), (1, 21), (1, 23), (1, 29), (-1, 34), (-1, 35)], [(1, 9), (-1, 21), (-1, 22), (1, 31), (1, 34), (1, 35)], [(1, 11), (1, 17), (1, 20), (1, 21), (1, 23), (1, 25), (1, 29), (-1, 34), (-1, 36)]],
  [[(1, 8), (-1, 20), (-1, 21), (1, 25), (1, 36), (1, 37)], [(1, 10), (-1, 21), (-1, 22), (1, 24), (1, 36), (1, 37)], [(1, 11), (1, 18), (1, 20), (1, 21), (1, 22), (1, 23), (-1, 35), (-1, 36), (-1, 37)], [(1, 16), (1, 19), (1, 20), (1, 24), (-1, 35), (-1, 36)], [(1, 8), (1, 18), (1, 19), (1, 22), (1, 24), (1, 25), (-1, 35), (-1, 36)], [(1, 16), (1, 19), (1, 20), (1, 27), (-1, 34), (-1, 35)], [(1, 8), (1, 18), (1, 19), (1, 22), (1, 27), (-1, 34), (-1, 35)], [(1, 16), (1, 19), (1, 20), (1, 27), (-1, 34), (-1, 35)], [(1, 8), (1, 18), (1, 19), (1, 22), (1, 27), (-1, 34), (-1, 35)], [(1, 8), (-1, 20), (-1, 21), (1, 31), (1, 34), (1, 35)], [(1, 10), (-1, 21), (-1, 22), (1, 31), (1, 34), (1, 35)], [(1, 16), (1, 19), (1, 20), (1, 24), (1, 28), (-1, 34), (-1, 36)], [(1, 8), (1, 18), (1, 19), (1, 22), (1, 24), (1, 25), (1, 28), (-1, 34), (-1, 36)], [(1, 10), (-1, 21), (-1, 22), (1, 24), (1, 28), (1, 31), (1, 35), (1, 37)], [(1, 8), (1, 18), (1, 19), (1, 22), (1, 25), (1, 28), (-1, 34), (-1, 36)], [(1, 8), (-1, 20), (-1, 21), (1, 31), (1, 34), (1, 35)], [(1, 10), (-1, 21), (-1, 22), (1, 31), (1, 34), (1, 35)], [(1, 18), (1, 19), (1, 20), (1, 21), (1, 22), (1, 29), (-1, 34), (-1, 35), (-1, 36), (-1, 37)], [(1, 8), (-1, 20), (-1, 21), (1, 25), (1, 35), (1, 36)], [(1, 10), (-1, 21), (-1, 22), (1, 24), (1, 35), (1, 36)], [(1, 11), (1, 18), (1, 20), (1, 21), (1, 22), (1, 23), (1, 29), (-1, 34), (-1, 35), (-1, 36)]],
  [[(1, 8), (-1, 20), (-1, 21), (1, 24), (1, 36), (1, 37)], [(1, 10), (1, 21), (1, 22), (1, 23), (1, 26), (1, 31), (-1, 36), (-1, 37)], [(1, 8), (1, 10), (1, 16), (1, 19), (1, 22), (1, 24), (-1, 35), (-1, 36)], [(1, 16), (1, 19), (1, 20), (1, 24), (1, 25), (-1, 35), (-1, 36)], [(1, 8), (1, 10), (1, 16), (1, 19), (1, 22), (1, 27), (-1, 34), (-1, 35)], [(1, 16), (1, 19), (1, 20), (1, 27), (-1, 34), (-1, 35)], [(1, 8), (1, 10), (1, 16), (1, 19), (1, 22), (1, 27), (-1, 34), (-1, 35)], [(1, 16), (1, 19), (1, 20), (1, 27), (-1, 34), (-1, 35)], [(1, 16), (1, 19), (1, 20), (1, 25), (-1, 36), (-1, 37)], [(1, 8), (-1, 20), (-1, 21), (1, 31), (1, 34), (1, 35)], [(1, 10), (1, 21), (1, 22), (1, 23), (1, 28), (-1, 34), (-1, 35)], [(1, 16), (1, 19), (1, 20), (1, 24), (1, 25), (1, 28), (-1, 34), (-1, 36)], [(1, 8), (-1, 20), (-1, 21), (1, 24), (1, 28), (1, 31), (1, 35), (1, 37)], [(1, 8), (1, 10), (1, 16), (1, 19), (1, 22), (1, 28), (1, 30), (-1, 35), (-1, 36)], [(1, 8), (-1, 20), (-1, 21), (1, 24), (1, 32), (1, 34), (1, 36)], [(1, 8), (-1, 20), (-1, 21), (1, 31), (1, 34), (1, 35)], [(1, 10), (1, 21), (1, 22), (1, 23), (1, 29), (-1, 34), (-1, 35)], [(1, 16), (1, 19), (1, 20), (1, 25), (1, 29), (-1, 34), (-1, 37)], [(1, 8), (-1, 20), (-1, 21), (1, 24), (1, 35), (1, 36)], [(1, 10), (1, 21), (1, 22), (1, 23), (1, 29), (1, 30), (-1, 35), (-1, 36)]],
  [[(1, 11), (1, 17), (1, 20), (1, 21), (1, 23), (1, 24), (-1, 35), (-1, 36)], [(1, 16), (1, 19), (1, 20), (1, 24), (-1, 35), (-1, 36)], [(1, 8), (1, 9), (1, 17), (1, 19), (1, 21), (1, 24), (1, 25), (-1, 35), (-1, 36)], [(1, 16), (1, 19), (1, 20), (1, 27), (-1, 34), (-1, 35)], [(1, 8), (1, 9), (1, 17), (1, 19), (1, 21), (1, 27), (-1, 34), (-1, 35)], [(1, 16), (1, 19), (1, 20), (1, 27), (-1, 34), (-1, 35)], [(1, 8), (1, 9), (1, 17), (1, 19), (1, 21), (1, 27), (-1, 34), (-1, 35)], [(1, 8), (1, 9), (1, 17), (1, 19), (1, 21), (1, 25), (-1, 36), (-1, 37)], [(1, 17), (1, 19), (1, 20), (1, 21), (1, 24), (-1, 35), (-1, 36), (-1, 37)], [(1, 16), (1, 19), (1, 20), (1, 24), (1, 28), (-1, 34), (-1, 36)], [(1, 9), (1, 21), (1, 22), (1, 23), (1, 28), (-1, 34), (-1, 35)], [(1, 17), (1, 19), (1, 20), (1, 21), (1, 28), (-1, 34), (-1, 35), (-1, 36)], [(1, 11), (1, 17), (1, 20), (1, 21), (1, 23), (1, 24), (1, 28), (-1, 34), (-1, 35)], [(1, 8), (-1, 20), (-1, 21), (-1, 22), (1, 32), (1, 34), (1, 35), (1, 36)], [(1, 11), (1, 17), (1, 20), (1, 21), (1, 24), (-1, 35), (-1, 36)], [(1, 9), (1, 21), (1, 22), (1, 25), (-1, 35), (-1, 36)], [(1, 9), (1, 21), (1, 22), (1, 23), (1, 29), (-1, 34), (-1, 35)], [(1, 16), (1, 19), (1, 20), (1, 24), (1, 29), (-1, 34), (-1, 37)], [(1, 11), (1, 17), (1, 20), (1, 21), (1, 23), (1, 24), (1, 29), (-1, 34), (-1, 35)]],
  [[(1, 8), (1, 10), (-1, 20), (-1, 22), (1, 24), (1, 33), (1, 34), (1, 37)], [(1, 16), (1, 19), (1, 20), (1, 24), (1, 25), (-1, 35), (-1, 36)], [(1, 8), (1, 10), (-1, 20), (-1, 22), (1, 27), (1, 33), (1, 36), (1, 37)], [(1, 16), (1, 19), (1, 20), (1, 27), (-1, 34), (-1, 35)], [(1, 16), (1, 19), (1, 20), (1, 25), (-1, 35), (-1, 36)], [(1, 16), (1, 19), (1, 20), (1, 27), (-1, 34), (-1, 35)], [(1, 8), (1, 11), (1, 16), (-1, 21), (-1, 22), (1, 31), (1, 34), (1, 35)], [(1, 8), (1, 10), (-1, 20), (-1, 22), (1, 31), (1, 34), (1, 35)], [(1, 16), (1, 19), (1, 20), (1, 24), (1, 25), (-1, 36), (-1, 37)], [(1, 16), (1, 19), (1, 20), (1, 24), (1, 25), (1, 28), (-1, 34), (-1, 36)], [(1, 8), (1, 9), (-1, 20), (-1, 21), (1, 31), (1, 34), (1, 35)], [(1, 16), (1, 19), (1, 20), (1, 25), (1, 28), (-1, 34), (-1, 36)], [(1, 8), (1, 11), (1, 16), (-1, 21), (-1, 22), (1, 31), (1, 34), (1, 35)], [(1, 8), (1, 10), (-1, 20), (-1, 22), (1, 31), (1, 34), (1, 35)], [(1, 8), (-1, 20), (-1, 21), (-1, 22), (1, 32), (1, 34), (1, 35), (1, 36)], [(1, 8), (1, 11), (1, 16), (-1, 21), (-1, 22), (1, 25), (1, 35), (1, 36)], [(1, 8), (1, 9), (-1, 20), (-1, 21), (1, 31), (1, 34), (1, 35)], [(1, 16), (1, 19), (1, 20), (1, 24), (1, 25), (1, 29), (-1, 34), (-1, 37)]],
  [[(1, 12), (1, 18), (1, 21), (1, 22), (1, 23), (1, 24), (-1, 36), (-1, 37)], [(1, 12), (-1, 19), (-1, 20), (1, 24), (1, 35), (1, 36)], [(1, 12), (-1, 19), (-1, 20), (1, 24), (1, 25), (1, 35), (1, 36)], [(1, 9), (1, 18), (1, 19), (1, 22), (1, 23), (-1, 36), (-1, 37)], [(1, 9), (-1, 20), (-1, 21), (1, 25), (1, 35), (1, 36)], [(1, 9), (-1, 20), (-1, 21), (1, 23), (1, 35), (1, 36)], [(1, 9), (-1, 20), (-1, 21), (1, 25), (1, 36), (1, 37)], [(1, 17), (1, 19), (1, 20), (1, 21), (1, 28), (-1, 34), (-1, 35), (-1, 36)], [(1, 9), (1, 18), (1, 19), (1, 22), (1, 23), (1, 28), (-1, 34), (-1, 35)], [(1, 12), (-1, 19), (-1, 20), (1, 24), (1, 25), (1, 36), (1, 37)], [(1, 12), (1, 18), (1, 21), (1, 22), (1, 23), (1, 24), (1, 28), (-1, 34), (-1, 35)], [(1, 9), (-1, 20), (-1, 21), (1, 23), (1, 25), (1, 35), (1, 37)], [(1, 12), (1, 18), (1, 21), (1, 22), (1, 24), (-1, 35), (-1, 36)], [(1, 9), (1, 18), (1, 19), (1, 22), (1, 25), (-1, 35), (-1, 36)], [(1, 9), (1, 18), (1, 19), (1, 22), (1, 23), (1, 29), (-1, 34), (-1, 35)], [(1, 18), (1, 19), (1, 20), (1, 21), (1, 22), (1, 29), (-1, 34), (-1, 35), (-1, 36), (-1, 37)], [(1, 12), (1, 18), (1, 21), (1, 22), (1, 23), (1, 24), (1, 29), (-1, 34), (-1, 35)]],
  [[(1, 12), (-1, 19), (-1, 20), (1, 24), (1, 35), (1, 36)], [(1, 12), (-1, 19), (-1, 20), (1, 24), (1, 25), (1, 35), (1, 36)], [(1, 9), (-1, 20), (-1, 21), (-1, 22), (1, 32), (1, 34), (1, 35), (1, 36)], [(1, 9), (1, 12), (1, 17), (-1, 20), (-1, 22), (1, 25), (1, 35), (1, 36)], [(1, 9), (1, 12), (1, 17), (-1, 20), (-1, 22), (1, 23), (1, 35), (1, 36)], [(1, 9), (1, 10), (-1, 20), (-1, 21), (1, 23), (1, 35), (1, 36)], [(1, 17), (1, 19), (1, 20), (1, 21), (1, 25), (-1, 35), (-1, 36), (-1, 37)], [(1, 17), (1, 19), (1, 20), (1, 21), (1, 28), (-1, 34), (-1, 35), (-1, 36)], [(1, 8), (1, 9), (-1, 21), (-1, 22), (1, 31), (1, 34), (1, 35)], [(1, 12), (-1, 19), (-1, 20), (1, 24), (1, 36), (1, 37)], [(1, 8), (1, 9), (-1, 21), (-1, 22), (1, 23), (1, 29), (1, 32), (1, 35), (1, 36)], [(1, 9), (-1, 20), (-1, 21), (-1, 22), (1, 23), (1, 35), (1, 36), (1, 37)], [(1, 9), (1, 10), (-1, 20), (-1, 21), (1, 23), (1, 36), (1, 37)], [(1, 9), (1, 12), (1, 17), (-1, 20), (-1, 22), (1, 23), (1, 36), (1, 37)], [(1, 8), (1, 9), (-1, 21), (-1, 22), (1, 31), (1, 34), (1, 35)], [(1, 17), (1, 19), (1, 20), (1, 21), (1, 25), (1, 29), (-1, 34), (-1, 36), (-1, 37)]],
  [[(1, 12), (-1, 19), (-1, 20), (1, 23), (1, 25), (1, 35), (1, 37)], [(1, 12), (1, 18), (1, 21), (1, 22), (1, 23), (-1, 36), (-1, 37)], [(1, 12), (-1, 19), (-1, 20), (1, 25), (1, 35), (1, 36)], [(1, 12), (-1, 19), (-1, 20), (1, 23), (1, 35), (1, 36)], [(1, 12), (-1, 19), (-1, 20), (1, 25), (1, 36), (1, 37)], [(1, 9), (1, 20), (1, 21), (1, 28), (1, 30), (-1, 35), (-1, 36)], [(1, 12), (1, 18), (1, 21), (1, 22), (1, 23), (1, 28), (-1, 34), (-1, 35)], [(1, 10), (-1, 20), (-1, 21), (-1, 22), (1, 24), (1, 35), (1, 36), (1, 37)], [(1, 8), (1, 18), (1, 19), (1, 20), (1, 22), (1, 28), (-1, 34), (-1, 35), (-1, 36)], [(1, 9), (1, 10), (1, 12), (-1, 19), (-1, 20), (-1, 22), (1, 23), (1, 35), (1, 36), (1, 37)], [(1, 18), (1, 19), (1, 20), (1, 21), (1, 22), (1, 29), (-1, 34), (-1, 35), (-1, 36), (-1, 37)], [(1, 12), (1, 18), (1, 21), (1, 22), (1, 25), (-1, 35), (-1, 36)], [(1, 12), (1, 18), (1, 21), (1, 22), (1, 23), (1, 29), (-1, 34), (-1, 35)], [(1, 9), (1, 20), (1, 21), (1, 29), (1, 31), (-1, 36), (-1, 37)], [(1, 12), (1, 18), (1, 21), (1, 22), (1, 23), (1, 25), (1, 29), (-1, 34), (-1, 36)]],
  [[(1, 8), (1, 10), (1, 20), (1, 22), (1, 27), (-1, 34), (-1, 35)], [(1, 10), (1, 12), (1, 15), (1, 21), (1, 22), (1, 23), (-1, 36), (-1, 37)], [(1, 10), (1, 20), (1, 21), (1, 22), (1, 28), (-1, 34), (-1, 35), (-1, 36)], [(1, 12), (-1, 19), (-1, 20), (1, 23), (1, 35), (1, 36)], [(1, 10), (1, 12), (1, 15), (1, 21), (1, 22), (1, 23), (1, 28), (-1, 34), (-1, 35)], [(1, 9), (1, 10), (1, 20), (1, 21), (1, 28), (1, 30), (-1, 35), (-1, 36)], [(1, 12), (-1, 19), (-1, 20), (1, 23), (1, 24), (1, 35), (1, 36)], [(1, 8), (1, 10), (1, 20), (1, 22), (1, 28), (1, 30), (-1, 35), (-1, 36)], [(1, 12), (-1, 19), (-1, 20), (1, 23), (1, 24), (1, 36), (1, 37)], [(1, 10), (1, 20), (1, 21), (1, 22), (1, 23), (2, 29), (1, 31), (-1, 34), (-1, 36), (-1, 37)], [(1, 10), (1, 12), (1, 15), (1, 21), (1, 22), (1, 23), (1, 29), (-1, 34), (-1, 35)], [(1, 10), (1, 20), (1, 21), (1, 22), (1, 29), (1, 30), (-1, 35), (-1, 36), (-1, 37)], [(1, 10), (1, 20), (1, 21), (1, 22), (1, 23), (1, 24), (2, 29), (1, 31), (-1, 34), (-1, 36), (-1, 37)], [(1, 10), (1, 12), (1, 15), (1, 21), (1, 22), (1, 23), (1, 29), (1, 30), (-1, 35), (-1, 36)]],
  [[(1, 12), (-1, 19), (-1, 20), (1, 25), (1, 35), (1, 36)], [(1, 12), (-1, 19), (-1, 20), (1, 23), (1, 35), (1, 36)], [(1, 8), (-1, 21), (-1, 22), (1, 31), (1, 34), (1, 35)], [(1, 9), (1, 20), (1, 21), (1, 22), (1, 25), (-1, 35), (-1, 36), (-1, 37)], [(1, 9), (1, 20), (1, 21), (1, 22), (1, 28), (-1, 34), (-1, 35), (-1, 36)], [(1, 10), (-1, 20), (-1, 21), (1, 23), (1, 24), (1, 35), (1, 36)], [(1, 17), (1, 19), (1, 20), (1, 21), (1, 28), (-1, 34), (-1, 35), (-1, 36)], [(2, 8), (1, 9), (1, 12), (-1, 19), (-1, 21), (-1, 22), (1, 32), (1, 34), (1, 35), (1, 36)], [(1, 8), (-1, 21), (-1, 22), (1, 31), (1, 34), (1, 35)], [(1, 10), (-1, 20), (-1, 21), (1, 23), (1, 36), (1, 37)], [(1, 12), (-1, 19), (-1, 20), (1, 23), (1, 36), (1, 37)], [(1, 8), (-1, 21), (-1, 22), (1, 24), (1, 35), (1, 36)], [(1, 17), (1, 19), (1, 20), (1, 21), (1, 24), (1, 29), (-1, 34), (-1, 35), (-1, 37)]],
  [[(1, 8), (-1, 21), (-1, 22), (1, 31), (1, 34), (1, 35)], [(1, 8), (1, 10), (1, 12), (-1, 19), (-1, 22), (1, 31), (1, 34), (1, 35)], [(1, 10), (1, 20), (1, 21), (1, 24), (1, 28), (-1, 34), (-1, 36)], [(1, 10), (1, 20), (1, 21), (1, 24), (-1, 36), (-1, 37)], [(1, 12), (-1, 19), (-1, 20), (1, 23), (1, 24), (1, 35), (1, 36)], [(1, 10), (1, 20), (1, 21), (1, 28), (1, 30), (-1, 35), (-1, 36)], [(1, 8), (-1, 21), (-1, 22), (1, 31), (1, 34), (1, 35)], [(1, 8), (1, 10), (1, 12), (-1, 19), (-1, 22), (1, 31), (1, 34), (1, 35)], [(1, 12), (-1, 19), (-1, 20), (1, 23), (1, 36), (1, 37)], [(1, 8), (-1, 21), (-1, 22), (1, 25), (1, 35), (1, 36)], [(1, 8), (1, 10), (1, 12), (-1, 19), (-1, 22), (1, 24), (1, 35), (1, 36)], [(1, 10), (1, 20), (1, 21), (1, 24), (1, 29), (1, 30), (-1, 35), (-1, 37)]],
  [[(1, 10), (-1, 21), (-1, 22), (1, 23), (1, 35), (1, 36)], [(1, 16), (1, 19), (1, 20), (1, 23), (1, 28), (-1, 34), (-1, 35)], [(1, 9), (1, 18), (1, 19), (1, 21), (1, 22), (1, 28), (-1, 34), (-1, 35), (-1, 36)], [(1, 10), (-1, 21), (-1, 22), (1, 23), (1, 24), (1, 35), (1, 36)], [(1, 8), (1, 20), (1, 21), (1, 28), (1, 30), (-1, 35), (-1, 36)], [(1, 10), (-1, 21), (-1, 22), (1, 23), (1, 24), (1, 36), (1, 37)], [(1, 8), (1, 20), (1, 21), (1, 29), (1, 31), (-1, 36), (-1, 37)], [(1, 16), (1, 19), (1, 20), (1, 23), (1, 29), (-1, 34), (-1, 35)], [(1, 18), (1, 19), (1, 20), (1, 21), (1, 22), (1, 29), (-1, 34), (-1, 35), (-1, 36), (-1, 37)], [(1, 8), (1, 20), (1, 21), (1, 24), (1, 29), (-1, 34), (-1, 37)], [(1, 16), (1, 19), (1, 20), (1, 23), (1, 29), (1, 30), (-1, 35), (-1, 36)]],
  [[(1, 9), (2, 10), (1, 16), (1, 19), (1, 21), (1, 22), (1, 28), (-1, 34), (-1, 35), (-1, 36)], [(1, 16), (1, 19), (1, 20), (1, 23), (1, 28), (-1, 34), (-1, 35)], [(1, 13), (-1, 19), (-1, 20), (-1, 21), (1, 24), (1, 35), (1, 36), (1, 37)], [(1, 7), (1, 10), (1, 21), (1, 22), (1, 28), (-1, 34), (-1, 35), (-1, 36)], [(1, 9), (-1, 20), (-1, 21), (-1, 22), (1, 23), (1, 35), (1, 36), (1, 37)], [(1, 10), (1, 21), (1, 22), (1, 29), (1, 31), (-1, 36), (-1, 37)], [(1, 16), (1, 19), (1, 20), (1, 25), (-1, 35), (-1, 36)], [(1, 16), (1, 19), (1, 20), (1, 23), (1, 29), (-1, 34), (-1, 35)], [(1, 10), (1, 21), (1, 22), (1, 24), (1, 29), (-1, 34), (-1, 37)], [(1, 10), (1, 13), (2, 16), (1, 19), (1, 20), (1, 22), (1, 23), (1, 29), (-1, 34), (-1, 35), (-1, 36)]],
  [[(1, 13), (-1, 19), (-1, 20), (-1, 21), (1, 25), (1, 35), (1, 36), (1, 37)], [(1, 9), (1, 10), (-1, 21), (-1, 22), (1, 23), (1, 24), (1, 35), (1, 36)], [(1, 13), (1, 15), (-1, 20), (-1, 21), (1, 24), (1, 36), (1, 37)], [(1, 8), (1, 13), (-1, 19), (-1, 20), (1, 31), (1, 34), (1, 35)], [(1, 8), (1, 10), (-1, 20), (-1, 22), (1, 31), (1, 34), (1, 35)], [(1, 9), (1, 10), (-1, 21), (-1, 22), (1, 23), (1, 36), (1, 37)], [(1, 8), (1, 13), (-1, 19), (-1, 20), (1, 25), (1, 35), (1, 36)], [(1, 8), (1, 10), (-1, 20), (-1, 22), (1, 24), (1, 35), (1, 36)], [(1, 18), (1, 19), (1, 20), (1, 21), (1, 22), (1, 29), (-1, 34), (-1, 35), (-1, 36), (-1, 37)]],
  [[(1, 9), (1, 10), (1, 13), (-1, 19), (-1, 21), (1, 23), (1, 24), (1, 35), (1, 36)], [(1, 13), (1, 15), (-1, 20), (-1, 21), (1, 24), (1, 36), (1, 37)], [(2, 8), (1, 9), (1, 13), (-1, 19), (-1, 20), (-1, 22), (1, 32), (1, 34), (1, 35), (1, 36)], [(1, 8), (1, 13), (-1, 19), (-1, 20), (1, 31), (1, 34), (1, 35)], [(1, 9), (1, 10), (1, 13), (-1, 19), (-1, 21), (1, 23), (1, 36), (1, 37)], [(1, 9), (-1, 21), (-1, 22), (1, 23), (1, 36), (1, 37)], [(1, 8), (1, 13), (-1, 19), (-1, 20), (1, 24), (1, 35), (1, 36)], [(1, 10), (1, 20), (1, 21), (1, 22), (1, 29), (1, 30), (-1, 35), (-1, 36), (-1, 37)]],
  [[(1, 16), (1, 19), (1, 20), (1, 23), (1, 24), (1, 28), (-1, 34), (-1, 35)], [(1, 13), (-1, 19), (-1, 20), (-1, 21), (1, 23), (1, 35), (1, 36), (1, 37)], [(1, 16), (1, 19), (1, 20), (1, 24), (-1, 35), (-1, 36)], [(1, 0), (1, 9), (1, 20), (1, 21), (1, 22), (1, 25), (-1, 35), (-1, 36)], [(1, 9), (1, 13), (1, 16), (1, 20), (1, 22), (1, 23), (1, 29), (-1, 34), (-1, 35)], [(1, 9), (1, 10), (1, 21), (1, 22), (1, 29), (1, 31), (-1, 36), (-1, 37)], [(1, 16), (1, 19), (1, 20), (1, 23), (1, 24), (1, 29), (-1, 34), (-1, 35)]],
  [[(1, 9), (1, 13), (-1, 19), (-1, 20), (1, 22), (2, 23), (2, 29), (1, 32), (-1, 34), (1, 35), (1, 36)], [(1, 13), (-1, 19), (-1, 20), (-1, 21), (1, 23), (1, 35), (1, 36), (1, 37)], [(1, 10), (1, 13), (-1, 19), (-1, 21), (1, 23), (1, 36), (1, 37)], [(1, 13), (1, 15), (-1, 20), (-1, 21), (1, 23), (1, 36), (1, 37)], [(1, 8), (1, 9), (1, 13), (-1, 19), (-1, 20), (1, 31), (1, 34), (1, 35)], [(1, 9), (1, 21), (1, 22), (1, 25), (1, 29), (1, 30), (-1, 36), (-1, 37)]],
  [[(1, 0), (1, 8), (1, 20), (1, 21), (1, 22), (1, 24), (-1, 35), (-1, 36)], [(1, 16), (1, 19), (1, 20), (1, 23), (1, 29), (-1, 34), (-1, 35)], [(1, 9), (1, 17), (1, 19), (1, 21), (1, 23), (1, 29), (-1, 34), (-1, 35)], [(1, 17), (1, 19), (1, 20), (1, 21), (1, 23), (1, 29), (-1, 34), (-1, 35), (-1, 36)], [(1, 8), (1, 14), (1, 17), (1, 20), (1, 21), (1, 23), (1, 24), (1, 29), (-1, 34), (-1, 35)]],
  [[(1, 16), (1, 19), (1, 20), (1, 25), (-1, 35), (-1, 36)], [(1, 16), (1, 19), (1, 20), (1, 23), (1, 29), (-1, 34), (-1, 35)], [(1, 9), (-1, 20), (-1, 21), (1, 31), (1, 34), (1, 35)], [(1, 16), (1, 19), (1, 20), (1, 23), (1, 25), (1, 29), (-1, 34), (-1, 36)]],
  [[(1, 8), (1, 14), (-1, 19), (-1, 20), (1, 25), (1, 35), (1, 36)], [(1, 10), (-1, 20), (-1, 21), (1, 24), (1, 35), (1, 36)], [(1, 17), (1, 19), (1, 20), (1, 21), (1, 23), (1, 29), (-1, 34), (-1, 35), (-1, 36)]],
  [[(1, 8), (1, 14), (-1, 19), (-1, 20), (1, 24), (1, 35), (1, 36)], [(1, 10), (1, 20), (1, 21), (1, 23), (1, 29), (1, 30), (-1, 35), (-1, 36)]],
  [[(1, 16), (1, 19), (1, 20), (1, 23), (1, 24), (1, 29), (-1, 34), (-1, 35)]],
  []]

noncomputable def certOk (p q : List Nat) (c : List (Int × Nat)) : Bool := match sumUp (baseF ++ wordF p 6 ++ wordF q 10) c with
  | some acc => negSum acc
  | none => false
noncomputable def rowOk : List Nat → List (List Nat) → List (List (Int × Nat)) → Bool
  | p, q :: qs, c :: cs => certOk p q c && rowOk p qs cs
  | _, [], _ => true
  | _, _, [] => false
noncomputable def tabOk : List (List Nat) → List (List (List (Int × Nat))) → Bool
  | p :: ps, r :: rs => rowOk p ps r && tabOk ps rs
  | [], _ => true
  | _, [] => false
theorem tab_ok : tabOk perms4 certs = true := by decide +kernel
theorem clash {v : Nat → Int} (h0 : v 0 = 1) {p q : List Nat} {c : List (Int × Nat)} (e : certOk p q c = true) (hb : ∀ x ∈ baseF, Fact v x) (hp : ∀ x ∈ wordF p 6, Fact v x) (hq : ∀ x ∈ wordF q 10, Fact v x) : False := by
  unfold certOk at e
  cases h : sumUp (baseF ++ wordF p 6 ++ wordF q 10) c with
  | none => rw [h] at e; cases e
  | some acc =>
    rw [h] at e
    have e : negSum acc = true := e
    unfold negSum at e
    rw [Bool.and_eq_true] at e
    have h1 := (ev_neg h0 acc e.1).2 e.2
    have h2 := sumUp_pos (v := v) (fun x hx => by
      rcases List.mem_append.mp hx with hx | hx
      · exact (List.mem_append.mp hx).elim (hb x) (hp x)
      · exact hq x hx) c h
    omega
theorem rowOk_at {p q : List Nat} : ∀ {qs : List (List Nat)} {cs : List (List (Int × Nat))}, rowOk p qs cs = true → q ∈ qs → ∃ c, certOk p q c = true
  | q' :: qs, [], h, _ => nomatch h
  | q' :: qs, c :: cs, h, m => by
    have h : (certOk p q' c && rowOk p qs cs) = true := h
    rw [Bool.and_eq_true] at h
    rcases List.mem_cons.mp m with rfl | m
    · exact ⟨c, h.1⟩
    · exact rowOk_at h.2 m
theorem tabOk_at {p q : List Nat} : ∀ {ps : List (List Nat)} {rs : List (List (List (Int × Nat)))}, tabOk ps rs = true → p ∈ ps → q ∈ ps → p = q ∨ (∃ c, certOk p q c = true) ∨ ∃ c, certOk q p c = true
  | _ :: _, [], h, _, _ => nomatch h
  | x :: ps, r :: rs, h, hp, hq => by
    have h : (rowOk x ps r && tabOk ps rs) = true := h
    rw [Bool.and_eq_true] at h
    rcases List.mem_cons.mp hp with e1 | hp1 <;> rcases List.mem_cons.mp hq with e2 | hq1
    · exact .inl (e1.trans e2.symm)
    · rw [e1]; exact .inr (.inl (rowOk_at h.1 hq1))
    · rw [e2]; exact .inr (.inr (rowOk_at h.1 hp1))
    · exact tabOk_at h.2 hp1 hq1
end Mine
end

section
set_option maxRecDepth 10000
namespace Mine
/-- one row into the line, the line read from its end: past the rows that are not higher -/
noncomputable def insR {α : Type} (lv : Int) (x : α) : List (Int × α) → List (Int × α)
  | [] => [(lv, x)]
  | (l, y) :: r => if l ≤ lv then (l, y) :: insR lv x r else (lv, x) :: (l, y) :: r
noncomputable def insP (L : Nat → Int) (n : Nat) : List Nat → List Nat
  | [] => [n]
  | i :: r => if L i ≤ L n then i :: insP L n r else n :: i :: r
theorem insR_map {α : Type} (L : Nat → Int) (A : Nat → α) (n : Nat) : ∀ p : List Nat, insR (L n) (A n) (p.map fun i => (L i, A i)) = (insP L n p).map fun i => (L i, A i)
  | [] => rfl
  | i :: r => by
    show (if L i ≤ L n then _ else _) = List.map _ (if L i ≤ L n then _ else _)
    split
    · rw [insR_map L A n r]; rfl
    · rfl
noncomputable def insAll (n : Nat) : List Nat → List (List Nat)
  | [] => [[n]]
  | i :: r => (n :: i :: r) :: (insAll n r).map (i :: ·)
theorem insP_mem (L : Nat → Int) (n : Nat) : ∀ p : List Nat, insP L n p ∈ insAll n p
  | [] => .head _
  | i :: r => by
    unfold insP
    split
    · exact .tail _ (List.mem_map.mpr ⟨_, insP_mem L n r, rfl⟩)
    · exact .head _
theorem mem_insP {L : Nat → Int} {n j : Nat} : ∀ {p : List Nat}, j ∈ insP L n p → j = n ∨ j ∈ p
  | [], h => .inl (List.mem_singleton.mp h)
  | i :: r, h => by
    unfold insP at h
    split at h
    · rcases List.mem_cons.mp h with h | h
      · exact .inr (h ▸ .head _)
      · exact (mem_insP h).imp_right (.tail _)
    · exact List.mem_cons.mp h
noncomputable def Rl (L : Nat → Int) (i j : Nat) : Prop := (i < j → L i ≤ L j) ∧ (¬ i < j → L i < L j)
theorem insP_pw {L : Nat → Int} {n : Nat} : ∀ {p : List Nat}, (∀ i ∈ p, i < n) → p.Pairwise (Rl L) → (insP L n p).Pairwise (Rl L)
  | [], _, _ => List.pairwise_singleton _ _
  | i :: r, hn, h => by
    obtain ⟨h1, h2⟩ := List.pairwise_cons.mp h
    unfold insP
    split
    · rename_i hl
      refine List.pairwise_cons.mpr ⟨fun j hj => ?_, insP_pw (fun k hk => hn k (.tail _ hk)) h2⟩
      rcases mem_insP hj with rfl | hj
      · exact ⟨fun _ => hl, fun q => absurd (hn i (.head _)) q⟩
      · exact h1 j hj
    · rename_i hl
      have hl := Int.not_le.mp hl
      refine List.pairwise_cons.mpr ⟨fun j hj => ⟨fun q => absurd (hn j hj) (Nat.lt_asymm q), fun _ => ?_⟩, h⟩
      rcases List.mem_cons.mp hj with rfl | hj
      · exact hl
      · by_cases q : i < j
        · exact Int.lt_of_lt_of_le hl ((h1 j hj).1 q)
        · exact Int.lt_trans hl ((h1 j hj).2 q)
noncomputable def ordP (L : Nat → Int) : List Nat := insP L 3 (insP L 2 (insP L 1 [0]))
theorem ordP_mem (L : Nat → Int) : ordP L ∈ perms4 := by
  have all : ∀ p ∈ insAll 1 [0], ∀ q ∈ insAll 2 p, ∀ r ∈ insAll 3 q, r ∈ perms4 := by decide +kernel
  exact all _ (insP_mem L 1 _) _ (insP_mem L 2 _) _ (insP_mem L 3 _)
theorem ordP_pw (L : Nat → Int) : (ordP L).Pairwise (Rl L) := by
  refine insP_pw (fun i h => ?_) (insP_pw (fun i h => ?_) (insP_pw (fun i h => ?_) (List.pairwise_singleton _ _)))
  · rcases mem_insP h with rfl | h
    · decide
    · rcases mem_insP h with rfl | h
      · decide
      · rw [List.mem_singleton.mp h]; decide
  · rcases mem_insP h with rfl | h
    · decide
    · rw [List.mem_singleton.mp h]; decide
  · rw [List.mem_singleton.mp h]; decide
theorem pw_idx {L : Nat → Int} {p : List Nat} (h : p.Pairwise (Rl L)) {i j : Nat} (hi : i ∈ p) (hj : j ∈ p) (hlt : p.idxOf i < p.idxOf j) : Rl L i j := by
  have h1 := List.idxOf_lt_length_of_mem hi
  have h2 := List.idxOf_lt_length_of_mem hj
  have := List.pairwise_iff_getElem.mp h _ _ h1 h2 hlt
  rwa [List.getElem_idxOf, List.getElem_idxOf] at this
theorem perms_facts : ∀ p ∈ perms4, p.length = 4 ∧ ∀ i < 4, i ∈ p ∧ ∀ j < 4, i ≠ j → p.idxOf i ≠ p.idxOf j := by decide +kernel
theorem perms_lt : ∀ p ∈ perms4, ∀ i ∈ p, i < 4 := by decide +kernel
noncomputable def Step (m l l' x : Int) : Prop := (l ≤ l' ∧ l' = l + x) ∨ (l' < l ∧ l' = l + x - m)

/-- a word, its levels and its sweep -/
structure Swp {α : Type} (m : Int) (X : α → Int) (A : Nat → α) (L : Nat → Int) (r : List α) : Prop where
  r : r = (ordP L).map A
  b : ∀ i < 4, 0 ≤ L i ∧ L i < m
  l0 : L 0 = X (A 0)
  st : ∀ i < 3, Step m (L i) (L (i + 1)) (X (A (i + 1)))
theorem chain_facts {v : Nat → Int} {L : Nat → Int} {o : Nat} (h0 : v 0 = 1) (hL : ∀ i < 4, v (o + i) = L i) : ∀ p : List Nat, (∀ i ∈ p, i < 4) → p.Pairwise (Rl L) → ∀ x ∈ chainF o p, Fact v x
  | [], _, _, x, hx => nomatch hx
  | [i], _, _, x, hx => nomatch hx
  | i :: j :: r, hp, hw, x, hx => by
    obtain ⟨h1, h2⟩ := List.pairwise_cons.mp hw
    rcases List.mem_cons.mp hx with rfl | hx
    · show 0 ≤ 1 * v (o + j) + (-1 * v (o + i) + ((if i < j then 0 else -1) * v 0 + 0))
      have := h1 j (.head _)
      unfold Rl at this
      rw [hL j (hp j (.tail _ (.head _))), hL i (hp i (.head _)), h0]
      split <;> rename_i q
      · have := this.1 q; omega
      · have := this.2 q; omega
    · exact chain_facts h0 hL (j :: r) (fun k hk => hp k (.tail _ hk)) h2 x hx
theorem word_facts {α : Type} {m : Int} {X : α → Int} {A : Nat → α} {L : Nat → Int} {r : List α} {v : Nat → Int} {o : Nat} (S : Swp m X A L r) (h0 : v 0 = 1) (h1 : v 1 = m) (hx : ∀ k < 4, ∀ x, r[k]? = some x → v (2 + k) = X x) (hL : ∀ i < 4, v (o + i) = L i) : ∀ x ∈ wordF (ordP L) o, Fact v x := by
  have hm := ordP_mem L
  have pf := perms_facts _ hm
  have hy : ∀ i < 4, v (2 + (ordP L).idxOf i) = X (A i) := fun i hi => by
    have hl := List.idxOf_lt_length_of_mem (pf.2 i hi).1
    refine hx _ (pf.1 ▸ hl) _ ?_
    rw [S.r, List.getElem?_map, List.getElem?_eq_getElem hl, List.getElem_idxOf]; rfl
  intro x hx
  rcases List.mem_append.mp hx with hx | hx
  · rcases List.mem_append.mp hx with hx | hx
    · rcases List.mem_append.mp hx with hx | hx
      · exact chain_facts h0 hL _ (perms_lt _ hm) (ordP_pw L) x hx
      · obtain ⟨i, hi, rfl⟩ := List.mem_map.mp hx
        have hi := List.mem_range.mp hi
        show 0 ≤ 1 * v (o + i) + 0
        rw [hL i hi]; have := (S.b i hi).1; omega
    · obtain ⟨i, hi, rfl⟩ := List.mem_map.mp hx
      have hi := List.mem_range.mp hi
      show 0 ≤ 1 * v 1 + (-1 * v (o + i) + (-1 * v 0 + 0))
      rw [hL i hi, h0, h1]; have := (S.b i hi).2; omega
  · rcases List.mem_cons.mp hx with rfl | hx
    · show 1 * v (o + 0) + (-1 * v (2 + (ordP L).idxOf 0) + 0) = 0
      rw [hL 0 (by decide), hy 0 (by decide), S.l0]; omega
    · obtain ⟨i, hi, rfl⟩ := List.mem_map.mp hx
      have hi := List.mem_range.mp hi
      show 1 * v (o + (i + 1)) + (-1 * v (o + i) + (-1 * v (2 + (ordP L).idxOf (i + 1)) + ((if (ordP L).idxOf i < (ordP L).idxOf (i + 1) then 0 else 1) * v 1 + 0))) = 0
      have i1 := (pf.2 i (by omega)).1
      have i2 := (pf.2 (i + 1) (by omega)).1
      have st := S.st i hi
      unfold Step at st
      rw [hL i (by omega), hL (i + 1) (by omega), hy (i + 1) (by omega), h1]
      split <;> rename_i q
      · have := (pw_idx (ordP_pw L) i1 i2 q).1 (by omega); omega
      · have ne := (pf.2 i (by omega)).2 (i + 1) (by omega) (by omega)
        have := (pw_idx (ordP_pw L) i2 i1 (by omega)).2 (by omega); omega
theorem sweep_clash {α : Type} {m : Int} {X : α → Int} (hX : ∀ x, 0 ≤ X x ∧ X x < m) {A A' : Nat → α} {L K : Nat → Int} {r : List α} (S : Swp m X A L r) (S' : Swp m X A' K r) {c : List (Int × Nat)} (e : certOk (ordP L) (ordP K) c = true) : False := by
  have hr : r.length = 4 := by rw [S.r, List.length_map]; exact (perms_facts _ (ordP_mem L)).1
  let f : Nat → Int := fun k => match r[k]? with
    | some x => X x
    | none => 0
  let v : Nat → Int := fun k => match k with
    | 0 => 1
    | 1 => m
    | 2 => f 0
    | 3 => f 1
    | 4 => f 2
    | 5 => f 3
    | 6 => L 0
    | 7 => L 1
    | 8 => L 2
    | 9 => L 3
    | 10 => K 0
    | 11 => K 1
    | 12 => K 2
    | _ => K 3
  have h0 : v 0 = 1 := rfl
  have h1 : v 1 = m := rfl
  have hf : ∀ k < 4, v (2 + k) = f k
    | 0, _ => rfl
    | 1, _ => rfl
    | 2, _ => rfl
    | 3, _ => rfl
  have hx : ∀ k < 4, ∀ x, r[k]? = some x → v (2 + k) = X x := fun k hk x e => by
    rw [hf k hk]
    show (match r[k]? with | some x => X x | none => 0) = _
    rw [e]
  have hL : ∀ i < 4, v (6 + i) = L i
    | 0, _ => rfl
    | 1, _ => rfl
    | 2, _ => rfl
    | 3, _ => rfl
  have hK : ∀ i < 4, v (10 + i) = K i
    | 0, _ => rfl
    | 1, _ => rfl
    | 2, _ => rfl
    | 3, _ => rfl
  have hb : ∀ x ∈ baseF, Fact v x := by
    have hxx : ∀ k < 4, 0 ≤ v (2 + k) ∧ v (2 + k) < m := fun k hk => by
      rw [hx k hk _ (List.getElem?_eq_getElem (hr ▸ hk))]; exact hX _
    intro x hx
    rcases List.mem_append.mp hx with hx | hx
    · obtain ⟨i, hi, rfl⟩ := List.mem_map.mp hx
      have := hxx i (List.mem_range.mp hi)
      show 0 ≤ 1 * v (2 + i) + 0
      omega
    · obtain ⟨i, hi, rfl⟩ := List.mem_map.mp hx
      have := hxx i (List.mem_range.mp hi)
      show 0 ≤ 1 * v 1 + (-1 * v (2 + i) + (-1 * v 0 + 0))
      omega
  exact clash h0 e hb (word_facts S h0 h1 hx hL) (word_facts S' h0 h1 hx hK)
theorem sweep_inj {α : Type} {m : Int} {X : α → Int} (hX : ∀ x, 0 ≤ X x ∧ X x < m) {A A' : Nat → α} {L K : Nat → Int} {r : List α} (S : Swp m X A L r) (S' : Swp m X A' K r) : ∀ i < 4, A i = A' i := by
  have hm := ordP_mem L
  rcases tabOk_at tab_ok hm (ordP_mem K) with e | ⟨c, e⟩ | ⟨c, e⟩
  · intro i hi
    have q := S.r.symm.trans S'.r
    rw [← e] at q
    exact List.map_inj_left.mp q i ((perms_facts _ hm).2 i hi).1
  · exact (sweep_clash hX S S' e).elim
  · exact (sweep_clash hX S' S e).elim
end Mine
end

section
open PySem PySem.W PyProof.Rows PySem.Calls
set_option maxRecDepth 10000
namespace Mine
noncomputable def rowV (l : Int) (p : Nat) (a : Lt) : PV := .tup [.int l, .int (p : Nat), .str (tx (uL a))]
noncomputable def judge : PV := .inst (.tup [.tup [.int 0, .int (-1)], .tup [.int 1, .int (-1)]])
/-- the state of compare -/
noncomputable def cSt (x y : PV) (a b c d : Option EV) : PS := ⟨[some (.v judge), some (.v x), some (.v y), a, b, c, d], []⟩
theorem tup_at0 {l p : Int} {u : PV} {st : PS} : subP (.v (.tup [.int l, .int p, u])) (.v (.int 0)) st = some (.v (.int l), st) := rfl
theorem tup_at1 {l p : Int} {u : PV} {st : PS} : subP (.v (.tup [.int l, .int p, u])) (.v (.int 1)) st = some (.v (.int p), st) := rfl
theorem cmp_turn {l p l' p' : Int} {u u' : PV} {x3 x4 x5 x6 : Option EV} {k m m' : Int} (hk : (k = 0 ∧ m = l ∧ m' = l') ∨ (k = 1 ∧ m = p ∧ m' = p')) :
    (pbind (pT2 (fun v => pStore 3 (.v v)) (fun v => pStore 4 (.v v)) (.tup [.int k, .int (-1)])) fun _ => compare_blk3) (cSt (.tup [.int l, .int p, u]) (.tup [.int l', .int p', u']) x3 x4 x5 x6) =
      some (if m < m' then .ret (.v (.int 1)) else if m > m' then .ret (.v (.int (-1))) else .next, cSt (.tup [.int l, .int p, u]) (.tup [.int l', .int p', u']) (some (.v (.int k))) (some (.v (.int (-1)))) (some (.v (.int m))) (some (.v (.int m')))) := by
  refine bind_to (a := ()) (st1 := cSt (.tup [.int l, .int p, u]) (.tup [.int l', .int p', u']) (some (.v (.int k))) (some (.v (.int (-1)))) x5 x6) rfl ?_
  refine seq_to (st1 := cSt (.tup [.int l, .int p, u]) (.tup [.int l', .int p', u']) (some (.v (.int k))) (some (.v (.int (-1)))) (some (.v (.int m))) x6) ?_ ?_
  · rcases hk with ⟨rfl, rfl, rfl⟩ | ⟨rfl, rfl, rfl⟩ <;> rfl
  refine seq_to (st1 := cSt (.tup [.int l, .int p, u]) (.tup [.int l', .int p', u']) (some (.v (.int k))) (some (.v (.int (-1)))) (some (.v (.int m))) (some (.v (.int m')))) ?_ ?_
  · rcases hk with ⟨rfl, rfl, rfl⟩ | ⟨rfl, rfl, rfl⟩ <;> rfl
  have t1 : (pCmp ltP (pLoad 5) (pLoad 6)) (cSt (.tup [.int l, .int p, u]) (.tup [.int l', .int p', u']) (some (.v (.int k))) (some (.v (.int (-1)))) (some (.v (.int m))) (some (.v (.int m')))) = some (decide (m < m'), cSt (.tup [.int l, .int p, u]) (.tup [.int l', .int p', u']) (some (.v (.int k))) (some (.v (.int (-1)))) (some (.v (.int m))) (some (.v (.int m')))) := rfl
  have t2 : (pCmp gtP (pLoad 5) (pLoad 6)) (cSt (.tup [.int l, .int p, u]) (.tup [.int l', .int p', u']) (some (.v (.int k))) (some (.v (.int (-1)))) (some (.v (.int m))) (some (.v (.int m')))) = some (decide (m > m'), cSt (.tup [.int l, .int p, u]) (.tup [.int l', .int p', u']) (some (.v (.int k))) (some (.v (.int (-1)))) (some (.v (.int m))) (some (.v (.int m')))) := rfl
  split
  · rename_i h
    rw [decide_eq_true h] at t1
    exact seq_ret (ift t1 rfl)
  · rename_i h
    rw [decide_eq_false h] at t1
    split
    · rename_i h'
      rw [decide_eq_true h'] at t2
      exact seq_to (iff_ t1 rfl) (seq_ret (ift t2 rfl))
    · rename_i h'
      rw [decide_eq_false h'] at t2
      exact seq_to (iff_ t1 rfl) (seq_to (iff_ t2 rfl) rfl)
theorem compare_row {l l' : Int} {p p' : Nat} {a a' : Lt} (h : p' < p) : compareF [judge, rowV l p a, rowV l' p' a'] = some (.int (if l < l' then 1 else -1)) := by
  have c1 := @cmp_turn l p l' p' (.str (tx (uL a))) (.str (tx (uL a'))) none none none none 0 l l' (.inl ⟨rfl, rfl, rfl⟩)
  have c2 := @cmp_turn l p l' p' (.str (tx (uL a))) (.str (tx (uL a'))) (some (.v (.int 0))) (some (.v (.int (-1)))) (some (.v (.int l))) (some (.v (.int l'))) 1 p p' (.inr ⟨rfl, rfl, rfl⟩)
  rw [if_neg (show ¬ (p : Int) < p' by omega), if_pos (show (p : Int) > p' by omega)] at c2
  by_cases h1 : l < l'
  · rw [if_pos h1] at c1 ⊢
    obtain ⟨x, s1, y1, y2⟩ := pbind_some c1
    exact run_to (seq_ret (bind_at rfl (bind_to y1 (seq_ret y2))))
  · rw [if_neg h1] at c1 ⊢
    obtain ⟨x, s1, y1, y2⟩ := pbind_some c1
    by_cases h2 : l > l'
    · rw [if_pos h2] at y2
      exact run_to (seq_ret (bind_at rfl (bind_to y1 (seq_ret y2))))
    · rw [if_neg h2] at y2
      obtain ⟨x', s1', z1, z2⟩ := pbind_some c2
      exact run_to (seq_ret (bind_at rfl (bind_to y1 (seq_to y2 (bind_to z1 (seq_ret z2))))))
end Mine
end

section
open PySem PySem.W PyProof.Rows PySem.Calls
set_option maxRecDepth 10000
namespace Mine
/-- a row of the line: level, place, letter -/
noncomputable abbrev Rw := Int × (Nat × Lt)
noncomputable def rw (x : Rw) : PV := rowV x.1 x.2.1 x.2.2
noncomputable def wSt (T : PV) (m lv : Int) (ln : List PV) (x5 x6 x7 x8 x9 : Option EV) : PS := ⟨[some (.v T), some (.v (.int m)), some (.v judge), some (.m 0), some (.v (.int lv)), x5, x6, x7, x8, x9], [some (.list ln)]⟩
theorem ownW {T : PV} {m lv k : Int} {ln : List PV} {v : PV} {x5 x6 x7 x8 x9 : Option EV} (h : 0 ≤ k) (h' : k < 1000) (e : ln[k.toNat]? = some v) : subP (.m 0) (.v (.int k)) (wSt T m lv ln x5 x6 x7 x8 x9) = some (.v v, wSt T m lv ln x5 x6 x7 x8 x9) := by
  show (if 0 ≤ k ∧ okIdx k then (ln[k.toNat]?).map fun v => (EV.v v, wSt T m lv ln x5 x6 x7 x8 x9) else none) = _
  rw [if_pos ⟨h, by omega, by omega⟩, e]; rfl
theorem and_f {x y : PM Bool} {st : PS} (h : x st = some (false, st)) : pAnd x y st = some (false, st) := bind_at h rfl
theorem while_run {T : PV} {m lv l : Int} {p : Nat} {a : Lt} {x5 x6 x7 : Option EV} : ∀ (R2 R1 : List Rw) (fuel : Nat), R2.length < fuel → R2.length < 1000 → (∀ x ∈ R2, x.2.1 < p) →
    pWhile swept_tst1 swept_blk2 fuel (wSt T m lv ((R1 ++ R2).reverse.map rw) x5 x6 x7 (some (.v (rowV l p a))) (some (.v (.int R2.length)))) =
      some (.next, wSt T m lv ((R1 ++ R2).reverse.map rw) x5 x6 x7 (some (.v (rowV l p a))) (some (.v (.int (R2.dropWhile fun x => decide (x.1 ≤ l)).length))))
  | [], R1, fuel + 1, _, _, _ => by
    have h : pCmp gtP (pLoad 9) (pRet (.v (.int 0))) (wSt T m lv ((R1 ++ []).reverse.map rw) x5 x6 x7 (some (.v (rowV l p a))) (some (.v (.int 0)))) = some (false, wSt T m lv ((R1 ++ []).reverse.map rw) x5 x6 x7 (some (.v (rowV l p a))) (some (.v (.int 0)))) := rfl
    exact iff_ (and_f h) rfl
  | x :: R, R1, fuel + 1, hf, hl, hp => by
    have hx : ((R1 ++ x :: R).reverse.map rw)[R.length]? = some (rw x) := by
      rw [List.reverse_append, List.reverse_cons, List.append_assoc, List.map_append, List.getElem?_append_right (by simp)]; simp
    have hl' : R.length + 1 < 1000 := hl
    have hg : (pCmp gtP (pLoad 9) (pRet (.v (.int 0)))) (wSt T m lv ((R1 ++ x :: R).reverse.map rw) x5 x6 x7 (some (.v (rowV l p a))) (some (.v (.int (x :: R).length)))) = some (true, wSt T m lv ((R1 ++ x :: R).reverse.map rw) x5 x6 x7 (some (.v (rowV l p a))) (some (.v (.int (x :: R).length)))) := by
      show some (decide (((R.length + 1 : Nat) : Int) > 0), _) = _
      rw [decide_eq_true (by omega)]
    have hsub : ((x :: R).length : Int) - 1 = (R.length : Nat) := by rw [List.length_cons]; omega
    have hm : (pMeth compareF (pLoad 2) [(pLoad 8), (pBin subP (pLoad 3) (pBin (intP subI) (pLoad 9) (pRet (.v (.int 1)))))]) (wSt T m lv ((R1 ++ x :: R).reverse.map rw) x5 x6 x7 (some (.v (rowV l p a))) (some (.v (.int (x :: R).length)))) =
        some (.v (.int (if l < x.1 then 1 else -1)), wSt T m lv ((R1 ++ x :: R).reverse.map rw) x5 x6 x7 (some (.v (rowV l p a))) (some (.v (.int (x :: R).length)))) := by
      refine bind_at rfl (bind_at (a := [rowV l p a, rw x]) (bind_at rfl (bind_at (bind_at (a := .v (rw x)) (bind_at rfl (bind_at (a := .v (.int (R.length : Nat))) ?_ (ownW (by omega) (by omega) hx))) rfl) rfl)) ?_)
      · show some (EV.v (.int (((x :: R).length : Int) - 1)), _) = _
        rw [hsub]
      · show (compareF [judge, rowV l p a, rowV x.1 x.2.1 x.2.2]).map _ = _
        rw [compare_row (hp x (.head _))]; rfl
    by_cases h : x.1 ≤ l
    · have hd : (x :: R).dropWhile (fun x => decide (x.1 ≤ l)) = R.dropWhile fun x => decide (x.1 ≤ l) := by rw [List.dropWhile_cons, if_pos (decide_eq_true h)]
      have ih := while_run (T := T) (m := m) (lv := lv) (l := l) (p := p) (a := a) (x5 := x5) (x6 := x6) (x7 := x7) R (R1 ++ [x]) fuel (by have : R.length + 1 < fuel + 1 := hf; omega) (by omega) (fun y hy => hp y (.tail _ hy))
      rw [List.append_assoc, List.singleton_append] at ih
      rw [hd]
      rw [if_neg (by omega)] at hm
      refine ift (ift hg (bind_at hm rfl)) (seq_to (st1 := wSt T m lv ((R1 ++ x :: R).reverse.map rw) x5 x6 x7 (some (.v (rowV l p a))) (some (.v (.int R.length)))) (seq_to (asg_at (e := .v (.int (R.length : Nat))) ?_ rfl) rfl) ih)
      show some (EV.v (.int (((x :: R).length : Int) - 1)), _) = _
      rw [hsub]
    · have hd : (x :: R).dropWhile (fun x => decide (x.1 ≤ l)) = x :: R := by rw [List.dropWhile_cons, if_neg (by simpa using h)]
      rw [hd]
      rw [if_pos (by omega)] at hm
      exact iff_ (ift hg (bind_at hm rfl)) rfl
theorem insR_eq {α : Type} (l : Int) (y : α) : ∀ R : List (Int × α), insR l y R = R.takeWhile (fun x => decide (x.1 ≤ l)) ++ (l, y) :: R.dropWhile (fun x => decide (x.1 ≤ l))
  | [] => rfl
  | x :: R => by
    rw [List.takeWhile_cons, List.dropWhile_cons]
    show (if x.1 ≤ l then _ else _) = _
    by_cases h : x.1 ≤ l
    · rw [if_pos h, if_pos (decide_eq_true h), if_pos (decide_eq_true h), insR_eq l y R]; rfl
    · rw [if_neg h, if_neg (by simpa using h), if_neg (by simpa using h)]; rfl
theorem insAt_eq (l : Int) (p : Nat) (a : Lt) (R : List Rw) : insAt (R.reverse.map rw) (R.dropWhile fun x => decide (x.1 ≤ l)).length (rowV l p a) = (insR l (p, a) R).reverse.map rw := by
  have e : R.reverse.map rw = (R.dropWhile fun x => decide (x.1 ≤ l)).reverse.map rw ++ (R.takeWhile fun x => decide (x.1 ≤ l)).reverse.map rw := by
    rw [← List.map_append, ← List.reverse_append, List.takeWhile_append_dropWhile]
  rw [insR_eq, e]
  unfold insAt
  rw [List.take_left' (by simp), List.drop_left' (by simp)]
  simp [rw]
theorem last_sign {a : Lt} {st : PS} : subP (.v (.str (tx (uL a)))) (.v (.int (-1))) st = some (.v (.str (tx [a.c])), st) := by
  unfold uL
  cases h : a.dn <;> rfl
theorem swept_turn {T : PV} {m lv : Int} {R : List Rw} {p : Nat} {a : Lt} {x5 x6 x7 x8 x9 : Option EV} (hm : 0 < m) (ha : a.Ok) (hR : R.length < 999) (hp : ∀ x ∈ R, x.2.1 < p) {xs : List PV} : ∃ y5 y6 y7 y8 y9,
    pFor (pT2 (fun v => pStore 5 (.v v)) (fun v => pStore 6 (.v v))) swept_blk3 (itm p a :: xs) (wSt T m lv (R.reverse.map rw) x5 x6 x7 x8 x9) =
      pFor (pT2 (fun v => pStore 5 (.v v)) (fun v => pStore 6 (.v v))) swept_blk3 xs (wSt T m ((lv + ld a).fmod m) ((insR ((lv + ld a).fmod m) (p, a) R).reverse.map rw) y5 y6 y7 y8 y9) := by
  have hlen : (R.reverse.map rw).length = R.length := by simp
  have hdl : (R.dropWhile fun x => decide (x.1 ≤ (lv + ld a).fmod m)).length ≤ R.length := (List.dropWhile_sublist _).length_le
  refine ⟨some (.v (.int p)), some (.v (.str (tx (uL a)))), some (.v (.int a.v)), some (.v (rowV ((lv + ld a).fmod m) p a)), some (.v (.int (R.dropWhile fun x => decide (x.1 ≤ (lv + ld a).fmod m)).length)), for_cons (st1 := wSt T m lv (R.reverse.map rw) (some (.v (.int p))) (some (.v (.str (tx (uL a))))) x7 x8 x9) rfl
    (seq_to (st1 := wSt T m lv (R.reverse.map rw) (some (.v (.int p))) (some (.v (.str (tx (uL a))))) (some (.v (.int a.v))) x8 x9) ?_
    (seq_to (st1 := wSt T m ((lv + ld a).fmod m) (R.reverse.map rw) (some (.v (.int p))) (some (.v (.str (tx (uL a))))) (some (.v (.int a.v))) x8 x9) ?_
    (seq_to (st1 := wSt T m ((lv + ld a).fmod m) (R.reverse.map rw) (some (.v (.int p))) (some (.v (.str (tx (uL a))))) (some (.v (.int a.v))) (some (.v (rowV ((lv + ld a).fmod m) p a))) (some (.v (.int R.length)))) ?_
    (seq_to (while_run (p := p) (a := a) R [] 1000 (by omega) (by omega) hp) (seq_to ?_ rfl)))))⟩
  · refine asg_at (e := .v (.int a.v)) (bind_at (bind_at rfl (bind_at rfl last_sign)) ?_) rfl
    show (if tx [a.c] = (⟨#[a.c]⟩ : Str) then (exactTab.lookup a.c).map (fun i => (EV.v (.int i), _)) else none) = _
    rw [if_pos (show tx [a.c] = (⟨#[a.c]⟩ : Str) from rfl), ha.look]; rfl
  · refine asg_at (e := .v (.int ((lv + ld a).fmod m))) (bind_at (a := EV.v (.int (lv + ld a))) (bind_at rfl (bind_at (a := EV.v (.int (ld a))) ?_ rfl)) (bind_at rfl ?_)) rfl
    · unfold uL ld
      cases h : a.dn
      · exact ift rfl rfl
      · exact iff_ rfl rfl
    · show (modI (lv + ld a) m).map _ = _
      rw [show modI (lv + ld a) m = some ((lv + ld a).fmod m) from if_neg (by omega)]; rfl
  · refine bind_at rfl (bind_at (a := .v (.int R.length)) (bind_at rfl ?_) rfl)
    show (if (R.reverse.map rw).length ≤ 1000000 then some ((R.reverse.map rw).length : Int) else none).map _ = _
    rw [hlen, if_pos (by omega)]; rfl
  · refine bind_to (a := ()) (bind_at rfl (bind_at (a := 0) rfl (bind_at rfl (bind_at rfl ?_)))) rfl
    show (if (R.reverse.map rw).length ≤ 1000 ∧ 0 ≤ (((R.dropWhile fun x => decide (x.1 ≤ (lv + ld a).fmod m)).length : Nat) : Int) ∧ (((R.dropWhile fun x => decide (x.1 ≤ (lv + ld a).fmod m)).length : Nat) : Int) ≤ (R.reverse.map rw).length then _ else none) = _
    rw [if_pos ⟨by omega, by omega, by omega⟩]
    rw [← insAt_eq]; rfl
end Mine
end

section
open PySem PySem.W PyProof.Rows PySem.Calls
set_option maxRecDepth 10000
namespace Mine
noncomputable def uV (a : Lt) : PV := .str (tx (uL a))
theorem strs_to : ∀ w : List Lt, strsOf (w.map uV) = some (w.map fun a => tx (uL a))
  | [] => rfl
  | a :: w => by
    show (strsOf (w.map uV)).map _ = _
    rw [strs_to w]; rfl
theorem join_to {st : PS} {e : EV} {w : List Lt} (h : listA st e = some (w.map uV)) (hw : w.length ≤ 1000) : joinP st "" e = some (tx (wL w)) := by
  have key : ∀ w : List Lt, ((w.map fun a => tx (uL a)).map (·.length)).sum = (wL w).length := by
    intro w
    induction w with
    | nil => rfl
    | cons a w ih => rw [wL_cons, List.length_append, ← ih]; rfl
  unfold joinP
  rw [h]
  show ((strsOf (w.map uV)).bind _) = _
  rw [strs_to]
  show (if ((w.map fun a => tx (uL a)).map (·.length)).sum + (w.map fun a => tx (uL a)).length * 0 ≤ 1000000 then some (Txt.join "" (w.map fun a => tx (uL a))) else none) = _
  have := wL_len w
  rw [key, if_pos (by omega), show (w.map fun a => tx (uL a)) = (w.map uL).map tx by rw [List.map_map]; rfl, join_tx]
  rfl
theorem mem_insR {α : Type} {l : Int} {y : α} {x : Int × α} : ∀ {R : List (Int × α)}, x ∈ insR l y R → x = (l, y) ∨ x ∈ R
  | [], h => .inl (List.mem_singleton.mp h)
  | z :: R, h => by
    unfold insR at h
    split at h
    · rcases List.mem_cons.mp h with h | h
      · exact .inr (h ▸ .head _)
      · exact (mem_insR h).imp_right (.tail _)
    · exact List.mem_cons.mp h
theorem len_insR {α : Type} (l : Int) (y : α) : ∀ R : List (Int × α), (insR l y R).length = R.length + 1
  | [] => rfl
  | z :: R => by
    unfold insR
    split
    · rw [List.length_cons, len_insR l y R, List.length_cons]
    · rfl
noncomputable def A4 {α : Type} (a b c d : α) : Nat → α
  | 0 => a
  | 1 => b
  | 2 => c
  | _ => d
noncomputable def lv4 (m : Int) (a b c d : Lt) : Nat → Int
  | 0 => (0 + ld a).fmod m
  | 1 => ((0 + ld a).fmod m + ld b).fmod m
  | 2 => (((0 + ld a).fmod m + ld b).fmod m + ld c).fmod m
  | _ => ((((0 + ld a).fmod m + ld b).fmod m + ld c).fmod m + ld d).fmod m
/-- the swept word, the lowest first -/
noncomputable def swR (m : Int) (a b c d : Lt) : List Lt := (ordP (lv4 m a b c d)).map (A4 a b c d)
theorem swp_of {m : Int} (hm : 0 < m) (a b c d : Lt) : Swp m (fun x => (ld x).fmod m) (A4 a b c d) (lv4 m a b c d) (swR m a b c d) := by
  have h : ∀ x : Int, 0 ≤ x.fmod m ∧ x.fmod m < m := fun x => ⟨Int.fmod_nonneg_of_pos _ hm, Int.fmod_lt_of_pos _ hm⟩
  refine ⟨rfl, fun i hi => ?_, congrArg (Int.fmod · m) (Int.zero_add _), fun i hi => ?_⟩
  · match i, hi with
    | 0, _ => exact h _
    | 1, _ => exact h _
    | 2, _ => exact h _
    | 3, _ => exact h _
  · match i, hi with
    | 0, _ => exact fmod_step hm (h _).1 (h _).2
    | 1, _ => exact fmod_step hm (h _).1 (h _).2
    | 2, _ => exact fmod_step hm (h _).1 (h _).2
theorem comp_to {nT : Nat} {caps : List Nat} {pit : PM (List PV)} {asg : PV → PM Unit} {test : PM Bool} {elt : PM EV} {xs ys : List PV} {st st' : PS} (h1 : pit st = some (xs, st)) (hl : xs.length ≤ 1000) (h2 : compLoop asg test elt xs (inSt nT caps st) = some (ys, st')) : pComp nT caps pit asg test elt st = some (.v (.lst ys), st) := by
  refine bind_at h1 ?_
  rw [if_pos hl, h2]
theorem told_loop : ∀ (R : List Rw) (o : Option EV), ∃ st', compLoop (fun v => pStore 0 (.v v)) (pRet true) (pBin subP (pLoad 0) (pRet (.v (.int 2)))) (R.map rw) ⟨[o], []⟩ = some ((R.map (·.2.2)).map uV, st')
  | [], o => ⟨_, rfl⟩
  | x :: R, o => by
    obtain ⟨st', h⟩ := told_loop R (some (.v (rw x)))
    refine ⟨st', bind_to (a := ()) (st1 := ⟨[some (.v (rw x))], []⟩) rfl (bind_at (a := true) rfl ?_)⟩
    refine bind_at (a := .v (uV x.2.2)) rfl ?_
    exact bind_to h rfl
theorem A4_map {α β : Type} (f : α → β) (a b c d : α) : ∀ i, f (A4 a b c d i) = A4 (f a) (f b) (f c) (f d) i
  | 0 => rfl
  | 1 => rfl
  | 2 => rfl
  | _ + 3 => rfl
theorem items4 (a b c d : Lt) : ∃ p0 p1 p2 p3 : Nat, p0 < p1 ∧ p1 < p2 ∧ p2 < p3 ∧ items [a, b, c, d] 0 = [itm p0 a, itm p1 b, itm p2 c, itm p3 d] := by
  have pb := (uL_pos b).1
  have pc := (uL_pos c).1
  have pd := (uL_pos d).1
  have pa := (uL_pos a).1
  exact ⟨_, _, _, _, by omega, by omega, by omega, rfl⟩
theorem lt_ins {l : Int} {y : Nat × Lt} {R : List Rw} {p : Nat} (h : ∀ x ∈ R, x.2.1 < p) (hy : y.1 < p) : ∀ x ∈ insR l y R, x.2.1 < p := fun x hx => by
  rcases mem_insR hx with rfl | hx
  · exact hy
  · exact h x hx
theorem swept_loop {T : PV} {a b c d : Lt} {m : Int} (hm : 0 < m) (ha : a.Ok) (hb : b.Ok) (hc : c.Ok) (hd : d.Ok) : ∃ (R : List Rw) (lv : Int) (x5 x6 x7 x8 x9 : Option EV), R.map (·.2.2) = swR m a b c d ∧
    pFor (pT2 (fun v => pStore 5 (.v v)) (fun v => pStore 6 (.v v))) swept_blk3 (items [a, b, c, d] 0) (wSt T m 0 [] none none none none none) = some (.next, wSt T m lv (R.reverse.map rw) x5 x6 x7 x8 x9) := by
  obtain ⟨p0, p1, p2, p3, h1, h2, h3, e⟩ := items4 a b c d
  rw [e]
  have k0 : ∀ x ∈ ([] : List Rw), x.2.1 < p0 := fun _ h => nomatch h
  have up : ∀ {R : List Rw} {p p' : Nat}, (∀ x ∈ R, x.2.1 < p) → p < p' → ∀ x ∈ R, x.2.1 < p' := fun h hp x hx => Nat.lt_trans (h x hx) hp
  have n : ∀ {R : List Rw} {k : Nat}, R.length = k → k.ble 900 = true → R.length < 999 := fun h hk => by have := Nat.le_of_ble_eq_true hk; omega
  obtain ⟨L, hL⟩ : ∃ L, L = lv4 m a b c d := ⟨_, rfl⟩
  have l0 : L 0 = (0 + ld a).fmod m := congrFun hL 0
  have l1 : L 1 = (L 0 + ld b).fmod m := by rw [hL]; rfl
  have l2 : L 2 = (L 1 + ld c).fmod m := by rw [hL]; rfl
  have l3 : L 3 = (L 2 + ld d).fmod m := by rw [hL]; rfl
  obtain ⟨_, _, _, _, _, t1⟩ := swept_turn (T := T) (lv := 0) (R := []) (p := p0) (x5 := none) (x6 := none) (x7 := none) (x8 := none) (x9 := none) (xs := [itm p1 b, itm p2 c, itm p3 d]) hm ha (by decide) k0
  rw [← l0] at t1
  obtain ⟨R1, e1⟩ : ∃ R, R = insR (L 0) (p0, a) [] := ⟨_, rfl⟩
  rw [← e1] at t1
  have q1 : ∀ x ∈ R1, x.2.1 < p1 := e1 ▸ lt_ins (up k0 h1) h1
  have n1 : R1.length = 1 := by rw [e1]; rfl
  obtain ⟨_, _, _, _, _, t2⟩ := swept_turn (T := T) (lv := L 0) (R := R1) (p := p1) (xs := [itm p2 c, itm p3 d]) hm hb (n n1 rfl) q1
  rw [← l1] at t2
  obtain ⟨R2, e2⟩ : ∃ R, R = insR (L 1) (p1, b) R1 := ⟨_, rfl⟩
  rw [← e2] at t2
  have q2 : ∀ x ∈ R2, x.2.1 < p2 := e2 ▸ lt_ins (up q1 h2) h2
  have n2 : R2.length = 1 + 1 := by rw [e2, len_insR, n1]
  obtain ⟨_, _, _, _, _, t3⟩ := swept_turn (T := T) (lv := L 1) (R := R2) (p := p2) (xs := [itm p3 d]) hm hc (n n2 rfl) q2
  rw [← l2] at t3
  obtain ⟨R3, e3⟩ : ∃ R, R = insR (L 2) (p2, c) R2 := ⟨_, rfl⟩
  rw [← e3] at t3
  have q3 : ∀ x ∈ R3, x.2.1 < p3 := e3 ▸ lt_ins (up q2 h3) h3
  have n3 : R3.length = 1 + 1 + 1 := by rw [e3, len_insR, n2]
  obtain ⟨_, _, _, _, _, t4⟩ := swept_turn (T := T) (lv := L 2) (R := R3) (p := p3) (xs := []) hm hd (n n3 rfl) q3
  rw [← l3] at t4
  refine ⟨_, _, _, _, _, _, _, ?_, t1.trans (t2.trans (t3.trans t4))⟩
  have e : insR (L 3) (p3, d) R3 = (ordP L).map fun i => (L i, A4 (p0, a) (p1, b) (p2, c) (p3, d) i) := by
    unfold ordP
    rw [← insR_map, ← insR_map, ← insR_map, e3, e2, e1]; rfl
  rw [e, List.map_map]
  unfold swR
  rw [hL]
  exact List.map_congr_left fun i _ => A4_map Prod.snd _ _ _ _ i
theorem sweptF_eq {a b c d : Lt} {m : Int} {R : List Nat} (hm : 0 < m) (hR : Rider R) (ha : a.Ok) (hb : b.Ok) (hc : c.Ok) (hd : d.Ok) : sweptF [.str (tx (wL [a, b] ++ R ++ wL [c, d])), .int m] = some (.str (tx (wL (swR m a b c d).reverse))) := by
  have hu : ∀ x ∈ [a, b], x.Ok := by
    intro x hx
    rcases List.mem_cons.mp hx with rfl | hx
    · exact ha
    · rw [List.mem_singleton.mp hx]; exact hb
  have hv : ∀ x ∈ [c, d], x.Ok := by
    intro x hx
    rcases List.mem_cons.mp hx with rfl | hx
    · exact hc
    · rw [List.mem_singleton.mp hx]; exact hd
  have hw : ∀ x ∈ [a, b, c, d], x.Ok := fun x hx => (List.mem_append (s := [a, b]) (t := [c, d])).mp hx |>.elim (hu x) (hv x)
  have kl : (wL [a, b, c, d]).length ≤ 8 := (wL_len [a, b, c, d]).2
  have he : escO (.v (.str (tx (wL [a, b] ++ wL [c, d])))) = some (items [a, b, c, d] 0) := by
    rw [← wL_app]
    exact (if_pos (Nat.le_trans kl (by decide))).trans (esc_word [a, b, c, d] hw 0)
  obtain ⟨Rs, lv, x5, x6, x7, x8, x9, hr, loop⟩ := swept_loop (T := .str (tx (wL [a, b] ++ R ++ wL [c, d]))) hm ha hb hc hd
  have hs := stripF_eq hu hv (by decide : 0 < 2) (by decide : 2 ≤ 100) (by decide : 0 < 2) (by decide : 2 ≤ 100) hR
  generalize tx (wL [a, b] ++ R ++ wL [c, d]) = T at loop hs
  have hlen : Rs.length = 4 := by
    have := congrArg List.length hr
    unfold swR at this
    rw [List.length_map, List.length_map] at this
    rw [this]; exact (perms_facts _ (ordP_mem _)).1
  have hrr : (Rs.reverse).map (·.2.2) = (swR m a b c d).reverse := by rw [List.map_reverse, hr]
  obtain ⟨st', hc⟩ := told_loop Rs.reverse none
  rw [hrr] at hc
  have hl2 : (swR m a b c d).length = 4 := by rw [← hr, List.length_map]; exact hlen
  refine run_to (st' := ⟨[some (.v (.str T)), some (.v (.int m)), some (.v judge), some (.v (.lst (Rs.reverse.map rw))), some (.v (.int lv)), x5, x6, x7, x8, x9], [none]⟩) (seq_to (st1 := ⟨[some (.v (.str T)), some (.v (.int m)), some (.v judge), none, none, none, none, none, none, none], []⟩) rfl
    (seq_to (st1 := wSt (.str T) m 0 [] none none none none none) rfl (seq_to (st1 := wSt (.str T) m lv (Rs.reverse.map rw) x5 x6 x7 x8 x9) ?_ (bind_to (a := ()) (st1 := ⟨[some (.v (.str T)), some (.v (.int m)), some (.v judge), some (.v (.lst (Rs.reverse.map rw))), some (.v (.int lv)), x5, x6, x7, x8, x9], [none]⟩) rfl (seq_ret (bind_at ?_ rfl))))))
  · refine bind_at (a := .v (.str (tx (wL [a, b] ++ wL [c, d])))) (bind_at (a := [.str T]) rfl ?_) ?_
    · show (stripF [.str T]).map _ = _
      rw [hs]; rfl
    · show (match escO (.v (.str (tx (wL [a, b] ++ wL [c, d])))) with | some ys => pFor _ _ ys _ | none => none) = _
      rw [he]; exact loop
  · refine bind_at (a := .v (.lst ((swR m a b c d).reverse.map uV))) ?_ ?_
    · unfold swept_comp4
      exact comp_to (xs := Rs.reverse.map rw) rfl (by rw [List.length_map, List.length_reverse, hlen]; decide) hc
    show (joinP _ "" (.v (.lst ((swR m a b c d).reverse.map uV)))).map _ = _
    rw [join_to (w := (swR m a b c d).reverse) rfl (by rw [List.length_reverse, hl2]; decide)]; rfl
end Mine
end

section
open PySem PySem.W PyProof.Rows PySem.Calls
set_option maxRecDepth 10000
namespace Mine
noncomputable def lvV (L : Nat → Int) (i : Nat) : PV := .tup [.int (L i), .int (i : Nat)]
noncomputable def gtB (L : Nat → Int) (i j : Nat) : Bool := decide (L i < L j ∨ (L j = L i ∧ (i : Int) < (j : Nat)))
theorem count_loop {L : Nat → Int} {ls : List PV} {i : Nat} (hi : ls[i]? = some (lvV L i)) (hi' : i < 1000) : ∀ (js : List Nat) (o : Option EV), ∃ st',
    compLoop (fun v => pStore 0 (.v v)) (pCmp gtP (pLoad 0) (pBin subP (pLoad 1) (pLoad 2))) (pLoad 0) (js.map (lvV L)) ⟨[o, some (.v (.lst ls)), some (.v (.int (i : Nat)))], []⟩ = some ((js.filter (gtB L i)).map (lvV L), st')
  | [], o => ⟨_, rfl⟩
  | j :: js, o => by
    obtain ⟨st', h⟩ := count_loop hi hi' js (some (.v (lvV L j)))
    refine ⟨st', bind_to (a := ()) (st1 := ⟨[some (.v (lvV L j)), some (.v (.lst ls)), some (.v (.int (i : Nat)))], []⟩) rfl (bind_at (a := gtB L i j) (bind_at rfl (bind_at (a := .v (lvV L i)) (bind_at rfl (bind_at rfl (subL_to (by omega) (by omega) hi))) rfl)) ?_)⟩
    rw [List.filter_cons]
    cases gtB L i j with
    | true => exact bind_at rfl (bind_to h rfl)
    | false => exact h
theorem gt_idx {L : Nat → Int} {i j : Nat} (hi : i < 4) (hj : j < 4) : gtB L i j = decide ((ordP L).idxOf i < (ordP L).idxOf j) := by
  have pf := perms_facts _ (ordP_mem L)
  have i1 := (pf.2 i hi).1
  have j1 := (pf.2 j hj).1
  unfold gtB
  by_cases e : i = j
  · subst e
    rw [decide_eq_false (by omega), decide_eq_false (Nat.lt_irrefl _)]
  · have ne := (pf.2 i hi).2 j hj e
    by_cases h : (ordP L).idxOf i < (ordP L).idxOf j
    · have r := pw_idx (ordP_pw L) i1 j1 h
      rw [decide_eq_true h, decide_eq_true]
      by_cases q : i < j
      · have := r.1 q; omega
      · have := r.2 q; omega
    · have r := pw_idx (ordP_pw L) j1 i1 (by omega)
      rw [decide_eq_false h, decide_eq_false]
      by_cases q : j < i
      · have := r.1 q; omega
      · have := r.2 q; omega
theorem count_facts : ∀ p ∈ perms4, (∀ i < 4, ([0, 1, 2, 3].filter fun j => decide (p.idxOf i < p.idxOf j)).length = 3 - p.idxOf i) ∧
    ((([9, 9, 9, 9].set (3 - p.idxOf 0) 0).set (3 - p.idxOf 1) 1).set (3 - p.idxOf 2) 2).set (3 - p.idxOf 3) 3 = p.reverse ∧ ∀ i ∈ p, i ≠ 9 := by decide +kernel
theorem count_eq (L : Nat → Int) {i : Nat} (hi : i < 4) : ([0, 1, 2, 3].filter (gtB L i)).length = 3 - (ordP L).idxOf i := by
  rw [← (count_facts _ (ordP_mem L)).1 i hi]
  refine congrArg List.length (List.filter_congr fun j hj => gt_idx hi ?_)
  simp at hj; omega
theorem line_eq (L : Nat → Int) (f : Nat → PV) (e : PV) : ((([e, e, e, e].set (3 - (ordP L).idxOf 0) (f 0)).set (3 - (ordP L).idxOf 1) (f 1)).set (3 - (ordP L).idxOf 2) (f 2)).set (3 - (ordP L).idxOf 3) (f 3) = ((ordP L).map f).reverse := by
  obtain ⟨_, h, h9⟩ := count_facts _ (ordP_mem L)
  have := congrArg (List.map fun i => if i = 9 then e else f i) h
  rw [List.map_set, List.map_set, List.map_set, List.map_set] at this
  refine Eq.trans this ?_
  rw [List.map_reverse]
  exact congrArg List.reverse (List.map_congr_left fun i hi => if_neg (h9 i hi))
/-- the state of _law_told's first loop -/
noncomputable def tSt (O : PV) (m lv : Int) (ls : List PV) (x4 x5 : Option EV) : PS := ⟨[some (.v O), some (.v (.int m)), some (.m 0), some (.v (.int lv)), x4, x5, none, none], [some (.list ls)]⟩
noncomputable def tAsg : PV → PM Unit := pT2 (fun v => pStore 4 (.v v)) (fun v => pStore 5 (.v v))
theorem told_turn {O : PV} {m lv : Int} {ls xs : List PV} {a : Lt} {x4 x5 : Option EV} (hm : 0 < m) (hl : ls.length.ble 1000 = true) :
    pFor tAsg told_blk1 (ltP' a :: xs) (tSt O m lv ls x4 x5) = pFor tAsg told_blk1 xs (tSt O m ((lv + ld a).fmod m) (ls ++ [.tup [.int ((lv + ld a).fmod m), .int ls.length]]) (some (.v (uV a))) (some (.v (.int (ld a))))) := by
  refine for_cons (st1 := tSt O m lv ls (some (.v (uV a))) (some (.v (.int (ld a))))) rfl (seq_to (st1 := tSt O m ((lv + ld a).fmod m) ls (some (.v (uV a))) (some (.v (.int (ld a))))) ?_ (seq_to ?_ rfl))
  · exact asg_at (e := .v (.int ((lv + ld a).fmod m))) (int_to (addI_to rfl rfl) rfl (modI_pos hm)) rfl
  · refine bind_to (a := ()) (bind_at rfl (bind_at (a := 0) rfl (bind_at (a := .v (.tup [.int ((lv + ld a).fmod m), .int ls.length])) ?_ ?_))) rfl
    rotate_left
    · exact if_pos (Nat.le_of_ble_eq_true hl)
    refine bind_at (bind_at rfl (bind_at (bind_at (a := .v (.int ls.length)) ?_ rfl) rfl)) rfl
    refine bind_at rfl ?_
    have hl := Nat.le_of_ble_eq_true hl
    show (if ls.length ≤ 1000000 then some (ls.length : Int) else none).map _ = _
    rw [if_pos (by omega)]; rfl
noncomputable def uSt (O : PV) (m : Int) (lv : Option EV) (ls ys : List PV) (x4 x5 x7 : Option EV) : PS := ⟨[some (.v O), some (.v (.int m)), some (.v (.lst ls)), lv, x4, x5, some (.m 1), x7], [none, some (.arr ys)]⟩
theorem told_put {O : PV} {m : Int} {lv : Option EV} {L : Nat → Int} {ys xs : List PV} {i : Nat} {a : Lt} {x4 x5 x7 : Option EV} (hi : i < 4) (hy : ys.length = 4) :
    pFor (pT2 (fun v => pStore 7 (.v v)) (pT2 (fun v => pStore 4 (.v v)) (fun v => pStore 5 (.v v)))) told_blk3 (.tup [.int (i : Nat), ltP' a] :: xs) (uSt O m lv ([0, 1, 2, 3].map (lvV L)) ys x4 x5 x7) =
      pFor (pT2 (fun v => pStore 7 (.v v)) (pT2 (fun v => pStore 4 (.v v)) (fun v => pStore 5 (.v v)))) told_blk3 xs (uSt O m lv ([0, 1, 2, 3].map (lvV L)) (ys.set (3 - (ordP L).idxOf i) (uV a)) (some (.v (uV a))) (some (.v (.int (ld a)))) (some (.v (.int (i : Nat))))) := by
  refine for_cons (st1 := uSt O m lv ([0, 1, 2, 3].map (lvV L)) ys (some (.v (uV a))) (some (.v (.int (ld a)))) (some (.v (.int (i : Nat))))) rfl (seq_to ?_ rfl)
  have hls : ([0, 1, 2, 3].map (lvV L))[i]? = some (lvV L i) := by
    match i, hi with
    | 0, _ => rfl
    | 1, _ => rfl
    | 2, _ => rfl
    | 3, _ => rfl
  obtain ⟨st', hc⟩ := count_loop hls (by omega) [0, 1, 2, 3] none
  refine bind_at rfl (bind_at rfl (bind_at (a := .v (.int ((3 - (ordP L).idxOf i : Nat) : Nat))) (bind_at (a := .v (.lst (([0, 1, 2, 3].filter (gtB L i)).map (lvV L)))) ?_ ?_) ?_))
  · unfold told_comp2
    exact comp_to rfl (Nat.le_of_ble_eq_true rfl) hc
  · show (if (([0, 1, 2, 3].filter (gtB L i)).map (lvV L)).length ≤ 1000000 then some ((([0, 1, 2, 3].filter (gtB L i)).map (lvV L)).length : Int) else none).map _ = _
    rw [List.length_map, count_eq L hi, if_pos (by omega)]; rfl
  · show (if 0 ≤ ((3 - (ordP L).idxOf i : Nat) : Int) ∧ ((3 - (ordP L).idxOf i : Nat) : Int) < ys.length ∧ ys.length ≤ 1000 then _ else none) = _
    rw [if_pos ⟨by omega, by omega, by omega⟩]; rfl
theorem toldF_eq {a b c d : Lt} {m : Int} (hm : 0 < m) : toldF [.lst [ltP' a, ltP' b, ltP' c, ltP' d], .int m] = some (.str (tx (wL (swR m a b c d).reverse))) := by
  generalize hO : PV.lst [ltP' a, ltP' b, ltP' c, ltP' d] = O
  have l1 : pFor tAsg told_blk1 [ltP' a, ltP' b, ltP' c, ltP' d] (tSt O m 0 [] none none) = some (.next, tSt O m (lv4 m a b c d 3) ([0, 1, 2, 3].map (lvV (lv4 m a b c d))) (some (.v (uV d))) (some (.v (.int (ld d))))) :=
    (told_turn hm rfl).trans ((told_turn hm rfl).trans ((told_turn hm rfl).trans ((told_turn hm rfl).trans rfl)))
  have l2 := (told_put (O := O) (m := m) (lv := some (.v (.int (lv4 m a b c d 3)))) (L := lv4 m a b c d) (ys := [.str (tx []), .str (tx []), .str (tx []), .str (tx [])]) (i := 0) (a := a) (x4 := some (.v (uV d))) (x5 := some (.v (.int (ld d)))) (x7 := none) (xs := [.tup [.int (1 : Nat), ltP' b], .tup [.int (2 : Nat), ltP' c], .tup [.int (3 : Nat), ltP' d]]) (by decide) rfl).trans
    ((told_put (i := 1) (by decide) (by simp)).trans ((told_put (i := 2) (by decide) (by simp)).trans ((told_put (i := 3) (by decide) (by simp)).trans rfl)))
  have hline := line_eq (lv4 m a b c d) (fun i => uV (A4 a b c d i)) (.str (tx []))
  have hl2 : (swR m a b c d).length = 4 := by unfold swR; rw [List.length_map]; exact (perms_facts _ (ordP_mem _)).1
  have hr : ((ordP (lv4 m a b c d)).map fun i => uV (A4 a b c d i)).reverse = (swR m a b c d).reverse.map uV := by
    unfold swR; rw [List.map_reverse, List.map_map]; rfl
  refine run_to (seq_to (st1 := tSt O m 0 [] none none) rfl (seq_to (bind_at (a := [ltP' a, ltP' b, ltP' c, ltP' d]) ?_ l1) (bind_to (a := ()) rfl (seq_to (st1 := uSt O m (some (.v (.int (lv4 m a b c d 3)))) ([0, 1, 2, 3].map (lvV (lv4 m a b c d))) [.str (tx []), .str (tx []), .str (tx []), .str (tx [])] (some (.v (uV d))) (some (.v (.int (ld d)))) none) ?_ (seq_to (bind_at (a := [.tup [.int (0 : Nat), ltP' a], .tup [.int (1 : Nat), ltP' b], .tup [.int (2 : Nat), ltP' c], .tup [.int (3 : Nat), ltP' d]]) ?_ l2) (seq_ret (bind_at (a := .v (.str (tx (wL (swR m a b c d).reverse)))) (bind_at (a := .m 1) rfl ?_) rfl)))))))
  · subst hO; rfl
  · subst hO; rfl
  · subst hO; rfl
  · show (joinP _ "" (.m 1)).map _ = _
    rw [join_to (w := (swR m a b c d).reverse) ?_ (by rw [List.length_reverse, hl2]; decide)]; rfl
    exact congrArg some (hline.trans hr)
end Mine
end

section
open PySem PySem.W PyProof.Rows PySem.Calls
set_option maxRecDepth 10000
namespace Mine
noncomputable def wV (w : List Lt) : PV := .lst (w.map ltP')
noncomputable def enc (ws : List (List Lt)) : List (Str × PV) := ws.map fun w => (tx (wL w), wV w)
noncomputable def OkW (w : List Lt) : Prop := ∀ a ∈ w, a.Ok
structure AddAll (ws vs ws' : List (List Lt)) : Prop where
  nd : ws'.Nodup
  mem : ∀ x, x ∈ ws' ↔ x ∈ ws ∨ x ∈ vs
  len : ws'.length ≤ ws.length + vs.length
theorem AddAll.trans {ws vs us ws1 ws2 : List (List Lt)} (h : AddAll ws vs ws1) (k : AddAll ws1 us ws2) : AddAll ws (vs ++ us) ws2 :=
  ⟨k.nd, fun x => by rw [k.mem, h.mem, List.mem_append, or_assoc], by have := h.len; have := k.len; rw [List.length_append]; omega⟩
theorem AddAll.ok {ws vs ws' : List (List Lt)} (h : AddAll ws vs ws') (h1 : ∀ x ∈ ws, OkW x) (h2 : ∀ x ∈ vs, OkW x) : ∀ x ∈ ws', OkW x := fun x hx => ((h.mem x).mp hx).elim (h1 x) (h2 x)
theorem store_enc {ws : List (List Lt)} {v : List Lt} (hn : ws.Nodup) (hw : ∀ x ∈ ws, OkW x) (hv : OkW v) : ∃ ws', AddAll ws [v] ws' ∧ storeV (enc ws) (tx (wL v)) (wV v) = enc ws' := by
  unfold storeV
  by_cases h : v ∈ ws
  · refine ⟨ws, ⟨hn, fun x => ⟨.inl, fun q => q.elim id fun q => List.mem_singleton.mp q ▸ h⟩, Nat.le_add_right _ _⟩, ?_⟩
    rw [if_pos]
    · unfold enc
      rw [List.map_map]
      refine List.map_congr_left fun x hx => ?_
      show (if tx (wL x) = tx (wL v) then _ else _) = _
      split
      · rename_i e
        rw [wL_inj (hw x hx) hv (tx_inj e)]
      · rfl
    · rw [List.any_eq_true]
      exact ⟨_, List.mem_map.mpr ⟨v, h, rfl⟩, decide_eq_true rfl⟩
  · refine ⟨ws ++ [v], ⟨List.nodup_append.mpr ⟨hn, by simp, fun x hx y hy e => h (List.mem_singleton.mp hy ▸ e ▸ hx)⟩, fun x => List.mem_append, by simp⟩, ?_⟩
    rw [if_neg]
    · unfold enc; rw [List.map_append]; rfl
    · intro q
      rw [List.any_eq_true] at q
      obtain ⟨y, hy, e⟩ := q
      obtain ⟨x, hx, rfl⟩ := List.mem_map.mp hy
      exact h (wL_inj (hw x hx) hv (tx_inj (of_decide_eq_true e)) ▸ hx)
noncomputable def insW (w : List Lt) (p : Lt) (k : Nat) : List Lt := w.take k ++ [p] ++ w.drop k
theorem insW_ok {w : List Lt} {p : Lt} {k : Nat} (hw : OkW w) (hp : p.Ok) : OkW (insW w p k) := by
  intro a ha
  unfold insW at ha
  rcases List.mem_append.mp ha with ha | ha
  · rcases List.mem_append.mp ha with ha | ha
    · exact hw a (List.mem_of_mem_take ha)
    · rw [List.mem_singleton.mp ha]; exact hp
  · exact hw a (List.mem_of_mem_drop ha)
theorem units_loop : ∀ (w : List Lt) (o o' : Option EV), ∃ st', compLoop (pT2 (fun v => pStore 0 (.v v)) (fun v => pStore 1 (.v v))) (pRet true) (pLoad 0) (w.map ltP') ⟨[o, o'], []⟩ = some (w.map uV, st')
  | [], o, o' => ⟨_, rfl⟩
  | a :: w, o, o' => by
    obtain ⟨st', h⟩ := units_loop w (some (.v (uV a))) (some (.v (.int (ld a))))
    refine ⟨st', bind_to (a := ()) (st1 := ⟨[some (.v (uV a)), some (.v (.int (ld a)))], []⟩) rfl (bind_at (a := true) rfl ?_)⟩
    refine bind_at (a := .v (uV a)) rfl ?_
    exact bind_to h rfl
noncomputable def oSt (P : PV) (D : List (Str × PV)) (p : PV) (O : List (Option MO)) (es : List (Str × PV)) (x4 x5 x6 : Option EV) : PS := ⟨[some (.v P), some (.v (.dct D)), some (.v p), some (.m O.length), x4, x5, x6], O ++ [some (.dict es)]⟩
noncomputable def oAsg : PV → PM Unit := fun v => pStore 5 (.v v)
theorem ord_spot {P : PV} {D : List (Str × PV)} {O : List (Option MO)} {ws : List (List Lt)} {p : Lt} {w : List Lt} {k : Nat} {x5 x6 : Option EV} {xs : List PV} (hn : ws.Nodup) (hw : ∀ x ∈ ws, OkW x) (hl : ws.length ≤ 1000) (ho : OkW w) (hp : p.Ok) (hk : k ≤ w.length) (hwl : w.length ≤ 4) :
    ∃ ws' y5 y6, AddAll ws [insW w p k] ws' ∧ pFor oAsg orders_blk2 (.int (k : Nat) :: xs) (oSt P D (ltP' p) O (enc ws) (some (.v (wV w))) x5 x6) = pFor oAsg orders_blk2 xs (oSt P D (ltP' p) O (enc ws') (some (.v (wV w))) y5 y6) := by
  obtain ⟨ws', ha, he⟩ := store_enc hn hw (insW_ok (k := k) ho hp)
  have hrow : wV (insW w p k) = .lst ((w.map ltP').take k ++ [ltP' p] ++ (w.map ltP').drop k) := by
    unfold wV insW; rw [List.map_append, List.map_append, List.map_take, List.map_drop]; rfl
  have hml : (w.map ltP').length = w.length := List.length_map _
  have hil : (insW w p k).length ≤ 1000 := by
    unfold insW; rw [List.length_append, List.length_append, List.length_take, List.length_drop]
    show _ + 1 + _ ≤ _; omega
  obtain ⟨st', hu⟩ := units_loop (insW w p k) none none
  refine ⟨ws', some (.v (.int (k : Nat))), some (.v (wV (insW w p k))), ha, for_cons (st1 := oSt P D (ltP' p) O (enc ws) (some (.v (wV w))) (some (.v (.int (k : Nat)))) x6) rfl
    (seq_to (st1 := oSt P D (ltP' p) O (enc ws) (some (.v (wV w))) (some (.v (.int (k : Nat)))) (some (.v (wV (insW w p k))))) (asg_at ?_ rfl) (seq_to ?_ rfl))⟩
  · refine bind_at (a := .v (.lst ((w.map ltP').take k ++ [ltP' p]))) (bind_at (a := .v (.lst ((w.map ltP').take k))) (bind_at rfl (bind_at rfl (bind_at rfl ?_))) (bind_at (a := .v (.lst [ltP' p])) rfl ?_)) (bind_at (a := .v (.lst ((w.map ltP').drop k))) (bind_at rfl (bind_at rfl (bind_at rfl ?_))) ?_)
    · exact sl_to (by omega) (by omega)
    · exact if_pos (by rw [List.length_take]; show _ + 1 ≤ _; omega)
    · exact sl_from (by omega) (by omega)
    · rw [hrow]
      exact if_pos (by rw [List.length_append, List.length_take, List.length_drop]; show _ + 1 + _ ≤ _; omega)
  · refine bind_at (a := .v (wV (insW w p k))) rfl (bind_at (a := .m O.length) rfl (bind_at (a := .v (.str (tx (wL (insW w p k))))) (bind_at (a := .v (.lst ((insW w p k).map uV))) ?_ ?_) ?_))
    · unfold orders_comp1
      exact comp_to (xs := (insW w p k).map ltP') rfl (by rw [List.length_map]; exact hil) hu
    · show (joinP _ "" (.v (.lst ((insW w p k).map uV)))).map _ = _
      rw [join_to (w := insW w p k) rfl hil]; rfl
    · show (match (O ++ [some (MO.dict (enc ws))])[O.length]? with | some (some (.dict es)) => if es.length ≤ 1000 then some (PF.next, (⟨[some (.v P), some (.v (.dct D)), some (.v (ltP' p)), some (.m O.length), some (.v (wV w)), some (.v (.int (k : Nat))), some (.v (wV (insW w p k)))], (O ++ [some (MO.dict (enc ws))]).set O.length (some (.dict (storeV es (tx (wL (insW w p k))) (wV (insW w p k)))))⟩ : PS)) else none | _ => none) = _
      have hel : (enc ws).length ≤ 1000 := by unfold enc; rw [List.length_map]; exact hl
      have h1 : (O ++ [some (MO.dict (enc ws))])[O.length]? = some (some (.dict (enc ws))) := by simp
      rw [h1]
      show (if (enc ws).length ≤ 1000 then _ else none) = _
      rw [if_pos hel, he, List.set_append_right _ _ (Nat.le_refl _), Nat.sub_self]; rfl
theorem ord_spots {P : PV} {D : List (Str × PV)} {O : List (Option MO)} {p : Lt} {w : List Lt} (ho : OkW w) (hp : p.Ok) (hwl : w.length ≤ 4) : ∀ (ks : List Nat) (ws : List (List Lt)) (x5 x6 : Option EV), ws.Nodup → (∀ x ∈ ws, OkW x) → ws.length + ks.length ≤ 1000 → (∀ k ∈ ks, k ≤ w.length) →
    ∃ ws' y5 y6, AddAll ws (ks.map (insW w p)) ws' ∧ pFor oAsg orders_blk2 (ks.map fun (k : Nat) => .int k) (oSt P D (ltP' p) O (enc ws) (some (.v (wV w))) x5 x6) = some (.next, oSt P D (ltP' p) O (enc ws') (some (.v (wV w))) y5 y6)
  | [], ws, x5, x6, hn, hw, hl, hk => ⟨ws, x5, x6, ⟨hn, fun x => by simp, Nat.le_refl _⟩, rfl⟩
  | k :: ks, ws, x5, x6, hn, hw, hl, hk => by
    rw [List.length_cons] at hl
    obtain ⟨ws1, y5, y6, h1, e1⟩ := ord_spot (P := P) (D := D) (O := O) (x5 := x5) (x6 := x6) (xs := ks.map fun (k : Nat) => .int k) hn hw (by omega) ho hp (hk k (.head _)) hwl
    have hl1 : ws1.length ≤ ws.length + 1 := h1.len
    obtain ⟨ws2, z5, z6, h2, e2⟩ := ord_spots ho hp hwl ks ws1 y5 y6 h1.nd (h1.ok hw fun x hx => List.mem_singleton.mp hx ▸ insW_ok ho hp) (by omega) (fun j hj => hk j (.tail _ hj))
    exact ⟨ws2, z5, z6, h1.trans h2, e1.trans e2⟩
noncomputable def allIns (p : Lt) (w : List Lt) : List (List Lt) := (List.range (w.length + 1)).map (insW w p)
noncomputable def oAsg4 : PV → PM Unit := fun v => pStore 4 (.v v)
theorem ord_orders {P : PV} {D : List (Str × PV)} {O : List (Option MO)} {p : Lt} (hp : p.Ok) : ∀ (old ws : List (List Lt)) (x4 x5 x6 : Option EV), ws.Nodup → (∀ x ∈ ws, OkW x) → (∀ x ∈ old, OkW x ∧ x.length ≤ 4) → ws.length + 5 * old.length ≤ 1000 →
    ∃ ws' y4 y5 y6, AddAll ws (old.flatMap (allIns p)) ws' ∧ pFor oAsg4 orders_blk3 (old.map wV) (oSt P D (ltP' p) O (enc ws) x4 x5 x6) = some (.next, oSt P D (ltP' p) O (enc ws') y4 y5 y6)
  | [], ws, x4, x5, x6, hn, hw, ho, hl => ⟨ws, x4, x5, x6, ⟨hn, fun x => by simp, Nat.le_refl _⟩, rfl⟩
  | w :: old, ws, x4, x5, x6, hn, hw, ho, hl => by
    rw [List.length_cons] at hl
    have hwo := ho w (.head _)
    obtain ⟨ws1, y5, y6, h1, e1⟩ := ord_spots (P := P) (D := D) (O := O) hwo.1 hp hwo.2 (List.range (w.length + 1)) ws x5 x6 hn hw (by rw [List.length_range]; omega) (fun k hk => Nat.le_of_lt_succ (List.mem_range.mp hk))
    have hl1 := h1.len
    rw [List.length_map, List.length_range] at hl1
    obtain ⟨ws2, z4, z5, z6, h2, e2⟩ := ord_orders hp old ws1 (some (.v (wV w))) y5 y6 h1.nd (h1.ok hw fun x hx => by obtain ⟨k, _, rfl⟩ := List.mem_map.mp hx; exact insW_ok hwo.1 hp) (fun x hx => ho x (.tail _ hx)) (by omega)
    refine ⟨ws2, z4, z5, z6, h1.trans h2, (for_cons (st1 := oSt P D (ltP' p) O (enc ws) (some (.v (wV w))) x5 x6) rfl (seq_to (st1 := oSt P D (ltP' p) O (enc ws1) (some (.v (wV w))) y5 y6) ?_ rfl)).trans e2⟩
    refine bind_at (a := (List.range (w.length + 1)).map fun (k : Nat) => PV.int k) (bind_at (a := .v (.int ((w.length + 1 : Nat) : Int))) (bind_at (a := .v (.int (w.length : Nat))) (bind_at rfl ?_) rfl) ?_) e1
    · show (if (w.map ltP').length ≤ 1000000 then some ((w.map ltP').length : Int) else none).map _ = _
      rw [List.length_map, if_pos (by omega)]; rfl
    · show (if -1000 ≤ ((w.length + 1 : Nat) : Int) ∧ ((w.length + 1 : Nat) : Int) ≤ 1000 then _ else none).map _ = _
      rw [if_pos ⟨by omega, by omega⟩]; rfl
end Mine
end

section
open PySem PySem.W PyProof.Rows PySem.Calls
set_option maxRecDepth 10000
namespace Mine
noncomputable def qSt (P : PV) (D : List (Str × PV)) (O : List (Option MO)) (x2 x3 x4 x5 x6 : Option EV) : PS := ⟨[some (.v P), some (.v (.dct D)), x2, x3, x4, x5, x6], O⟩
noncomputable def oAsg2 : PV → PM Unit := fun v => pStore 2 (.v v)
/-- all orders of the letters done, each of them once -/
structure Perms (done : List Lt) (ws : List (List Lt)) : Prop where
  nd : ws.Nodup
  mem : ∀ x, x ∈ ws ↔ x.Perm done
  len : ws.length ≤ 24
theorem mem_allIns {p : Lt} {x w : List Lt} : x ∈ allIns p w ↔ ∃ k ≤ w.length, insW w p k = x := by
  unfold allIns
  rw [List.mem_map]
  exact ⟨fun ⟨k, h, e⟩ => ⟨k, Nat.le_of_lt_succ (List.mem_range.mp h), e⟩, fun ⟨k, h, e⟩ => ⟨k, List.mem_range.mpr (Nat.lt_succ_of_le h), e⟩⟩
theorem perm_ins {p : Lt} {w : List Lt} {k : Nat} : (insW w p k).Perm (p :: w) := by
  unfold insW
  rw [List.append_assoc, List.singleton_append]
  refine List.perm_middle.trans (.cons _ ?_)
  rw [List.take_append_drop]
theorem perms_next {done : List Lt} {p : Lt} {old new : List (List Lt)} (h : ∀ x, x ∈ old ↔ x.Perm done) (k : ∀ x, x ∈ new ↔ x ∈ old.flatMap (allIns p)) : ∀ x, x ∈ new ↔ x.Perm (p :: done) := by
  intro x
  rw [k, List.mem_flatMap]
  constructor
  · rintro ⟨w, hw, hx⟩
    obtain ⟨k, _, rfl⟩ := mem_allIns.mp hx
    exact perm_ins.trans (.cons _ ((h w).mp hw))
  · intro hx
    obtain ⟨s, t, rfl⟩ := List.append_of_mem (hx.mem_iff.mpr (.head _))
    refine ⟨s ++ t, (h _).mpr ((List.perm_middle.symm.trans hx).cons_inv), mem_allIns.mpr ⟨s.length, by simp, ?_⟩⟩
    unfold insW
    rw [List.take_left, List.drop_left, List.append_assoc]; rfl
theorem len_allIns {p : Lt} {n : Nat} : ∀ {old : List (List Lt)}, (∀ w ∈ old, w.length = n) → (old.flatMap (allIns p)).length = old.length * (n + 1)
  | [], _ => by simp
  | w :: old, h => by
    rw [List.flatMap_cons, List.length_append, len_allIns fun x hx => h x (.tail _ hx), List.length_cons, Nat.succ_mul]
    unfold allIns
    rw [List.length_map, List.length_range, h w (.head _)]; omega
theorem ord_piece {P : PV} {O : List (Option MO)} {p : Lt} {done : List Lt} {old : List (List Lt)} {x2 x3 x4 x5 x6 : Option EV} {xs : List PV} (hp : p.Ok) (hd : OkW done) (ho : Perms done old) (hl : done.length ≤ 3) (hb : old.length * (done.length + 1) ≤ 24) :
    ∃ new y3 y4 y5 y6, Perms (p :: done) new ∧ new.length ≤ old.length * (done.length + 1) ∧ pFor oAsg2 orders_blk4 (ltP' p :: xs) (qSt P (enc old) O x2 x3 x4 x5 x6) = pFor oAsg2 orders_blk4 xs (qSt P (enc new) (O ++ [none]) (some (.v (ltP' p))) y3 y4 y5 y6) := by
  have hlo : ∀ w ∈ old, w.length = done.length := fun w hw => ((ho.mem w).mp hw).length_eq
  have hok : ∀ w ∈ old, OkW w ∧ w.length ≤ 4 := fun w hw => ⟨fun a ha => hd a (((ho.mem w).mp hw).mem_iff.mp ha), by rw [hlo w hw]; omega⟩
  obtain ⟨new, y4, y5, y6, h, e⟩ := ord_orders (P := P) (D := enc old) (O := O) hp old [] x4 x5 x6 .nil (fun _ h => nomatch h) hok (by have := ho.len; show 0 + _ ≤ _; omega)
  have hlen := h.len
  rw [len_allIns hlo] at hlen
  have hlen : new.length ≤ old.length * (done.length + 1) := Nat.le_trans hlen (by show 0 + _ ≤ _; omega)
  have hmem := perms_next (p := p) (new := new) ho.mem fun x => by rw [h.mem]; simp
  have hv : (enc old).map (·.2) = old.map wV := by unfold enc; rw [List.map_map]; rfl
  have hg : ∀ x : Option MO, (O ++ [x])[O.length]? = some x := fun x => by simp
  have hs : ∀ x y : Option MO, (O ++ [x]).set O.length y = O ++ [y] := fun x y => by rw [List.set_append_right _ _ (Nat.le_refl _), Nat.sub_self]; rfl
  refine ⟨new, some (.v (.dct (enc new))), y4, y5, y6, ⟨h.nd, hmem, by omega⟩, hlen, for_cons (st1 := qSt P (enc old) O (some (.v (ltP' p))) x3 x4 x5 x6) rfl
    (seq_to (st1 := oSt P (enc old) (ltP' p) O [] x4 x5 x6) rfl (seq_to (st1 := oSt P (enc old) (ltP' p) O (enc new) y4 y5 y6) (bind_at (a := old.map wV) ?_ e) (bind_to (a := ()) (st1 := qSt P (enc old) (O ++ [none]) (some (.v (ltP' p))) (some (.v (.dct (enc new)))) y4 y5 y6) ?_ rfl)))⟩
  · refine bind_at rfl ?_
    show some ((enc old).map (·.2), _) = _
    rw [hv]
  · show (match (O ++ [some (MO.dict (enc new))])[O.length]? with | some (some o) => (frzMO o).map fun q => ((), (⟨[some (.v P), some (.v (.dct (enc old))), some (.v (ltP' p)), some (.v q), y4, y5, y6], (O ++ [some (MO.dict (enc new))]).set O.length none⟩ : PS)) | _ => none) = _
    rw [hg, hs]; rfl
theorem ordersF_eq {a b c d : Lt} (ha : a.Ok) (hb : b.Ok) (hc : c.Ok) (hd : d.Ok) : ∃ ws, Perms [d, c, b, a] ws ∧ ordersF [.lst [ltP' a, ltP' b, ltP' c, ltP' d]] = some (.dct (enc ws)) := by
  have k0 : OkW [] := fun _ h => nomatch h
  have kc : ∀ {x : Lt} {w : List Lt}, x.Ok → OkW w → OkW (x :: w) := fun hx hw y hy => by
    rcases List.mem_cons.mp hy with rfl | hy
    · exact hx
    · exact hw y hy
  obtain ⟨w1, _, _, _, _, p1, l1, e1⟩ := ord_piece (P := .lst [ltP' a, ltP' b, ltP' c, ltP' d]) (O := []) (x2 := none) (x3 := none) (x4 := none) (x5 := none) (x6 := none) (xs := [ltP' b, ltP' c, ltP' d]) ha k0 (old := [[]]) ⟨by simp, fun x => by simp, by decide⟩ (by decide) (by decide)
  have l1 : w1.length ≤ 1 := l1
  obtain ⟨w2, _, _, _, _, p2, l2, e2⟩ := ord_piece (P := .lst [ltP' a, ltP' b, ltP' c, ltP' d]) (O := [] ++ [none]) (xs := [ltP' c, ltP' d]) hb (kc ha k0) p1 (Nat.le_of_ble_eq_true rfl) (by show w1.length * 2 ≤ 24; omega)
  have l2 : w2.length ≤ w1.length * 2 := l2
  obtain ⟨w3, _, _, _, _, p3, l3, e3⟩ := ord_piece (P := .lst [ltP' a, ltP' b, ltP' c, ltP' d]) (O := [] ++ [none] ++ [none]) (xs := [ltP' d]) hc (kc hb (kc ha k0)) p2 (Nat.le_of_ble_eq_true rfl) (by show w2.length * 3 ≤ 24; omega)
  have l3 : w3.length ≤ w2.length * 3 := l3
  obtain ⟨w4, _, _, _, _, p4, _, e4⟩ := ord_piece (P := .lst [ltP' a, ltP' b, ltP' c, ltP' d]) (O := [] ++ [none] ++ [none] ++ [none]) (xs := []) hd (kc hc (kc hb (kc ha k0))) p3 (Nat.le_of_ble_eq_true rfl) (by show w3.length * 4 ≤ 24; omega)
  refine ⟨w4, p4, run_to (seq_to (st1 := qSt (.lst [ltP' a, ltP' b, ltP' c, ltP' d]) (enc [[]]) [] none none none none none) rfl (seq_to (bind_at (a := [ltP' a, ltP' b, ltP' c, ltP' d]) rfl (e1.trans (e2.trans (e3.trans e4)))) (seq_ret rfl)))⟩
end Mine
end

section
open PySem PySem.W PyProof.Rows PySem.Calls
set_option maxRecDepth 10000
namespace Mine
theorem ret_at {a b : PM PF} {st : PS} {e : EV} (h : a st = some (.ret e, st)) : pSeq a b st = some (.ret e, st) := bind_at h rfl
theorem all_cons {p : PM EV} {ps : List (PM EV)} {st : PS} {x : PV} {xs : List PV} (h : p st = some (.v x, st)) (k : pAll ps st = some (xs, st)) : pAll (p :: ps) st = some (x :: xs, st) := bind_at h (bind_at k rfl)
theorem tup_to {ps : List (PM EV)} {st : PS} {xs : List PV} (h : pAll ps st = some (xs, st)) (hl : xs.length.ble 1000 = true) : pTup ps st = some (.v (.tup xs), st) := bind_at h (if_pos (Nat.le_of_ble_eq_true hl))
theorem map_loop {elt : PM EV} {f : PV → PV} {rest : List (Option EV)} : ∀ (xs : List PV) (_ : ∀ x ∈ xs, elt ⟨some (.v x) :: rest, []⟩ = some (.v (f x), ⟨some (.v x) :: rest, []⟩)) (o : Option EV), ∃ st', compLoop (fun v => pStore 0 (.v v)) (pRet true) elt xs ⟨o :: rest, []⟩ = some (xs.map f, st')
  | [], _, o => ⟨_, rfl⟩
  | x :: xs, h, o => by
    obtain ⟨st', e⟩ := map_loop xs (fun y hy => h y (.tail _ hy)) (some (.v x))
    exact ⟨st', bind_to (a := ()) (st1 := ⟨some (.v x) :: rest, []⟩) (if_pos (Nat.succ_pos _)) (bind_at (a := true) rfl (bind_at (h x (.head _)) (bind_to e rfl)))⟩
noncomputable def div144 : PV → PV
  | .int n => .int (n.fdiv 144)
  | y => y
noncomputable def kindOf3 (K : Nat → Lt) : PV → PV
  | .int n => ltP' (K (n.fmod 3).toNat)
  | y => y
theorem riders (k : Int) (h0 : 0 ≤ k) (h1 : k < 3) : ∃ R, Rider R ∧ [PV.str "\"+\"", .str "", .str "\"\\\"(\""][k.toNat]? = some (.str (tx R)) := by
  have : k = 0 ∨ k = 1 ∨ k = 2 := by omega
  rcases this with rfl | rfl | rfl
  · exact ⟨_, .inr (.inl rfl), rfl⟩
  · exact ⟨_, .inl rfl, rfl⟩
  · exact ⟨_, .inr (.inr rfl), rfl⟩
theorem drawnF_eq (il : List Int) (h : il.length ≤ 63) : ∃ (a b c d : Lt) (m : Int) (R : List Nat), a.Ok ∧ b.Ok ∧ c.Ok ∧ d.Ok ∧ 0 < m ∧ Rider R ∧ drawnF [.lst (il.map .int)] = some (.tup [.lst [ltP' a, ltP' b, ltP' c, ltP' d], .int m, .str (tx R)]) := by
  have e1 := drawn_a il h
  rw [show (il.take 4).map (fun x => PV.int (x.fmod 1000000)) = ((il.take 4).map fun x => x.fmod 1000000).map .int by rw [List.map_map]; rfl] at e1
  generalize hS : PV.lst (il.map .int) = S at e1
  generalize hM : (il.take 4).map (fun x => x.fmod 1000000) = M at e1
  obtain ⟨n0, n1, n2, n3, hn, e2⟩ := drawn_b S M (by rw [← hM, List.length_map, List.length_take]; omega)
  obtain ⟨s0, s1, s2, s3⟩ := hn fun x hx => by rw [← hM] at hx; obtain ⟨y, _, rfl⟩ := List.mem_map.mp hx; exact sm_mod y
  generalize hN : PV.lst [.int n0, .int n1, .int n2, .int n3] = N at e2
  obtain ⟨k0, h0, _, _, t0⟩ := drawn_turn (s := some (.v S)) (nums := some (.v N)) (ks := []) (t := 0) (x6 := none) (x7 := none) s0 (by decide) (by decide) (by decide)
  obtain ⟨k1, h1, _, _, t1⟩ := drawn_turn (s := some (.v S)) (nums := some (.v N)) (ks := [] ++ [ltP' k0]) (t := 1) s1 (by decide) (by decide) (Nat.le_of_ble_eq_true rfl)
  obtain ⟨k2, h2, z6, z7, t2⟩ := drawn_turn (s := some (.v S)) (nums := some (.v N)) (ks := [] ++ [ltP' k0] ++ [ltP' k1]) (t := 2) s2 (by decide) (by decide) (Nat.le_of_ble_eq_true rfl)
  have hk : ∀ i, (A4 k0 k1 k2 k2 i).Ok
    | 0 => h0
    | 1 => h1
    | 2 => h2
    | _ + 3 => h2
  have loop := (for_cons (asg := pT2 (fun v => pStore 4 (.v v)) (fun v => pStore 5 (.v v))) (x := .tup [.int 0, .int n0]) (xs := [.tup [.int 1, .int n1], .tup [.int 2, .int n2]]) (st := dSt (some (.v S)) (some (.v N)) [] none none none none) rfl t0).trans
    ((for_cons (asg := pT2 (fun v => pStore 4 (.v v)) (fun v => pStore 5 (.v v))) (x := .tup [.int 1, .int n1]) rfl t1).trans (for_cons (asg := pT2 (fun v => pStore 4 (.v v)) (fun v => pStore 5 (.v v))) (x := .tup [.int 2, .int n2]) rfl t2))
  generalize hW : n0.fdiv 144 + (n1.fdiv 144 + (n2.fdiv 144 + (n3.fdiv 144 + 0))) = W
  obtain ⟨R, hR, er⟩ := riders ((W.fdiv 60).fmod 3) (Int.fmod_nonneg_of_pos _ (by decide)) (Int.fmod_lt_of_pos _ (by decide))
  have hm := Int.fmod_nonneg_of_pos (W + 5) (b := 60) (by decide)
  have hint : ∀ x ∈ [PV.int n0, .int n1, .int n2, .int n3], ∃ n, x = .int n := fun x hx => by
    rcases List.mem_cons.mp hx with rfl | hx
    · exact ⟨_, rfl⟩
    rcases List.mem_cons.mp hx with rfl | hx
    · exact ⟨_, rfl⟩
    rcases List.mem_cons.mp hx with rfl | hx
    · exact ⟨_, rfl⟩
    · exact ⟨_, List.mem_singleton.mp hx⟩
  obtain ⟨_, c3⟩ := map_loop (elt := pBin (intP divI) (pLoad 0) (pRet (.v (.int 144)))) (f := div144) (rest := []) [.int n0, .int n1, .int n2, .int n3] (fun x hx => by
    obtain ⟨n, rfl⟩ := hint x hx
    exact int_to rfl rfl (divI_pos (by decide) (by decide))) none
  obtain ⟨_, c4⟩ := map_loop (elt := pBin subP (pLoad 1) (pBin (intP modI) (pLoad 0) (pRet (.v (.int 3))))) (f := kindOf3 (A4 k0 k1 k2 k2)) (rest := [some (.v (.lst [ltP' k0, ltP' k1, ltP' k2]))]) [.int n0, .int n1, .int n2, .int n3] (fun x hx => by
    obtain ⟨n, rfl⟩ := hint x hx
    have j0 := Int.fmod_nonneg_of_pos n (b := 3) (by decide)
    have j1 := Int.fmod_lt_of_pos n (b := 3) (by decide)
    refine bind_at rfl (bind_at (int_to rfl rfl (modI_pos (by decide))) (subL_to j0 (by omega) ?_))
    have : n.fmod 3 = 0 ∨ n.fmod 3 = 1 ∨ n.fmod 3 = 2 := by omega
    show _ = some (ltP' (A4 k0 k1 k2 k2 (n.fmod 3).toNat))
    rcases this with e | e | e <;> rw [e] <;> rfl) none
  refine ⟨_, _, _, _, 2 + (W + 5).fmod 60, R, hk (n0.fmod 3).toNat, hk (n1.fmod 3).toNat, hk (n2.fmod 3).toNat, hk (n3.fmod 3).toNat, by omega, hR, run_to
    (seq_to (st1 := ⟨[some (.v S), some (.v (.lst (M.map .int))), none, none, none, none, none, none, none, none], []⟩) ?_
    (seq_to (st1 := ⟨[some (.v S), some (.v N), none, none, none, none, none, none, none, none], []⟩) (asg_at e2 rfl)
    (seq_to (st1 := ⟨[some (.v S), some (.v N), some (.v (.lst loadsL)), none, none, none, none, none, none, none], []⟩) (asg_at (loads_to _) rfl)
    (seq_to (st1 := dSt (some (.v S)) (some (.v N)) [] none none none none) rfl
    (seq_to (bind_at (a := [.tup [.int 0, .int n0], .tup [.int 1, .int n1], .tup [.int 2, .int n2]]) ?_ loop)
    (seq_to (asg_at (e := .v (.int W)) ?_ rfl)
    (seq_to (asg_at (e := .v (.str (tx R))) ?_ rfl)
    (bind_to (a := ()) rfl (ret_at ?_)))))))))⟩
  · subst hS; exact asg_at e1 rfl
  · subst hN; rfl
  · refine bind_at (a := .v (.lst ([PV.int n0, .int n1, .int n2, .int n3].map div144))) ?_ ?_
    · subst hN
      exact comp_to (xs := [.int n0, .int n1, .int n2, .int n3]) rfl (Nat.le_of_ble_eq_true rfl) c3
    · subst hW; rfl
  · refine bind_at (a := .v (.lst [.str "\"+\"", .str "", .str "\"\\\"(\""])) rfl (bind_at (a := .v (.int ((W.fdiv 60).fmod 3))) (int_to (int_to rfl rfl (divI_pos (by decide) (by decide))) rfl (modI_pos (by decide))) (subL_to (Int.fmod_nonneg_of_pos _ (by decide)) ?_ er))
    have := Int.fmod_lt_of_pos (W.fdiv 60) (b := 3) (by decide)
    omega
  · refine bind_at (tup_to (all_cons (x := .lst ([PV.int n0, .int n1, .int n2, .int n3].map (kindOf3 (A4 k0 k1 k2 k2)))) ?_ (all_cons (x := .int (2 + (W + 5).fmod 60)) (addI_to rfl (int_to (addI_to rfl rfl) rfl (modI_pos (by decide)))) (all_cons (x := .str (tx R)) rfl rfl))) rfl) rfl
    subst hN
    exact comp_to (xs := [.int n0, .int n1, .int n2, .int n3]) rfl (Nat.le_of_ble_eq_true rfl) c4
end Mine
end

section
open PySem PySem.W PyProof.Rows PySem.Calls
set_option maxRecDepth 10000
namespace Mine
theorem store_new {es : List (Str × PV)} {k : Str} {v : PV} (h : k ∉ es.map (·.1)) : storeV es k v = es ++ [(k, v)] := by
  unfold storeV
  rw [if_neg]
  intro q
  rw [List.any_eq_true] at q
  obtain ⟨y, hy, e⟩ := q
  exact h (List.mem_map.mpr ⟨y, hy, of_decide_eq_true e⟩)
/-- the state of add_callers -/
noncomputable def aSt (A B : List (Str × PV)) (es : List (Str × PV)) (x3 x4 : Option EV) : PS := ⟨[some (.v (.dct A)), some (.v (.dct B)), some (.m 0), x3, x4], [some (.dict es)]⟩
noncomputable def aAsg : PV → PM Unit := pT2 (fun v => pStore 3 (.v v)) (fun v => pStore 4 (.v v))
theorem add_put {A B es : List (Str × PV)} {k : Str} {v : PV} (h : k ∉ es.map (·.1)) (hl : es.length ≤ 1000) : addc_blk1 (aSt A B es (some (.v (.str k))) (some (.v v))) = some (.next, aSt A B (es ++ [(k, v)]) (some (.v (.str k))) (some (.v v))) := by
  refine seq_to (bind_at rfl (bind_at (a := .m 0) rfl (bind_at (a := .v (.str k)) rfl ?_))) rfl
  refine (if_pos hl).trans ?_
  rw [store_new h]; rfl
theorem add_copy {A B : List (Str × PV)} : ∀ (rest pre : List (Str × PV)) (x3 x4 : Option EV), ((pre ++ rest).map (·.1)).Nodup → (pre ++ rest).length ≤ 1000 → ∃ y3 y4, pFor aAsg addc_blk1 (itemsV rest) (aSt A B pre x3 x4) = some (.next, aSt A B (pre ++ rest) y3 y4)
  | [], pre, x3, x4, _, _ => ⟨x3, x4, by rw [List.append_nil]; rfl⟩
  | (k, v) :: rest, pre, x3, x4, hn, hl => by
    have e : pre ++ (k, v) :: rest = (pre ++ [(k, v)]) ++ rest := by rw [List.append_assoc]; rfl
    obtain ⟨y3, y4, ih⟩ := add_copy (A := A) (B := B) rest (pre ++ [(k, v)]) (some (.v (.str k))) (some (.v v)) (e ▸ hn) (e ▸ hl)
    rw [e]
    refine ⟨y3, y4, (for_cons (st1 := aSt A B pre (some (.v (.str k))) (some (.v v))) rfl (add_put ?_ ?_)).trans ih⟩
    · intro m
      rw [List.map_append, List.nodup_append] at hn
      exact hn.2.2 k m k (.head _) rfl
    · rw [List.length_append] at hl; omega
theorem addcF_eq {T : List (Str × PV)} {k : Str} {v : PV} (hn : (T.map (·.1)).Nodup) (hk : k ∉ T.map (·.1)) (hl : T.length ≤ 1000) : addcF [.dct T, .dct [(k, v)]] = some (.dct (T ++ [(k, v)])) := by
  obtain ⟨y3, y4, e⟩ := add_copy (A := T) (B := [(k, v)]) T [] none none hn hl
  have hin : hasK T k = false := by
    unfold hasK
    cases h : T.lookup k with
    | none => rfl
    | some y => exact absurd (List.mem_map.mpr ⟨_, mem_of_lookup h, rfl⟩) hk
  refine run_to (seq_to (st1 := aSt T [(k, v)] [] none none) rfl (seq_to (bind_at rfl e) (seq_to (st1 := aSt T [(k, v)] (T ++ [(k, v)]) (some (.v (.str k))) (some (.v v))) (bind_at (a := [.tup [.str k, v]]) rfl ?_) (bind_to (a := ()) rfl (ret_at (bind_at rfl rfl))))))
  have hb : addc_blk3 (aSt T [(k, v)] T (some (.v (.str k))) (some (.v v))) = some (.next, aSt T [(k, v)] (T ++ [(k, v)]) (some (.v (.str k))) (some (.v v))) := by
    refine seq_to (st1 := aSt T [(k, v)] (T ++ [(k, v)]) (some (.v (.str k))) (some (.v v))) (iff_ (bind_at rfl (bind_at (a := .m 0) rfl ?_)) (add_put hk hl)) rfl
    show some (hasK T k, _) = _
    rw [hin]
  exact for_cons (asg := pT2 (fun v => pStore 3 (.v v)) (fun v => pStore 4 (.v v))) (st1 := aSt T [(k, v)] T (some (.v (.str k))) (some (.v v))) (xs := []) rfl hb
theorem cnt_loop {A : PV} : ∀ (vs : List PV) (n : Int) (x2 : Option EV), (∀ v ∈ vs, v = .int 1) → ∃ y2, pFor (fun v => pStore 2 (.v v)) cnt_blk1 vs ⟨[some (.v A), some (.v (.int n)), x2], []⟩ = some (.next, ⟨[some (.v A), some (.v (.int (n + vs.length))), y2], []⟩)
  | [], n, x2, _ => ⟨x2, by rw [List.length_nil, Int.natCast_zero, Int.add_zero]; rfl⟩
  | v :: vs, n, x2, h => by
    obtain rfl := h v (.head _)
    obtain ⟨y2, ih⟩ := cnt_loop (A := A) vs (n + 1) (some (.v (.int 1))) (fun v hv => h v (.tail _ hv))
    refine ⟨y2, (for_cons (st1 := ⟨[some (.v A), some (.v (.int n)), some (.v (.int 1))], []⟩) rfl (seq_to (st1 := ⟨[some (.v A), some (.v (.int (n + 1))), some (.v (.int 1))], []⟩) rfl rfl)).trans (ih.trans ?_)⟩
    rw [show n + 1 + (vs.length : Int) = n + ((PV.int 1 :: vs).length : Nat) by rw [List.length_cons]; omega]
theorem cntF_eq {T : List (Str × PV)} (h : ∀ p ∈ T, p.2 = .int 1) : cntF [.dct T] = some (.int T.length) := by
  obtain ⟨y2, e⟩ := cnt_loop (A := .dct T) (T.map (·.2)) 0 none (fun v hv => by obtain ⟨p, hp, rfl⟩ := List.mem_map.mp hv; exact h p hp)
  rw [Int.zero_add, List.length_map] at e
  exact run_to (seq_to (st1 := ⟨[some (.v (.dct T)), some (.v (.int 0)), none], []⟩) rfl (seq_to (bind_at rfl e) (ret_at (bind_at rfl rfl))))
end Mine
end

section
open PySem PySem.W PyProof.Rows PySem.Calls
set_option maxRecDepth 10000
namespace Mine
noncomputable def swd (m : Int) : List Lt → List Lt
  | [a, b, c, d] => (swR m a b c d).reverse
  | _ => []
theorem perms_perm : ∀ p ∈ perms4, p.Perm [0, 1, 2, 3] := by decide +kernel
theorem four {α : Type} : ∀ {w : List α}, w.length = 4 → ∃ a b c d, w = [a, b, c, d]
  | [a, b, c, d], _ => ⟨a, b, c, d, rfl⟩
theorem swd_perm {m : Int} {w : List Lt} (h : w.length = 4) : (swd m w).Perm w := by
  obtain ⟨a, b, c, d, rfl⟩ := four h
  refine (List.reverse_perm _).trans ?_
  exact (perms_perm _ (ordP_mem (lv4 m a b c d))).map (A4 a b c d)
theorem swd_inj {m : Int} (hm : 0 < m) {w w' : List Lt} (h : w.length = 4) (h' : w'.length = 4) (e : swd m w = swd m w') : w = w' := by
  obtain ⟨a, b, c, d, rfl⟩ := four h
  obtain ⟨a', b', c', d', rfl⟩ := four h'
  have e : swR m a b c d = swR m a' b' c' d' := List.reverse_inj.mp e
  have k := sweep_inj (fun x => ⟨Int.fmod_nonneg_of_pos _ hm, Int.fmod_lt_of_pos _ hm⟩) (swp_of hm a b c d) (e ▸ swp_of hm a' b' c' d')
  have k0 : a = a' := k 0 (by decide)
  have k1 : b = b' := k 1 (by decide)
  have k2 : c = c' := k 2 (by decide)
  have k3 : d = d' := k 3 (by decide)
  rw [k0, k1, k2, k3]
noncomputable def tab (m : Int) (ws : List (List Lt)) : List (Str × PV) := ws.map fun w => (tx (wL (swd m w)), .int 1)
theorem tab_keys (m : Int) (ws : List (List Lt)) : (tab m ws).map (·.1) = ws.map fun w => tx (wL (swd m w)) := by unfold tab; rw [List.map_map]; rfl
theorem key_inj {m : Int} (hm : 0 < m) {w w' : List Lt} (h : OkW w ∧ w.length = 4) (h' : OkW w' ∧ w'.length = 4) (e : tx (wL (swd m w)) = tx (wL (swd m w'))) : w = w' :=
  swd_inj hm h.2 h'.2 (wL_inj (fun a ha => h.1 a ((swd_perm h.2).mem_iff.mp ha)) (fun a ha => h'.1 a ((swd_perm h'.2).mem_iff.mp ha)) (tx_inj e))
theorem nodup_map {α β : Type} {f : α → β} : ∀ {l : List α}, l.Nodup → (∀ x ∈ l, ∀ y ∈ l, f x = f y → x = y) → (l.map f).Nodup
  | [], _, _ => .nil
  | x :: l, h, k => by
    obtain ⟨h1, h2⟩ := List.nodup_cons.mp h
    refine List.nodup_cons.mpr ⟨fun m => ?_, nodup_map h2 fun a ha b hb => k a (.tail _ ha) b (.tail _ hb)⟩
    obtain ⟨y, hy, e⟩ := List.mem_map.mp m
    exact h1 (k y (.tail _ hy) x (.head _) e ▸ hy)
noncomputable def lSt (S P D : PV) (m : Int) (R : List Nat) (T : List (Str × PV)) (x6 x7 x8 : Option EV) : PS := ⟨[some (.v S), some (.v P), some (.v (.int m)), some (.v (.str (tx R))), some (.v D), some (.v (.dct T)), x6, x7, x8], []⟩
noncomputable def lAsg : PV → PM Unit := fun v => pStore 6 (.v v)
theorem law_turn {S P D : PV} {m : Int} {R : List Nat} {T : List (Str × PV)} {x6 x7 x8 : Option EV} {w : List Lt} {xs : List PV} (hm : 0 < m) (hR : Rider R) (hw : OkW w) (hl : w.length = 4) (hn : (T.map (·.1)).Nodup) (hk : tx (wL (swd m w)) ∉ T.map (·.1)) (ht : T.length ≤ 1000) :
    ∃ y6 y7 y8, pFor lAsg law_blk3 (wV w :: xs) (lSt S P D m R T x6 x7 x8) = pFor lAsg law_blk3 xs (lSt S P D m R (T ++ [(tx (wL (swd m w)), .int 1)]) y6 y7 y8) := by
  obtain ⟨a, b, c, d, rfl⟩ := four hl
  have ha := hw a (.head _)
  have hb := hw b (.tail _ (.head _))
  have hc := hw c (.tail _ (.tail _ (.head _)))
  have hd := hw d (.tail _ (.tail _ (.tail _ (.head _))))
  obtain ⟨_, hu⟩ := units_loop [a, b, c, d] none none
  have l1 : (wL [a, b]).length ≤ 4 := (wL_len [a, b]).2
  have l2 : (wL [c, d]).length ≤ 4 := (wL_len [c, d]).2
  have l3 := hR.len
  refine ⟨some (.v (wV [a, b, c, d])), some (.v (.lst ([a, b, c, d].map uV))), some (.v (.str (tx (wL (swd m [a, b, c, d]))))), for_cons (st1 := lSt S P D m R T (some (.v (wV [a, b, c, d]))) x7 x8) rfl
    (seq_to (st1 := lSt S P D m R T (some (.v (wV [a, b, c, d]))) (some (.v (.lst ([a, b, c, d].map uV)))) x8) (asg_at (e := .v (.lst ([a, b, c, d].map uV))) ?_ rfl)
    (seq_to (st1 := lSt S P D m R T (some (.v (wV [a, b, c, d]))) (some (.v (.lst ([a, b, c, d].map uV)))) (some (.v (.str (tx (wL (swd m [a, b, c, d]))))))) (asg_at (e := .v (.str (tx (wL (swd m [a, b, c, d]))))) ?_ rfl)
    (seq_to (iff_ ?_ rfl) (seq_to (asg_at (e := .v (.dct (T ++ [(tx (wL (swd m [a, b, c, d])), .int 1)]))) ?_ rfl) rfl))))⟩
  · unfold law_comp1
    exact comp_to (xs := [a, b, c, d].map ltP') rfl (Nat.le_of_ble_eq_true rfl) hu
  · refine bind_at (a := [.str (tx (wL [a, b] ++ R ++ wL [c, d])), .int m]) (all_cons ?_ rfl) ?_
    · refine bind_at (a := .v (.str (tx (wL [a, b] ++ R)))) (bind_at (a := .v (.str (tx (wL [a, b])))) (bind_at (a := .v (.lst ([a, b].map uV))) rfl ?_) (bind_at rfl ?_)) (bind_at (a := .v (.str (tx (wL [c, d])))) (bind_at (a := .v (.lst ([c, d].map uV))) rfl ?_) ?_)
      · show (joinP _ "" (.v (.lst ([a, b].map uV)))).map _ = _
        rw [join_to (w := [a, b]) rfl (Nat.le_of_ble_eq_true rfl)]; rfl
      · refine (if_pos (show (wL [a, b]).length + R.length ≤ 1000 by omega)).trans ?_
        rw [tx_app]
      · show (joinP _ "" (.v (.lst ([c, d].map uV)))).map _ = _
        rw [join_to (w := [c, d]) rfl (Nat.le_of_ble_eq_true rfl)]; rfl
      · refine (if_pos (show (wL [a, b] ++ R).length + (wL [c, d]).length ≤ 1000 by rw [List.length_append]; omega)).trans ?_
        rw [tx_app]
    · show (sweptF _).map _ = _
      rw [sweptF_eq hm hR ha hb hc hd]; rfl
  · refine bind_at (a := .v (.str (tx (wL (swd m [a, b, c, d]))))) rfl (bind_at (a := .v (.str (tx (wL (swd m [a, b, c, d]))))) (bind_at (a := [.lst [ltP' a, ltP' b, ltP' c, ltP' d], .int m]) rfl ?_) ?_)
    · show (toldF _).map _ = _
      rw [toldF_eq hm]; rfl
    · show some (tx (wL (swd m [a, b, c, d])) != tx (wL (swd m [a, b, c, d])), _) = _
      rw [bne_self_eq_false]
  · refine bind_at (a := [.dct T, .dct [(tx (wL (swd m [a, b, c, d])), .int 1)]]) (all_cons rfl (all_cons rfl rfl)) ?_
    show (addcF _).map _ = _
    rw [addcF_eq hn hk ht]; rfl
theorem law_loop {S P D : PV} {m : Int} {R : List Nat} (hm : 0 < m) (hR : Rider R) : ∀ (rest done : List (List Lt)) (x6 x7 x8 : Option EV), (done ++ rest).Nodup → (∀ w ∈ done ++ rest, OkW w ∧ w.length = 4) → (done ++ rest).length ≤ 24 →
    ∃ y6 y7 y8, pFor lAsg law_blk3 (rest.map wV) (lSt S P D m R (tab m done) x6 x7 x8) = some (.next, lSt S P D m R (tab m (done ++ rest)) y6 y7 y8)
  | [], done, x6, x7, x8, _, _, _ => ⟨x6, x7, x8, by rw [List.append_nil]; rfl⟩
  | w :: rest, done, x6, x7, x8, hn, hw, hl => by
    have e : done ++ w :: rest = (done ++ [w]) ++ rest := by rw [List.append_assoc]; rfl
    have hd : ∀ x ∈ done, OkW x ∧ x.length = 4 := fun x hx => hw x (List.mem_append_left _ hx)
    have hww := hw w (List.mem_append_right _ (.head _))
    obtain ⟨n1, n2, n3⟩ := List.nodup_append.mp hn
    have hk : tx (wL (swd m w)) ∉ (tab m done).map (·.1) := fun q => by
      rw [tab_keys] at q
      obtain ⟨x, hx, q⟩ := List.mem_map.mp q
      exact n3 x hx w (.head _) (key_inj hm (hd x hx) hww q)
    have hlt : (tab m done).length ≤ 1000 := by
      unfold tab; rw [List.length_map]; rw [List.length_append] at hl; omega
    obtain ⟨y6, y7, y8, t⟩ := law_turn (S := S) (P := P) (D := D) (x6 := x6) (x7 := x7) (x8 := x8) (xs := rest.map wV) hm hR hww.1 hww.2 (by rw [tab_keys]; exact nodup_map n1 fun x hx y hy q => key_inj hm (hd x hx) (hd y hy) q) hk hlt
    have ht : tab m done ++ [(tx (wL (swd m w)), PV.int 1)] = tab m (done ++ [w]) := by unfold tab; rw [List.map_append]; rfl
    rw [ht] at t
    obtain ⟨z6, z7, z8, ih⟩ := law_loop hm hR rest (done ++ [w]) y6 y7 y8 (e ▸ hn) (e ▸ hw) (e ▸ hl)
    rw [e]
    exact ⟨z6, z7, z8, t.trans ih⟩
theorem look_ones {k : Str} : ∀ {es : List (Str × PV)}, k ∈ es.map (·.1) → (onesV es).lookup k = some (.int 1)
  | [], h => nomatch h
  | (k', v) :: es, h => by
    show ((k', PV.int 1) :: onesV es).lookup k = _
    rw [List.lookup_cons]
    by_cases e : k = k'
    · rw [beq_iff_eq.mpr e]
    · rw [beq_eq_false_iff_ne.mpr e]
      exact look_ones ((List.mem_cons.mp h).resolve_left e)
theorem rows_eq {kb : List (Str × PV)} : ∀ {T : List (Str × PV)}, (∀ p ∈ T, p.2 = .int 1 ∧ kb.lookup p.1 = some (.int 1)) → eqRows kb T = some true
  | [], _ => rfl
  | (k, v) :: T, h => by
    obtain ⟨e1, e2⟩ := h _ (.head _)
    have e1 : v = .int 1 := e1
    subst e1
    show (match kb.lookup k with | none => some false | some y => match eqInt (.int 1) y, eqRows kb T with | some e, some b => some (e && b) | _, _ => none) = _
    rw [e2, rows_eq fun p hp => h p (.tail _ hp)]; rfl
theorem law_plain (il : List Int) (h : il.length ≤ 63) : ∃ st', law_body (st0 9 [.lst (il.map .int)]) = some (.ret (.v (.bool true)), st') := by
  obtain ⟨a, b, c, d, m, R, ha, hb, hc, hd, hm, hR, e1⟩ := drawnF_eq il h
  obtain ⟨ws, hp, e2⟩ := ordersF_eq ha hb hc hd
  have hlen : ∀ w ∈ ws, w.length = 4 := fun w hw => ((hp.mem w).mp hw).length_eq
  have hok : ∀ w ∈ ws, OkW w ∧ w.length = 4 := fun w hw => ⟨fun x hx => by
    have := ((hp.mem w).mp hw).mem_iff.mp hx
    rcases List.mem_cons.mp this with rfl | this
    · exact hd
    rcases List.mem_cons.mp this with rfl | this
    · exact hc
    rcases List.mem_cons.mp this with rfl | this
    · exact hb
    · rw [List.mem_singleton.mp this]; exact ha, hlen w hw⟩
  generalize hS : PV.lst (il.map .int) = S at e1
  generalize hP : PV.lst [ltP' a, ltP' b, ltP' c, ltP' d] = P at e1 e2
  obtain ⟨y6, y7, y8, loop⟩ := law_loop (S := S) (P := P) (D := .dct (enc ws)) hm hR ws [] none none none hp.nd hok hp.len
  rw [List.nil_append] at loop
  have hv : (enc ws).map (·.2) = ws.map wV := by unfold enc; rw [List.map_map]; rfl
  have hel : (enc ws).length = ws.length := by unfold enc; rw [List.length_map]
  have htl : (tab m ws).length = ws.length := by unfold tab; rw [List.length_map]
  have hw24 := hp.len
  have hones : ∀ p ∈ tab m ws, p.2 = .int 1 := fun p hq => by obtain ⟨w, _, rfl⟩ := List.mem_map.mp hq; rfl
  have hrows : eqRows (onesV (enc ws)) (tab m ws) = some true := rows_eq fun p hq => ⟨hones p hq, look_ones (by
    obtain ⟨w, hw, rfl⟩ := List.mem_map.mp hq
    have : swd m w ∈ ws := (hp.mem _).mpr ((swd_perm (hlen w hw)).trans ((hp.mem w).mp hw))
    exact List.mem_map.mpr ⟨_, List.mem_map.mpr ⟨_, this, rfl⟩, rfl⟩)⟩
  refine ⟨lSt S P (.dct (enc ws)) m R (tab m ws) y6 y7 y8, seq_to (st1 := ⟨[some (.v S), some (.v P), some (.v (.int m)), some (.v (.str (tx R))), none, none, none, none, none], []⟩) (bind_at (a := .v (.tup [P, .int m, .str (tx R)])) (bind_at (a := [S]) rfl ?_) rfl)
    (seq_to (asg_at (e := .v (.dct (enc ws))) (bind_at (a := [P]) rfl ?_) rfl) (seq_to (st1 := lSt S P (.dct (enc ws)) m R [] none none none) rfl (seq_to (bind_at (a := ws.map wV) (bind_at rfl ?_) loop) (ret_at ?_))))⟩
  · show (drawnF [S]).map _ = _
    rw [e1]; rfl
  · show (ordersF [P]).map _ = _
    rw [e2]; rfl
  · show some ((enc ws).map (·.2), _) = _
    rw [hv]
  · refine bind_at (bind_at (a := true) (ift (bind_at rfl (bind_at (a := .v (.dct (onesV (enc ws)))) (bind_at rfl ?_) ?_)) (bind_at (a := .v (.int ws.length)) (bind_at (a := [.dct (tab m ws)]) rfl ?_) (bind_at (a := .v (.int ws.length)) (bind_at rfl ?_) ?_))) rfl) rfl
    · show (if (enc ws).length ≤ 1000 then some (onesV (enc ws)) else none).map _ = _
      rw [hel, if_pos (by omega)]; rfl
    · show ((eqRows (onesV (enc ws)) (tab m ws)).map fun r => (tab m ws).length == (onesV (enc ws)).length && r).map _ = _
      rw [hrows]
      show some ((tab m ws).length == (onesV (enc ws)).length && true, _) = _
      rw [show (onesV (enc ws)).length = (enc ws).length from List.length_map _, htl, hel, beq_self_eq_true]; rfl
    · show (cntF _).map _ = _
      rw [cntF_eq hones, htl]; rfl
    · show (if (enc ws).length ≤ 1000000 then some ((enc ws).length : Int) else none).map _ = _
      rw [hel, if_pos (by omega)]; rfl
    · show some ((ws.length : Int) == (ws.length : Int), _) = _
      rw [beq_self_eq_true]
end Mine
end

section
open PySem PySem.W PyProof.Rows PySem.Calls
set_option maxRecDepth 100000
set_option maxHeartbeats 2000000
namespace Mine
theorem wp_cast {α : Type} {M : Model} {A A' : Around} {t t' : Sem α} {Q : α → Shared → Prop} {E : Value → Shared → Prop} {s : Shared} (h1 : A = A') (h2 : t = t') (h : wpAny M A t Q E s) : wpAny M A' t' Q E s := h1 ▸ h2 ▸ h
theorem law_good {c : ClaimW} {cl : Str → Option Addr} {mean : ExcName → Option Value} {args : List WData} {s₁ s' : Shared} (hr : ∀ cls, c.raises args cls = false) (hp : c.post args (.bool true) args = true)
    (hk : ∀ b o, s₁.heap.get? b = some o → s'.heap.get? b = some o) (hos : s'.os = s₁.os) (hb : AllBare s'.gens) : GoodWG c cl mean args s₁ (.ok (.ret (.bool true))) s' :=
  ⟨.inl ⟨_, _, [], rfl, hr, ReadsW.bool true, hp, fun _ => ⟨List.nodup_nil, fun _ hm => (nomatch hm)⟩⟩, .of_keep hk, hos, hb⟩
end Mine
end
open PySem PySem.W PyProof.Rows PySem.Calls
set_option maxRecDepth 100000
set_option maxHeartbeats 0
namespace Mine
/-- the head finds this pair by its name: the text itself does for its quick copy -/
noncomputable def main.tw7275773228113289702 : Program := pw
theorem main.te7275773228113289702 : PySem.Challenge.pw_wf0052_01 = main.tw7275773228113289702 := rfl
set_option Elab.async true
theorem main : myRw.Holds := by
  w_on
  o_law
  o_head (kHook myK myAs (fun _ => by kernel_rfl))
  (case hw => w_witness2)
  intro w s₀ s₁ mg mb G Y fa o pm cd doc dV kV ho hd hcd hD hmg hg args vals as hpre hlay hrd hwl hlo
  have KX := kIn_of Y
  have X := (Ground.X G).1
  have V := (Ground.X G).2
  refine Ground.open G ?_
  intro T B D TE TW
  have TA := at_of_top T
  wrow_args hpre hlay hrd hwl hlo
  all_goals refine enter_call ?_
  all_goals w_top on
  all_goals (have K0 := below_caller (Top.heap T))
  all_goals w_call any ho hd hcd hD T F
  rename_i il _ _ _ _ _ _ _ _ _ _ _ _ wl _ _ _ hc _ h₁ _
  obtain ⟨st', hlaw⟩ := law_plain il (by omega)
  refine wp_cast (A := callerA.deeper (envOf "law" (fnNo 61).2.2 s₁.heap.objs.size fa cd)) (t := execs (fnNo 61).2.1 (envOf "law" (fnNo 61).2.2 s₁.heap.objs.size fa cd)) ?_ ?_ ?_
  · with_unfolding_all rfl
  · with_unfolding_all rfl
  refine law_run KX T.g T.b T.builtins T.nolimit (let ⟨_, ⟨o, _, _, ho, _⟩, _⟩ := (T.seer (by decide +kernel)).mods; ⟨o, ho⟩) F ?_ wl hg hlaw ?_
  · rfl
  intro s' hk hos hgb
  refine law_good (fun _ => rfl) ?_ hk hos hgb
  first | rfl | wrow_post
end Mine
theorem PySem.Challenge.cw_wf0052_01_holds : PySem.Challenge.rw_wf0052_01.Holds :=
  Mine.rw_eq Mine.main
