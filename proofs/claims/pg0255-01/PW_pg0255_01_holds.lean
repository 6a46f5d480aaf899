import PyProof.Rows.All
import Wide.All
import OpenK.AllK
import Wide.FinOn
import KE.KLam
import PySem.Challenge.RW_pg0255_01
set_option Elab.async false
set_option maxRecDepth 1000000
set_option maxHeartbeats 8000000
set_option linter.unusedVariables false
set_option linter.unusedSimpArgs false
set_option genSizeOf false
set_option genInjectivity false
noncomputable section
namespace Mine
open PySem PySem.W PySem.Calls PyProof.Rows
noncomputable abbrev FH := Addr → Option Obj
noncomputable def Sub (F G : FH) : Prop := ∀ a o, F a = some o → G a = some o
noncomputable def Inh (F : FH) (h : Heap) : Prop := ∀ a o, F a = some o → h.get? a = some o
theorem Sub.refl (F : FH) : Sub F F := fun _ _ e => e
theorem Sub.trans {F G H : FH} (x : Sub F G) (y : Sub G H) : Sub F H := fun a o e => y a o (x a o e)
structure VP where
  rd : FH → Value → Prop
  mono : ∀ {F G v}, Sub F G → rd F v → rd G v
noncomputable def vInt (i : Int) : VP := ⟨fun _ v => ∃ t, v = .int i t, fun _ h => h⟩
noncomputable def L2S (l : List Nat) : PySem.Str := ⟨l.toArray⟩
noncomputable def vStr (x : List Nat) : VP := ⟨fun _ v => ∃ t, v = .str (L2S x) t, fun _ h => h⟩
noncomputable def vBool (b : Bool) : VP := ⟨fun _ v => v = .bool b, fun _ h => h⟩
noncomputable def vVal (u : Value) : VP := ⟨fun _ v => v = u, fun _ h => h⟩
noncomputable def vAny : VP := ⟨fun _ _ => True, fun _ h => h⟩
inductive Rds (F : FH) : List VP → List Value → Prop
  | nil : Rds F [] []
  | cons {p ps v vs} : p.rd F v → Rds F ps vs → Rds F (p :: ps) (v :: vs)
theorem Rds.mono {F G : FH} (h : Sub F G) : ∀ {ps vs}, Rds F ps vs → Rds G ps vs
  | _, _, .nil => .nil
  | _, _, .cons a b => .cons (VP.mono _ h a) (b.mono h)
theorem Rds.length {F : FH} : ∀ {ps vs}, Rds F ps vs → vs.length = ps.length
  | _, _, .nil => rfl
  | _, _, .cons _ b => by simp [b.length]
theorem Rds.append {F : FH} : ∀ {ps vs qs us}, Rds F ps vs → Rds F qs us → Rds F (ps ++ qs) (vs ++ us)
  | _, _, _, _, .nil, y => y
  | _, _, _, _, .cons a b, y => .cons a (b.append y)
theorem Rds.get {F : FH} : ∀ {ps : List VP} {vs : List Value}, Rds F ps vs → ∀ {i : Nat} {p : VP}, ps[i]? = some p → ∃ v, vs[i]? = some v ∧ p.rd F v
  | _, _, .nil, i, p, e => by simp at e
  | _, _, .cons a b, 0, p, e => by simp at e; subst e; exact ⟨_, rfl, a⟩
  | _, _, .cons a b, i + 1, p, e => by simpa using b.get (by simpa using e)
theorem Rds.drop {F : FH} : ∀ {ps : List VP} {vs : List Value}, Rds F ps vs → ∀ n, Rds F (ps.drop n) (vs.drop n)
  | _, _, .nil, n => by simpa using Rds.nil
  | _, _, .cons a b, 0 => .cons a b
  | _, _, .cons a b, n + 1 => b.drop n
theorem Rds.take {F : FH} : ∀ {ps : List VP} {vs : List Value}, Rds F ps vs → ∀ n, Rds F (ps.take n) (vs.take n)
  | _, _, .nil, n => by simpa using Rds.nil
  | _, _, .cons a b, 0 => .nil
  | _, _, .cons a b, n + 1 => .cons a (b.take n)
theorem Rds.reverse {F : FH} : ∀ {ps : List VP} {vs : List Value}, Rds F ps vs → Rds F ps.reverse vs.reverse
  | _, _, .nil => .nil
  | _, _, .cons a b => by rw [List.reverse_cons, List.reverse_cons]; exact b.reverse.append (.cons a .nil)
theorem Rds.set {F : FH} : ∀ {ps : List VP} {vs : List Value}, Rds F ps vs → ∀ {i : Nat} {p : VP} {v : Value}, p.rd F v → Rds F (ps.set i p) (vs.set i v)
  | _, _, .nil, i, p, v, _ => by simpa using Rds.nil
  | _, _, .cons a b, 0, p, v, h => .cons h b
  | _, _, .cons a b, i + 1, p, v, h => .cons a (b.set h)
noncomputable def LsObj (vs : List Value) (o : Obj) : Prop := ∃ n, o = { cls := .type "list", data := .seq vs.toArray n }
noncomputable def TpObj (vs : List Value) (o : Obj) : Prop := ∃ n, o = { cls := .type "tuple", data := .seq vs.toArray n }
theorem LsObj.isList {vs : List Value} {o : Obj} {h : Heap} {a : Addr} (x : LsObj vs o) (e : h.get? a = some o) : h.IsList a vs.toArray := by
  obtain ⟨n, rfl⟩ := x; exact ⟨_, e, rfl, n, rfl⟩
noncomputable def vList (ps : List VP) : VP := ⟨fun F v => ∃ (a : Addr) (o : Obj) (vs : List Value), v = .ref a ∧ F a = some o ∧ LsObj vs o ∧ Rds F ps vs,
  fun h ⟨a, o, vs, e, f, l, r⟩ => ⟨a, o, vs, e, h _ _ f, l, r.mono h⟩⟩
noncomputable def vTup (ps : List VP) : VP := ⟨fun F v => ∃ (a : Addr) (o : Obj) (vs : List Value), v = .ref a ∧ F a = some o ∧ TpObj vs o ∧ Rds F ps vs,
  fun h ⟨a, o, vs, e, f, l, r⟩ => ⟨a, o, vs, e, h _ _ f, l, r.mono h⟩⟩
/-- the fields of an instance's dict -/
noncomputable def FieldsAre (F : FH) (fs : List (PySem.Str × VP)) (m : PySem.Str → Option Value) : Prop :=
  (∀ x p, (x, p) ∈ fs → ∃ v, m x = some v ∧ p.rd F v) ∧ ∀ x, x ∉ fs.map (·.1) → m x = none
theorem FieldsAre.mono {F G : FH} (h : Sub F G) {fs m} (x : FieldsAre F fs m) : FieldsAre G fs m :=
  ⟨fun n p hm => let ⟨v, e, r⟩ := x.1 n p hm; ⟨v, e, p.mono h r⟩, x.2⟩
noncomputable def DictObj (N : Nat) (m : PySem.Str → Option Value) (o : Obj) : Prop := ∃ es n, o = dictOf es n ∧ es.length ≤ N ∧ StrKeys es.toArray ∧ ∀ name, nsFind es.toArray name = m name
theorem DictObj.ns {h : Heap} {a : Addr} {o : Obj} {N m} (x : DictObj N m o) (e : h.get? a = some o) : h.Ns a m := by
  obtain ⟨es, n, rfl, _, hk, hf⟩ := x
  exact ⟨_, _, _, e, rfl, hk, hf⟩
/-- a frozen instance of the class at C -/
noncomputable def vInst (C : Addr) (fs : List (PySem.Str × VP)) : VP :=
  ⟨fun F v => ∃ a d od m, v = .ref a ∧ F a = some (instObj C d) ∧ F d = some od ∧ DictObj fs.length m od ∧ FieldsAre F fs m,
   fun h ⟨a, d, od, m, e, f1, f2, dd, r⟩ => ⟨a, d, od, m, e, h _ _ f1, h _ _ f2, dd, r.mono h⟩⟩
structure Step (W : Addr → Prop) (F : FH) (s : Shared) (F' : FH) (s' : Shared) : Prop where
  sub : Sub F F'
  inh : Inh F' s'.heap
  fresh : ∀ a o, s.heap.get? a = some o → F a = none → F' a = none
  keep : ∀ a o, ¬ W a → s.heap.get? a = some o → s'.heap.get? a = some o
  live : ∀ a o, s.heap.get? a = some o → ∃ o', s'.heap.get? a = some o'
  gens : s'.gens = s.gens
  os : s'.os = s.os
theorem Step.trans {W : Addr → Prop} {F G H : FH} {s t u : Shared} (x : Step W F s G t) (y : Step W G t H u) : Step W F s H u where
  sub := x.sub.trans y.sub
  inh := y.inh
  fresh := fun a o e n => let ⟨o', e'⟩ := x.live a o e; y.fresh a o' e' (x.fresh a o e n)
  keep := fun a o w e => y.keep a o w (x.keep a o w e)
  live := fun a o e => let ⟨o', e'⟩ := x.live a o e; y.live a o' e'
  gens := y.gens.trans x.gens
  os := y.os.trans x.os
theorem Step.weaken {W W' : Addr → Prop} {F G : FH} {s t : Shared} (x : Step W F s G t) (h : ∀ a, W a → W' a) : Step W' F s G t :=
  { x with keep := fun a o w e => x.keep a o (fun q => w (h a q)) e }
theorem Step.refl {W : Addr → Prop} {F : FH} {s : Shared} (h : Inh F s.heap) : Step W F s F s :=
  ⟨Sub.refl F, h, fun _ _ _ n => n, fun _ _ _ e => e, fun _ o e => ⟨o, e⟩, rfl, rfl⟩
theorem Step.heap {W : Addr → Prop} {F : FH} {s : Shared} (h : Inh F s.heap) {h' : Heap} {tk : Nat} (k : ∀ b o, s.heap.get? b = some o → h'.get? b = some o) :
    Step W F s F { s with heap := h', toks := tk } :=
  ⟨Sub.refl F, fun a o e => k a o (h a o e), fun _ _ _ n => n, fun a o _ e => k a o e, fun a o e => ⟨o, k a o e⟩, rfl, rfl⟩
theorem Step.toks {W : Addr → Prop} {F : FH} {s : Shared} (h : Inh F s.heap) {tk : Nat} : Step W F s F { s with toks := tk } :=
  Step.heap (h' := s.heap) h fun _ _ e => e
open Classical in
noncomputable def FH.set (F : FH) (a : Addr) (o : Obj) : FH := fun b => if b = a then some o else F b
theorem FH.set_at (F : FH) (a : Addr) (o : Obj) : F.set a o a = some o := by simp [FH.set]
theorem FH.set_sub {F : FH} {a : Addr} {o : Obj} (h : F a = none) : Sub F (F.set a o) := fun b ob e => by
  unfold FH.set
  by_cases q : b = a
  · subst q; rw [h] at e; cases e
  · simp [q, e]
theorem FH.set_ne {F : FH} {a b : Addr} {o : Obj} (h : b ≠ a) : F.set a o b = F b := by simp [FH.set, h]
/-- a new object is frozen -/
theorem Step.freeze {W : Addr → Prop} {F : FH} {s : Shared} (h : Inh F s.heap) {h' : Heap} {tk : Nat} {a : Addr} {o : Obj}
    (k : ∀ b ob, s.heap.get? b = some ob → h'.get? b = some ob) (n : s.heap.get? a = none) (e : h'.get? a = some o) :
    Step W F s (F.set a o) { s with heap := h', toks := tk } := by
  have hn : F a = none := by
    cases q : F a with
    | none => rfl
    | some o' => rw [h a o' q] at n; cases n
  refine ⟨FH.set_sub hn, fun b ob q => ?_, fun b ob q m => ?_, fun b ob _ q => k b ob q, fun b ob q => ⟨ob, k b ob q⟩, rfl, rfl⟩
  · unfold FH.set at q
    by_cases z : b = a
    · subst z; simp at q; subst q; exact e
    · simp [z] at q; exact k b ob (h b ob q)
  · rw [FH.set_ne (fun z => by subst z; rw [n] at q; cases q)]; exact m
theorem get_size (h : Heap) : h.get? h.objs.size = none := by
  cases q : h.get? h.objs.size with
  | none => rfl
  | some o => exact absurd (Heap.lt_size q) (Nat.lt_irrefl _)
/-- a pushed object is frozen -/
theorem Step.push {W : Addr → Prop} {F : FH} {s : Shared} (h : Inh F s.heap) {o : Obj} (ho : o.isFreed = false) {tk : Nat} :
    Step W F s (F.set s.heap.objs.size o) { s with heap := s.heap.push o, toks := tk } :=
  Step.freeze h (fun b ob e => Heap.get?_push_of_some _ e) (get_size _) (Heap.get?_push_size _ ho)
/-- owned cells -/
inductive Cell
  | lst (ps : List VP)
  | inst (a C : Addr) (fs : List (PySem.Str × VP))
  | raw (o : Obj) (fz : List (Addr × Obj))
noncomputable def CellOK (F : FH) (h : Heap) (a : Addr) : Cell → Prop
  | .lst ps => ∃ o vs, h.get? a = some o ∧ LsObj vs o ∧ Rds F ps vs
  | .inst x C fs => F x = some (instObj C a) ∧ ∃ o m, h.get? a = some o ∧ DictObj fs.length m o ∧ FieldsAre F fs m
  | .raw o fz => h.get? a = some o ∧ ∀ b ob, (b, ob) ∈ fz → F b = some ob
theorem CellOK.mono {F G : FH} (s : Sub F G) {h : Heap} {a : Addr} : ∀ {c : Cell}, CellOK F h a c → CellOK G h a c
  | .lst _, ⟨o, vs, e, l, r⟩ => ⟨o, vs, e, l, r.mono s⟩
  | .inst _ _ _, ⟨e, o, m, q, d, r⟩ => ⟨s _ _ e, o, m, q, d, r.mono s⟩
  | .raw _ _, ⟨e, k⟩ => ⟨e, fun b ob hm => s _ _ (k b ob hm)⟩
theorem CellOK.ex {F : FH} {h : Heap} {a : Addr} : ∀ {c : Cell}, CellOK F h a c → ∃ o, h.get? a = some o
  | .lst _, ⟨o, _, e, _⟩ => ⟨o, e⟩
  | .inst _ _ _, ⟨_, o, _, e, _⟩ => ⟨o, e⟩
  | .raw o _, ⟨e, _⟩ => ⟨o, e⟩
theorem CellOK.at {F : FH} {h h' : Heap} {a : Addr} (k : ∀ o, h.get? a = some o → h'.get? a = some o) : ∀ {c : Cell}, CellOK F h a c → CellOK F h' a c
  | .lst _, ⟨o, vs, e, r⟩ => ⟨o, vs, k o e, r⟩
  | .inst _ _ _, ⟨e0, o, m, e, r⟩ => ⟨e0, o, m, k o e, r⟩
  | .raw o _, ⟨e, q⟩ => ⟨k o e, q⟩
noncomputable abbrev Res := List (Addr × Cell)
structure ResOK (F : FH) (h : Heap) (R : Res) : Prop where
  ok : ∀ a c, (a, c) ∈ R → CellOK F h a c
  off : ∀ a c, (a, c) ∈ R → F a = none
  nodup : (R.map (·.1)).Nodup
noncomputable def Res.has (R : Res) (a : Addr) : Prop := a ∈ R.map (·.1)
theorem Res.has_of {R : Res} {a c} (h : (a, c) ∈ R) : R.has a := List.mem_map_of_mem (f := fun p : Addr × Cell => p.1) h
structure St where
  vars : List (PySem.Str × VP)
  res : Res := []
noncomputable def VarAt (env : Env) (h : Heap) (x : PySem.Str) (v : Value) : Prop :=
  (env.kindOf x = some .local ∧ ∃ m, h.Ns env.locals m ∧ m x = some v) ∨
  ((env.kindOf x = some .cell ∨ (env.kindOf x = some .free ∧ (x == (PySem.Str.ofString "__classdict__")) = false)) ∧ ∃ c, env.cells.lookup x = some c ∧ h.IsCell c (some v))
structure Cx where
  prog : Program
  w : World
  A : Around
  env : Env
  g : Heap
  F0 : FH
  s0 : Shared
  W : Addr → Prop
  own : Bool
  priv : List (Addr × Obj)
structure StOK (cx : Cx) (F : FH) (s : Shared) (σ : St) : Prop where
  base : Step cx.W cx.F0 cx.s0 F s
  gF : ∀ b o, cx.g.get? b = some o → F b = some o
  hh : cx.A.handled = none
  kind : cx.env.scope.kind = .function
  glob : cx.env.globals = mainGlobals
  bltn : cx.env.builtins = builtinsNs
  ns : ∃ m, s.heap.Ns cx.env.locals m
  newL : cx.s0.heap.get? cx.env.locals = none
  locF : F cx.env.locals = none
  locR : ¬ σ.res.has cx.env.locals
  cells : ∀ x c, (x, c) ∈ cx.env.cells → (∃ v, s.heap.IsCell c v) ∧ F c = none ∧ ¬ σ.res.has c
  apart : cx.env.cells.Pairwise fun x y => x.2 ≠ y.2
  newC : cx.own = true → ∀ x c, (x, c) ∈ cx.env.cells → cx.s0.heap.get? c = none
  vars : ∀ x p, (x, p) ∈ σ.vars → ∃ v, VarAt cx.env s.heap x v ∧ p.rd F v
  res : ResOK F s.heap σ.res
  resW : ∀ a, σ.res.has a → cx.W a ∨ cx.s0.heap.get? a = none
  locW : ¬ cx.W cx.env.locals
  cellW : ∀ x c, (x, c) ∈ cx.env.cells → ¬ cx.W c
  nd : (σ.vars.map (·.1)).Nodup
  priv : ∀ a o, (a, o) ∈ cx.priv → s.heap.get? a = some o ∧ F a = none ∧ ¬ σ.res.has a ∧ a ≠ cx.env.locals ∧ ∀ y, (y, a) ∉ cx.env.cells
theorem StOK.inh {cx F s σ} (x : StOK cx F s σ) : Inh F s.heap := x.base.inh
theorem VarAt.at {env : Env} {h h' : Heap} {x : PySem.Str} {v : Value} (q : VarAt env h x v) (hl : ∀ o, h.get? env.locals = some o → h'.get? env.locals = some o)
    (hc : ∀ c, (x, c) ∈ env.cells → ∀ o, h.get? c = some o → h'.get? c = some o) : VarAt env h' x v := by
  rcases q with ⟨k, m, n, e⟩ | ⟨k, c, lk, o, e, d⟩
  · exact .inl ⟨k, m, n.at' hl, e⟩
  · exact .inr ⟨k, c, lk, o, hc c (mem_of_lookup lk) o e, d⟩
/-- an expression's step: the owned cells may turn -/
theorem StOK.step {cx : Cx} {F F' : FH} {s s' : Shared} {σ σ' : St} (x : StOK cx F s σ) (st : Step σ.res.has F s F' s') (hv : σ'.vars = σ.vars)
    (hr : ResOK F' s'.heap σ'.res) (ha : σ'.res.map (·.1) = σ.res.map (·.1)) : StOK cx F' s' σ' := by
  have hhas : ∀ a, σ'.res.has a ↔ σ.res.has a := fun a => by unfold Res.has; rw [ha]
  have kl : ∀ o, s.heap.get? cx.env.locals = some o → s'.heap.get? cx.env.locals = some o := fun o e => st.keep _ o x.locR e
  have kc : ∀ y c, (y, c) ∈ cx.env.cells → ∀ o, s.heap.get? c = some o → s'.heap.get? c = some o := fun y c hm o e => st.keep _ o (x.cells y c hm).2.2 e
  refine { base := ?_, gF := fun b o e => st.sub _ _ (x.gF b o e), hh := x.hh, kind := x.kind, glob := x.glob, bltn := x.bltn, ns := ?_, newL := x.newL, locF := ?_, locR := fun q => x.locR ((hhas _).mp q), cells := ?_, apart := x.apart, newC := x.newC, vars := ?_, res := hr, resW := fun a q => x.resW a ((hhas _).mp q), locW := x.locW, cellW := x.cellW, nd := hv ▸ x.nd, priv := fun a o hm => ?_ }
  · refine ⟨x.base.sub.trans st.sub, st.inh, fun a o e n => ?_, fun a o w e => ?_, fun a o e => ?_, st.gens.trans x.base.gens, st.os.trans x.base.os⟩
    · obtain ⟨o', e'⟩ := x.base.live a o e
      exact st.fresh a o' e' (x.base.fresh a o e n)
    · refine st.keep a o (fun q => ?_) (x.base.keep a o w e)
      rcases x.resW a q with h | h
      · exact w h
      · rw [h] at e; cases e
    · obtain ⟨o', e'⟩ := x.base.live a o e
      exact st.live a o' e'
  · obtain ⟨m, n⟩ := x.ns; exact ⟨m, n.at' kl⟩
  · obtain ⟨m, o, es, ep, e, _⟩ := x.ns
    exact st.fresh _ o e x.locF
  · intro y c hm
    obtain ⟨⟨v, o, e, d⟩, f, r⟩ := x.cells y c hm
    exact ⟨⟨v, o, kc y c hm o e, d⟩, st.fresh _ o e f, fun q => r ((hhas _).mp q)⟩
  · intro y p hm
    rw [hv] at hm
    obtain ⟨v, a, r⟩ := x.vars y p hm
    exact ⟨v, a.at kl (fun c hc => kc y c hc), p.mono st.sub r⟩
  · obtain ⟨p1, p2, p3, p4, p5⟩ := x.priv a o hm
    exact ⟨st.keep a o p3 p1, st.fresh a o p1 p2, fun q => p3 ((hhas _).mp q), p4, p5⟩
/-- an expression's step where nothing that stood has turned -/
theorem ResOK.step {F F' : FH} {s s' : Shared} {R : Res} {W : Addr → Prop} (x : ResOK F s.heap R) (st : Step W F s F' s') (hW : ∀ a, R.has a → ¬ W a) : ResOK F' s'.heap R where
  ok := fun a c hm => (CellOK.mono st.sub ((x.ok a c hm).at fun o e => st.keep a o (hW a (Res.has_of hm)) e))
  off := fun a c hm => let ⟨o, e⟩ := (x.ok a c hm).ex; st.fresh a o e (x.off a c hm)
  nodup := x.nodup
theorem StOK.pure {cx : Cx} {F F' : FH} {s s' : Shared} {σ : St} (x : StOK cx F s σ) (st : Step (fun _ => False) F s F' s') : StOK cx F' s' σ :=
  x.step (st.weaken fun _ h => h.elim) rfl (x.res.step st fun _ _ h => h) rfl
/-- judgements -/
structure Ev (cx : Cx) (σ : St) (e : Expr) (p : VP) (σ' : St) : Prop where
  like : σ'.res.map (·.1) = σ.res.map (·.1)
  vars : σ'.vars = σ.vars
  run : ∀ F s, StOK cx F s σ → ∀ (Q : Value → Shared → Prop) (E : Value → Shared → Prop),
    (∀ v F' s', Step σ.res.has F s F' s' → StOK cx F' s' σ' → p.rd F' v → Q v s') →
    wpAny (model cx.prog cx.w) cx.A (eval e cx.env) Q E s
noncomputable def LstSrc (σ : St) (F : FH) (v : Value) (ps : List VP) : Prop := (vList ps).rd F v ∨ ∃ a, v = .ref a ∧ (a, Cell.lst ps) ∈ σ.res
theorem LstSrc.mono {σ : St} {F G : FH} {v ps} (h : LstSrc σ F v ps) (s : Sub F G) : LstSrc σ G v ps := h.imp (fun r => (vList ps).mono s r) id
noncomputable def vSrc (σ : St) (ps : List VP) : VP := ⟨fun F v => LstSrc σ F v ps, fun s h => h.mono s⟩
structure Tst (cx : Cx) (σ : St) (e : Expr) (b : Bool) (σ' : St) : Prop where
  like : σ'.res.map (·.1) = σ.res.map (·.1)
  vars : σ'.vars = σ.vars
  run : ∀ F s, StOK cx F s σ → ∀ (Q : Bool → Shared → Prop) (E : Value → Shared → Prop),
    (∀ F' s', Step σ.res.has F s F' s' → StOK cx F' s' σ' → Q b s') →
    wpAny (model cx.prog cx.w) cx.A (isTrue e cx.env (eval e cx.env)) Q E s
theorem has_like {σ σ' : St} (h : σ'.res.map (·.1) = σ.res.map (·.1)) : σ'.res.has = σ.res.has := by funext a; unfold Res.has; rw [h]
theorem Ev.has {cx σ e p σ'} (h : Ev cx σ e p σ') : σ'.res.has = σ.res.has := has_like h.like
theorem Tst.has {cx σ e p σ'} (h : Tst cx σ e p σ') : σ'.res.has = σ.res.has := has_like h.like
/-- a step of the machine that turns nothing that stood -/
noncomputable def Gv {α : Type} (cx : Cx) (t : Sem α) (F : FH) (s : Shared) (R : FH → α → Prop) : Prop :=
  ∀ (Q : α → Shared → Prop) (E : Value → Shared → Prop), (∀ r F' s', Step (fun _ => False) F s F' s' → R F' r → Q r s') → wpAny (model cx.prog cx.w) cx.A t Q E s
inductive Out
  | nx (σ : St)
  | bk (σ : St)
  | ct (σ : St)
  | rt (p : VP) (R : Res)
noncomputable def OutOK (cx : Cx) (F : FH) (s : Shared) : Flow → Out → Prop
  | .next, .nx σ => StOK cx F s σ
  | .brk, .bk σ => StOK cx F s σ
  | .cont, .ct σ => StOK cx F s σ
  | .ret v, .rt p R => Step cx.W cx.F0 cx.s0 F s ∧ p.rd F v ∧ ResOK F s.heap R ∧ ∀ a, R.has a → cx.W a ∨ cx.s0.heap.get? a = none
  | _, _ => False
noncomputable def Exs (cx : Cx) (σ : St) (ss : List Stmt) (P : Out → Prop) : Prop :=
  ∀ F s, StOK cx F s σ → ∀ (Q : Flow → Shared → Prop) (E : Value → Shared → Prop),
    (∀ f F' s' o, Sub F F' → OutOK cx F' s' f o → P o → Q f s') →
    wpAny (model cx.prog cx.w) cx.A (execs ss cx.env) Q E s
noncomputable def Ex (cx : Cx) (σ : St) (st : Stmt) (P : Out → Prop) : Prop :=
  ∀ F s, StOK cx F s σ → ∀ (Q : Flow → Shared → Prop) (E : Value → Shared → Prop),
    (∀ f F' s' o, Sub F F' → OutOK cx F' s' f o → P o → Q f s') →
    wpAny (model cx.prog cx.w) cx.A (exec st cx.env) Q E s
theorem res_same {σ : St} {R : Res} (h : R = σ.res) : R.has = σ.res.has := by rw [h]
theorem LstSrc.items {cx F s σ v ps} (h : LstSrc σ F v ps) (x : StOK cx F s σ) : ∃ a o vs, v = .ref a ∧ s.heap.get? a = some o ∧ LsObj vs o ∧ Rds F ps vs := by
  rcases h with ⟨a, o, vs, e, f, l, r⟩ | ⟨a, e, hm⟩
  · exact ⟨a, o, vs, e, x.inh _ _ f, l, r⟩
  · obtain ⟨o, vs, e', l, r⟩ := x.res.ok a _ hm
    exact ⟨a, o, vs, e, e', l, r⟩
/-- a list of which its kind alone is known -/
noncomputable def vListW (ps : List VP) : VP := ⟨fun F v => ∃ (a : Addr) (o : Obj) (vs : List Value) (n : Nat), v = .ref a ∧ F a = some o ∧ o.cls = .type "list" ∧ o.data = .seq vs.toArray n ∧ Rds F ps vs,
  fun h ⟨a, o, vs, n, e, f, c, d, r⟩ => ⟨a, o, vs, n, e, h _ _ f, c, d, r.mono h⟩⟩
noncomputable def LstW (σ : St) (F : FH) (v : Value) (ps : List VP) : Prop := (vListW ps).rd F v ∨ LstSrc σ F v ps
noncomputable def vSrcW (σ : St) (ps : List VP) : VP := ⟨fun F v => LstW σ F v ps, fun s h => h.imp (fun r => (vListW ps).mono s r) fun r => r.mono s⟩
theorem LstW.items {cx F s σ v ps} (h : LstW σ F v ps) (x : StOK cx F s σ) : ∃ a vs, v = .ref a ∧ s.heap.IsList a vs.toArray ∧ Rds F ps vs := by
  rcases h with ⟨a, o, vs, n, e, f, c, d, r⟩ | h
  · have hl : s.heap.IsList a vs.toArray := ⟨o, x.inh _ _ f, c, n, d⟩
    exact ⟨a, vs, e, hl, r⟩
  · obtain ⟨a, o, vs, e, g, l, r⟩ := h.items x
    exact ⟨a, vs, e, l.isList g, r⟩
end Mine
namespace Mine
open PySem PySem.W PySem.Calls PyProof.Rows
variable {cx : Cx} {σ σ₁ σ₂ σ₃ : St} {pos : Pos}
theorem Ev.op1 {e a : Expr} {p r : VP} {f : Value → Sem Value} (ha : Ev cx σ a p σ₁)
    (hev : ∀ Q E s, wpAny (model cx.prog cx.w) cx.A (eval a cx.env) (fun v s₁ => wpAny (model cx.prog cx.w) cx.A (f v) Q E s₁) E s → wpAny (model cx.prog cx.w) cx.A (eval e cx.env) Q E s)
    (hop : ∀ F s v, StOK cx F s σ₁ → p.rd F v → Gv cx (f v) F s r.rd) : Ev cx σ e r σ₁ where
  like := ha.like
  vars := ha.vars
  run := fun F s ok Q E k => hev Q E s (ha.run F s ok _ _ fun v F₁ s₁ st₁ ok₁ r₁ => hop F₁ s₁ v ok₁ r₁ _ _ fun w F₂ s₂ st₂ r₂ =>
    k w F₂ s₂ (st₁.trans (st₂.weaken fun _ h => h.elim)) (ok₁.pure st₂) r₂)
theorem Ev.op2 {e a b : Expr} {p q r : VP} {f : Value → Value → Sem Value} (ha : Ev cx σ a p σ₁) (hb : Ev cx σ₁ b q σ₂)
    (hev : ∀ Q E s, wpAny (model cx.prog cx.w) cx.A (eval a cx.env) (fun v s₁ => wpAny (model cx.prog cx.w) cx.A (eval b cx.env) (fun u s₂ => wpAny (model cx.prog cx.w) cx.A (f v u) Q E s₂) E s₁) E s → wpAny (model cx.prog cx.w) cx.A (eval e cx.env) Q E s)
    (hop : ∀ F s v u, StOK cx F s σ₂ → p.rd F v → q.rd F u → Gv cx (f v u) F s r.rd) : Ev cx σ e r σ₂ where
  like := hb.like.trans ha.like
  vars := hb.vars.trans ha.vars
  run := fun F s ok Q E k => hev Q E s (ha.run F s ok _ _ fun v F₁ s₁ st₁ ok₁ r₁ => hb.run F₁ s₁ ok₁ _ _ fun u F₂ s₂ st₂ ok₂ r₂ =>
    hop F₂ s₂ v u ok₂ (p.mono st₂.sub r₁) r₂ _ _ fun w F₃ s₃ st₃ r₃ =>
      k w F₃ s₃ (st₁.trans ((ha.has ▸ st₂).trans (st₃.weaken fun _ h => h.elim))) (ok₂.pure st₃) r₃)
theorem Ev.bin {a b : Expr} {op : Operator} {p q r : VP} (ha : Ev cx σ a p σ₁) (hb : Ev cx σ₁ b q σ₂)
    (hop : ∀ F s v u, StOK cx F s σ₂ → p.rd F v → q.rd F u → Gv cx (binaryOp op v u) F s r.rd) : Ev cx σ (.BinOp a op b pos) r σ₂ :=
  .op2 ha hb (fun Q E s h => wpAny_BinOp h) hop
theorem Ev.cmp {a b : Expr} {op : CmpOp} {p q r : VP} (ha : Ev cx σ a p σ₁) (hb : Ev cx σ₁ b q σ₂) (hm : behindInMarks op b = false)
    (hop : ∀ F s v u, StOK cx F s σ₂ → p.rd F v → q.rd F u → Gv cx (compareOp op v u) F s r.rd) : Ev cx σ (.Compare a [op] [b] pos) r σ₂ :=
  .op2 ha hb (fun Q E s h => wpAny_Compare1 h hm) hop
theorem Ev.un {a : Expr} {op : UnaryOp} {p r : VP} (ha : Ev cx σ a p σ₁)
    (hop : ∀ F s v, StOK cx F s σ₁ → p.rd F v → Gv cx (unaryOp op v) F s r.rd) : Ev cx σ (.UnaryOp op a pos) r σ₁ :=
  .op1 (f := unaryOp op) ha (fun Q E s h => wpAny_UnaryOp h) hop
theorem Tst.cmp {a b : Expr} {op : CmpOp} {p q : VP} {c : Bool} (ha : Ev cx σ a p σ₁) (hb : Ev cx σ₁ b q σ₂) (hm : behindInMarks op b = false)
    (hop : ∀ F s v u, StOK cx F s σ₂ → p.rd F v → q.rd F u → Gv cx (compareOp op v u) F s (vBool c).rd) : Tst cx σ (.Compare a [op] [b] pos) c σ₂ where
  like := hb.like.trans ha.like
  vars := hb.vars.trans ha.vars
  run := fun F s ok Q E k => wpAny_isTrue_Compare1 (ha.run F s ok _ _ fun v F₁ s₁ st₁ ok₁ r₁ => hb.run F₁ s₁ ok₁ _ _ fun u F₂ s₂ st₂ ok₂ r₂ =>
    hop F₂ s₂ v u ok₂ (p.mono st₂.sub r₁) r₂ _ _ fun w F₃ s₃ st₃ r₃ => by
      cases r₃
      exact wpAny_truthy_bool (k F₃ s₃ (st₁.trans ((ha.has ▸ st₂).trans (st₃.weaken fun _ h => h.elim))) (ok₂.pure st₃))) hm
theorem Tst.val {e : Expr} {p : VP} {c : Bool} (ha : Ev cx σ e p σ₁) (he : ∀ whole, isTrue e cx.env whole = (do let v ← whole; standAt e.pos; holding [v] (truthy v)))
    (hop : ∀ F s v, StOK cx F s σ₁ → p.rd F v → Gv cx (truthy v) F s (fun _ b => b = c)) : Tst cx σ e c σ₁ where
  like := ha.like
  vars := ha.vars
  run := fun F s ok Q E k => wpAny_isTrue_value (ha.run F s ok _ _ fun v F₁ s₁ st₁ ok₁ r₁ => hop F₁ s₁ v ok₁ r₁ _ _ fun b F₂ s₂ st₂ r₂ => by
    subst r₂
    exact k F₂ s₂ (st₁.trans (st₂.weaken fun _ h => h.elim)) (ok₁.pure st₂)) (he _)
theorem Tst.not {e : Expr} {c : Bool} (h : Tst cx σ e c σ₁) : Tst cx σ (.UnaryOp .Not e pos) (!c) σ₁ where
  like := h.like
  vars := h.vars
  run := fun F s ok Q E k => wpAny_isTrue_Not (h.run F s ok _ _ fun F' s' st ok' => k F' s' st ok')
/-- and, or in a test -/
structure TAll (cx : Cx) (σ : St) (op : BoolOp) (es : List Expr) (b : Bool) (σ' : St) : Prop where
  like : σ'.res.map (·.1) = σ.res.map (·.1)
  vars : σ'.vars = σ.vars
  run : ∀ F s, StOK cx F s σ → ∀ (Q : Bool → Shared → Prop) (E : Value → Shared → Prop),
    (∀ F' s', Step σ.res.has F s F' s' → StOK cx F' s' σ' → Q b s') →
    wpAny (model cx.prog cx.w) cx.A (PySem.allTrue op es cx.env) Q E s
theorem TAll.nilA : TAll cx σ .And [] true σ := ⟨rfl, rfl, fun F s ok Q E k => wpAny_allTrue_And_nil (k F s (.refl ok.inh) ok)⟩
theorem TAll.nilO : TAll cx σ .Or [] false σ := ⟨rfl, rfl, fun F s ok Q E k => wpAny_allTrue_Or_nil (k F s (.refl ok.inh) ok)⟩
/-- the rest is asked only where the first is true -/
theorem TAll.consA {e : Expr} {es : List Expr} {b c : Bool} (h : Tst cx σ e b σ) (hr : b = true → TAll cx σ .And es c σ) : TAll cx σ .And (e :: es) (b && c) σ where
  like := rfl
  vars := rfl
  run := fun F s ok Q E k => wpAny_allTrue_And_cons (h.run F s ok _ _ fun F' s' st ok' => by
    cases b with
    | false => exact k F' s' st ok'
    | true => exact (hr rfl).run F' s' ok' _ _ fun F₂ s₂ st₂ ok₂ => by rw [Bool.true_and] at k; exact k F₂ s₂ (st.trans st₂) ok₂)
theorem TAll.consO {e : Expr} {es : List Expr} {b c : Bool} (h : Tst cx σ e b σ) (hr : b = false → TAll cx σ .Or es c σ) : TAll cx σ .Or (e :: es) (b || c) σ where
  like := rfl
  vars := rfl
  run := fun F s ok Q E k => wpAny_allTrue_Or_cons (h.run F s ok _ _ fun F' s' st ok' => by
    cases b with
    | true => exact k F' s' st ok'
    | false => exact (hr rfl).run F' s' ok' _ _ fun F₂ s₂ st₂ ok₂ => by rw [Bool.false_or] at k; exact k F₂ s₂ (st.trans st₂) ok₂)
theorem Tst.all {op : BoolOp} {es : List Expr} {b : Bool} (h : TAll cx σ op es b σ₁) : Tst cx σ (.BoolOp op es pos) b σ₁ where
  like := h.like
  vars := h.vars
  run := fun F s ok Q E k => wpAny_isTrue_BoolOp (h.run F s ok _ _ k)
/-- conditional expression -/
theorem Ev.ifx {t b o : Expr} {c : Bool} {p : VP} (ht : Tst cx σ t c σ) (hb : c = true → Ev cx σ b p σ) (ho : c = false → Ev cx σ o p σ) : Ev cx σ (.IfExp t b o pos) p σ where
  like := rfl
  vars := rfl
  run := fun F s ok Q E k => IfExp_ (ht.run F s ok _ _ fun F' s' st ok' => by
    cases c with
    | true => exact (hb rfl).run F' s' ok' _ _ fun v F₂ s₂ st₂ ok₂ r => k v F₂ s₂ (st.trans st₂) ok₂ r
    | false => exact (ho rfl).run F' s' ok' _ _ fun v F₂ s₂ st₂ ok₂ r => k v F₂ s₂ (st.trans st₂) ok₂ r)
theorem Ev.conv {e : Expr} {p q : VP} (h : Ev cx σ e p σ₁) (hpq : ∀ F v, p.rd F v → q.rd F v) : Ev cx σ e q σ₁ :=
  ⟨h.like, h.vars, fun F s ok Q E k => h.run F s ok Q E fun v F' s' st ok' r => k v F' s' st ok' (hpq _ _ r)⟩
theorem Ev.eq {e : Expr} {p q : VP} (h : Ev cx σ e p σ₁) (hpq : p = q) : Ev cx σ e q σ₁ := hpq ▸ h
theorem Tst.eq {e : Expr} {b c : Bool} (h : Tst cx σ e b σ₁) (hpq : b = c) : Tst cx σ e c σ₁ := hpq ▸ h
/-- names -/
theorem load_at {env : Env} {h : Heap} {x : PySem.Str} {v : Value} {M : Model} {A : Around} {s : Shared} {Q : Value → Shared → Prop} {E : Value → Shared → Prop}
    (a : VarAt env s.heap x v) (hk : env.scope.kind = .function) (q : Q v s) : wpAny M A (loadName env x) Q E s := by
  rcases a with ⟨k, m, n, e⟩ | ⟨k, c, lk, ic⟩
  · exact wpAny_loadName_local hk k n e q
  · rcases k with k | ⟨k, n⟩
    · exact wpAny_loadName_cell hk k lk ic q
    · exact wpAny_loadName_free hk k lk ic q n
theorem Ev.name {x : PySem.Str} {p : VP} (hm : (x, p) ∈ σ.vars) (hd : (x == (PySem.Str.ofString "__debug__")) = false := by decide) : Ev cx σ (.Name x pos) p σ :=
  ⟨rfl, rfl, fun F s ok Q E k => by
    obtain ⟨v, a, r⟩ := ok.vars x p hm
    exact wpAny_Name (load_at (h := s.heap) a ok.kind (k v F s (.refl ok.inh) ok r)) hd⟩
theorem Ev.src {e : Expr} {ps : List VP} (h : Ev cx σ e (vList ps) σ₁) : Ev cx σ e (vSrc σ₁ ps) σ₁ := h.conv fun _ _ r => .inl r
theorem Ev.srcR {e : Expr} {a : Addr} {ps : List VP} (h : Ev cx σ e (vVal (.ref a)) σ₁) (hm : (a, Cell.lst ps) ∈ σ₁.res) : Ev cx σ e (vSrc σ₁ ps) σ₁ :=
  h.conv fun _ v r => .inr ⟨a, r, hm⟩
/-- constants -/
theorem Ev.cInt {i : Int} {k : Nat} : Ev cx σ (.Constant (.int i) k pos) (vInt i) σ :=
  ⟨rfl, rfl, fun F s ok Q E k => wpAny_Constant_int (k _ F _ (.toks ok.inh) (ok.pure (.toks ok.inh)) ⟨_, rfl⟩)⟩
theorem L2S_ofString (x : String) : L2S (PySem.Str.ofString x).cps.toList = PySem.Str.ofString x := rfl
theorem Ev.cStr {x : PySem.Str} {k : Nat} {l : List Nat} (hl : x.cps.toList = l) : Ev cx σ (.Constant (.str x) k pos) (vStr l) σ :=
  ⟨rfl, rfl, fun F s ok Q E k => wpAny_Constant_str (k _ F _ (.toks ok.inh) (ok.pure (.toks ok.inh)) ⟨s.toks, by subst hl; unfold L2S; rw [Array.toArray_toList]⟩)⟩
theorem Ev.cNone {k : Nat} : Ev cx σ (.Constant .none k pos) (vVal .none) σ :=
  ⟨rfl, rfl, fun F s ok Q E k => wpAny_Constant_none (k _ F s (.refl ok.inh) ok rfl)⟩
theorem Ev.cBool {b : Bool} {k : Nat} : Ev cx σ (.Constant (.bool b) k pos) (vBool b) σ :=
  ⟨rfl, rfl, fun F s ok Q E k => wpAny_Constant_bool (k _ F s (.refl ok.inh) ok rfl)⟩
/-- a step that makes a token -/
theorem Gv.tok {α : Type} {t : Sem α} {F : FH} {s : Shared} {R : FH → α → Prop} (hi : Inh F s.heap) (r : α) (hr : R F r)
    (h : ∀ (Q : α → Shared → Prop) (E : Value → Shared → Prop), (∀ tk, Q r { s with toks := tk }) → wpAny (model cx.prog cx.w) cx.A t Q E s) : Gv cx t F s R :=
  fun Q E k => h Q E fun tk => k r F _ (.toks hi) hr
section sInts
variable {a b : Expr} {x y : Int}
theorem Ev.add (ha : Ev cx σ a (vInt x) σ₁) (hb : Ev cx σ₁ b (vInt y) σ₂) : Ev cx σ (.BinOp a .Add b pos) (vInt (x + y)) σ₂ :=
  .bin ha hb fun F s v u ok ⟨t, e⟩ ⟨t', e'⟩ => by subst e; subst e'; exact fun Q E k => P.add_int (k _ F _ (.toks ok.inh) ⟨_, rfl⟩)
theorem Ev.sub (ha : Ev cx σ a (vInt x) σ₁) (hb : Ev cx σ₁ b (vInt y) σ₂) : Ev cx σ (.BinOp a .Sub b pos) (vInt (x - y)) σ₂ :=
  .bin ha hb fun F s v u ok ⟨t, e⟩ ⟨t', e'⟩ => by subst e; subst e'; exact fun Q E k => P.sub_int (k _ F _ (.toks ok.inh) ⟨_, rfl⟩)
theorem Ev.mul (ha : Ev cx σ a (vInt x) σ₁) (hb : Ev cx σ₁ b (vInt y) σ₂) (hm : IntMulOk x y) : Ev cx σ (.BinOp a .Mult b pos) (vInt (x * y)) σ₂ :=
  .bin ha hb fun F s v u ok ⟨t, e⟩ ⟨t', e'⟩ => by subst e; subst e'; exact fun Q E k => P.mul_int (k _ F _ (.toks ok.inh) ⟨_, rfl⟩) hm
theorem Ev.fdiv (ha : Ev cx σ a (vInt x) σ₁) (hb : Ev cx σ₁ b (vInt y) σ₂) (h0 : y ≠ 0) (hs : y.natAbs < 1073741824) : Ev cx σ (.BinOp a .FloorDiv b pos) (vInt (x.fdiv y)) σ₂ :=
  .bin ha hb fun F s v u ok ⟨t, e⟩ ⟨t', e'⟩ => by subst e; subst e'; exact fun Q E k => floordiv_int h0 (k _ F _ (.toks ok.inh) ⟨_, rfl⟩) (.inl (PyProof.noPylong_small hs))
theorem Ev.mod (ha : Ev cx σ a (vInt x) σ₁) (hb : Ev cx σ₁ b (vInt y) σ₂) (h0 : y ≠ 0) : Ev cx σ (.BinOp a .Mod b pos) (vInt (x.fmod y)) σ₂ :=
  .bin ha hb fun F s v u ok ⟨t, e⟩ ⟨t', e'⟩ => by subst e; subst e'; exact fun Q E k => mod_int' h0 (k _ F _ (.toks ok.inh) ⟨_, rfl⟩)
theorem Ev.neg (ha : Ev cx σ a (vInt x) σ₁) : Ev cx σ (.UnaryOp .USub a pos) (vInt (-x)) σ₁ :=
  .un ha fun F s v ok ⟨t, e⟩ => by subst e; exact fun Q E k => P.neg_int (k _ F _ (.toks ok.inh) ⟨_, rfl⟩)
theorem gv_eq_int {F : FH} {s : Shared} (hi : Inh F s.heap) {t u : Tok} : Gv cx (compareOp .Eq (.int x t) (.int y u)) F s (vBool (x == y)).rd :=
  fun Q E k => P.eq_int (k _ F _ (.refl hi) rfl)
theorem gv_ne_int {F : FH} {s : Shared} (hi : Inh F s.heap) {t u : Tok} : Gv cx (compareOp .NotEq (.int x t) (.int y u)) F s (vBool (x != y)).rd :=
  fun Q E k => P.ne_int (k _ F _ (.refl hi) rfl)
theorem gv_lt_int {F : FH} {s : Shared} (hi : Inh F s.heap) {t u : Tok} : Gv cx (compareOp .Lt (.int x t) (.int y u)) F s (vBool (decide (x < y))).rd :=
  fun Q E k => P.lt_int (k _ F _ (.refl hi) rfl)
theorem gv_le_int {F : FH} {s : Shared} (hi : Inh F s.heap) {t u : Tok} : Gv cx (compareOp .LtE (.int x t) (.int y u)) F s (vBool (decide (x ≤ y))).rd :=
  fun Q E k => P.le_int (k _ F _ (.refl hi) rfl)
theorem gv_gt_int {F : FH} {s : Shared} (hi : Inh F s.heap) {t u : Tok} : Gv cx (compareOp .Gt (.int x t) (.int y u)) F s (vBool (decide (x > y))).rd :=
  fun Q E k => P.gt_int (k _ F _ (.refl hi) rfl)
theorem gv_ge_int {F : FH} {s : Shared} (hi : Inh F s.heap) {t u : Tok} : Gv cx (compareOp .GtE (.int x t) (.int y u)) F s (vBool (decide (x ≥ y))).rd :=
  fun Q E k => P.ge_int (k _ F _ (.refl hi) rfl)
theorem Tst.eqI (ha : Ev cx σ a (vInt x) σ₁) (hb : Ev cx σ₁ b (vInt y) σ₂) (hm : behindInMarks .Eq b = false := by with_unfolding_all rfl) : Tst cx σ (.Compare a [.Eq] [b] pos) (x == y) σ₂ := .cmp ha hb hm fun F s v u ok ⟨t, e⟩ ⟨t', e'⟩ => by subst e; subst e'; exact gv_eq_int ok.inh
theorem Tst.neI (ha : Ev cx σ a (vInt x) σ₁) (hb : Ev cx σ₁ b (vInt y) σ₂) (hm : behindInMarks .NotEq b = false := by with_unfolding_all rfl) : Tst cx σ (.Compare a [.NotEq] [b] pos) (x != y) σ₂ := .cmp ha hb hm fun F s v u ok ⟨t, e⟩ ⟨t', e'⟩ => by subst e; subst e'; exact gv_ne_int ok.inh
theorem Tst.ltI (ha : Ev cx σ a (vInt x) σ₁) (hb : Ev cx σ₁ b (vInt y) σ₂) (hm : behindInMarks .Lt b = false := by with_unfolding_all rfl) : Tst cx σ (.Compare a [.Lt] [b] pos) (decide (x < y)) σ₂ := .cmp ha hb hm fun F s v u ok ⟨t, e⟩ ⟨t', e'⟩ => by subst e; subst e'; exact gv_lt_int ok.inh
theorem Tst.leI (ha : Ev cx σ a (vInt x) σ₁) (hb : Ev cx σ₁ b (vInt y) σ₂) (hm : behindInMarks .LtE b = false := by with_unfolding_all rfl) : Tst cx σ (.Compare a [.LtE] [b] pos) (decide (x ≤ y)) σ₂ := .cmp ha hb hm fun F s v u ok ⟨t, e⟩ ⟨t', e'⟩ => by subst e; subst e'; exact gv_le_int ok.inh
theorem Tst.gtI (ha : Ev cx σ a (vInt x) σ₁) (hb : Ev cx σ₁ b (vInt y) σ₂) (hm : behindInMarks .Gt b = false := by with_unfolding_all rfl) : Tst cx σ (.Compare a [.Gt] [b] pos) (decide (x > y)) σ₂ := .cmp ha hb hm fun F s v u ok ⟨t, e⟩ ⟨t', e'⟩ => by subst e; subst e'; exact gv_gt_int ok.inh
theorem Tst.geI (ha : Ev cx σ a (vInt x) σ₁) (hb : Ev cx σ₁ b (vInt y) σ₂) (hm : behindInMarks .GtE b = false := by with_unfolding_all rfl) : Tst cx σ (.Compare a [.GtE] [b] pos) (decide (x ≥ y)) σ₂ := .cmp ha hb hm fun F s v u ok ⟨t, e⟩ ⟨t', e'⟩ => by subst e; subst e'; exact gv_ge_int ok.inh
theorem Ev.eqI (ha : Ev cx σ a (vInt x) σ₁) (hb : Ev cx σ₁ b (vInt y) σ₂) (hm : behindInMarks .Eq b = false := by with_unfolding_all rfl) : Ev cx σ (.Compare a [.Eq] [b] pos) (vBool (x == y)) σ₂ := .cmp ha hb hm fun F s v u ok ⟨t, e⟩ ⟨t', e'⟩ => by subst e; subst e'; exact gv_eq_int ok.inh
theorem Ev.leI (ha : Ev cx σ a (vInt x) σ₁) (hb : Ev cx σ₁ b (vInt y) σ₂) (hm : behindInMarks .LtE b = false := by with_unfolding_all rfl) : Ev cx σ (.Compare a [.LtE] [b] pos) (vBool (decide (x ≤ y))) σ₂ := .cmp ha hb hm fun F s v u ok ⟨t, e⟩ ⟨t', e'⟩ => by subst e; subst e'; exact gv_le_int ok.inh
theorem Ev.gtI (ha : Ev cx σ a (vInt x) σ₁) (hb : Ev cx σ₁ b (vInt y) σ₂) (hm : behindInMarks .Gt b = false := by with_unfolding_all rfl) : Ev cx σ (.Compare a [.Gt] [b] pos) (vBool (decide (x > y))) σ₂ := .cmp ha hb hm fun F s v u ok ⟨t, e⟩ ⟨t', e'⟩ => by subst e; subst e'; exact gv_gt_int ok.inh
end sInts
section sBools
variable {a b : Expr} {x y : Bool}
theorem Ev.notB (ha : Ev cx σ a (vBool x) σ₁) : Ev cx σ (.UnaryOp .Not a pos) (vBool (!x)) σ₁ :=
  .un ha fun F s v ok e => by cases e; exact fun Q E k => not_of (wpAny_truthy_bool (k _ F _ (.refl ok.inh) rfl))
theorem Ev.andB (ha : Ev cx σ a (vBool x) σ) (hb : x = true → Ev cx σ b (vBool y) σ) : Ev cx σ (.BoolOp .And [a, b] pos) (vBool (x && y)) σ where
  like := rfl
  vars := rfl
  run := fun F s ok Q E k => wpAny_And2 (ha.run F s ok _ _ fun v F₁ s₁ st₁ ok₁ r₁ => by
    cases r₁
    refine wpAny_truthy_bool ?_
    cases x with
    | false => exact k _ F₁ s₁ st₁ ok₁ rfl
    | true => exact (hb rfl).run F₁ s₁ ok₁ _ _ fun u F₂ s₂ st₂ ok₂ r₂ => k u F₂ s₂ (st₁.trans st₂) ok₂ r₂)
theorem Ev.orB (ha : Ev cx σ a (vBool x) σ) (hb : x = false → Ev cx σ b (vBool y) σ) : Ev cx σ (.BoolOp .Or [a, b] pos) (vBool (x || y)) σ where
  like := rfl
  vars := rfl
  run := fun F s ok Q E k => wpAny_Or2 (ha.run F s ok _ _ fun v F₁ s₁ st₁ ok₁ r₁ => by
    cases r₁
    refine wpAny_truthy_bool ?_
    cases x with
    | true => exact k _ F₁ s₁ st₁ ok₁ rfl
    | false => exact (hb rfl).run F₁ s₁ ok₁ _ _ fun u F₂ s₂ st₂ ok₂ r₂ => k u F₂ s₂ (st₁.trans st₂) ok₂ r₂)
theorem Tst.bool {e : Expr} {c : Bool} (ha : Ev cx σ e (vBool c) σ₁) (he : ∀ whole, isTrue e cx.env whole = (do let v ← whole; standAt e.pos; holding [v] (truthy v))) : Tst cx σ e c σ₁ :=
  .val ha he fun F s v ok r => by cases r; exact fun Q E k => wpAny_truthy_bool (k _ F _ (.refl ok.inh) rfl)
end sBools
end Mine
namespace Mine
open PySem PySem.W PySem.Calls PyProof.Rows
variable {cx : Cx} {σ σ₁ σ₂ σ₃ : St} {pos : Pos}
theorem get_ge {h : Heap} {a : Addr} (l : h.objs.size ≤ a) : h.get? a = none := by
  cases q : h.get? a with
  | none => rfl
  | some o => exact absurd (Heap.lt_size q) (Nat.not_lt.mpr l)
/-- items of a display, arguments of a call -/
structure EvAll (cx : Cx) (σ : St) (ap : Pos) (es : List Expr) (ps : List VP) (σ' : St) : Prop where
  like : σ'.res.map (·.1) = σ.res.map (·.1)
  vars : σ'.vars = σ.vars
  run : ∀ F s, StOK cx F s σ → ∀ (Q : List Value → Shared → Prop) (E : Value → Shared → Prop),
    (∀ vs F' s', Step σ.res.has F s F' s' → StOK cx F' s' σ' → Rds F' ps vs → Q vs s') →
    wpAny (model cx.prog cx.w) cx.A (spliced (backTo ap (starEach es cx.env))) Q E s
theorem EvAll.nil : EvAll cx σ pos [] [] σ := ⟨rfl, rfl, fun F s ok Q E k => wpAny_items_nil (k [] F s (.refl ok.inh) ok .nil)⟩
theorem EvAll.cons {e : Expr} {es : List Expr} {p : VP} {ps : List VP} (h : Ev cx σ e p σ₁) (hr : EvAll cx σ₁ pos es ps σ₂)
    (he : starEach (e :: es) cx.env = (false, eval e cx.env) :: starEach es cx.env := by with_unfolding_all rfl) : EvAll cx σ pos (e :: es) (p :: ps) σ₂ where
  like := hr.like.trans h.like
  vars := hr.vars.trans h.vars
  run := fun F s ok Q E k => wpAny_items_cons (h.run F s ok _ _ fun v F₁ s₁ st₁ ok₁ r₁ => hr.run F₁ s₁ ok₁ _ _ fun vs F₂ s₂ st₂ ok₂ r₂ =>
    k (v :: vs) F₂ s₂ (st₁.trans (h.has ▸ st₂)) ok₂ (.cons (p.mono st₂.sub r₁) r₂)) he
theorem Ev.tup {es : List Expr} {k : Nat} {ps : List VP} (h : EvAll cx σ pos es ps σ₁) (hsz : ps.length ≤ 1000 := by decide) : Ev cx σ (.Tuple es k pos) (vTup ps) σ₁ where
  like := h.like
  vars := h.vars
  run := fun F s ok Q E k => wpAny_Tuple (h.run F s ok _ _ fun vs F₁ s₁ st₁ ok₁ r₁ => ⟨by rw [r₁.length]; exact Nat.le_trans hsz (by decide), by
    have st₂ : Step (fun _ => False) F₁ s₁ (F₁.set s₁.heap.objs.size { cls := .type "tuple", data := .seq vs.toArray }) { s₁ with heap := s₁.heap.push { cls := .type "tuple", data := .seq vs.toArray } } :=
      Step.push ok₁.inh rfl
    exact k _ _ _ (st₁.trans (st₂.weaken fun _ h => h.elim)) (ok₁.pure st₂) ⟨_, _, vs, rfl, FH.set_at .., ⟨0, rfl⟩, r₁.mono st₂.sub⟩⟩)
/-- an expression that makes a new list -/
structure EvN (cx : Cx) (σ : St) (e : Expr) (ps : List VP) (σ' : St) : Prop where
  like : σ'.res.map (·.1) = σ.res.map (·.1)
  vars : σ'.vars = σ.vars
  run : ∀ F s, StOK cx F s σ → ∀ (Q : Value → Shared → Prop) (E : Value → Shared → Prop),
    (∀ F₁ s₁, Step σ.res.has F s F₁ s₁ → StOK cx F₁ s₁ σ' → ∀ a o vs h' tk, (∀ b ob, s₁.heap.get? b = some ob → h'.get? b = some ob) → s₁.heap.get? a = none → h'.get? a = some o → LsObj vs o → Rds F₁ ps vs →
      Q (.ref a) { s₁ with heap := h', toks := tk }) →
    wpAny (model cx.prog cx.w) cx.A (eval e cx.env) Q E s
theorem EvN.has {e ps} (h : EvN cx σ e ps σ₁) : σ₁.res.has = σ.res.has := has_like h.like
theorem EvN.ev {e : Expr} {ps : List VP} (h : EvN cx σ e ps σ₁) : Ev cx σ e (vList ps) σ₁ where
  like := h.like
  vars := h.vars
  run := fun F s ok Q E k => h.run F s ok Q E fun F₁ s₁ st₁ ok₁ a o vs h' tk hk hn ha hl hr => by
    have st₂ : Step (fun _ => False) F₁ s₁ (F₁.set a o) { s₁ with heap := h', toks := tk } := Step.freeze ok₁.inh hk hn ha
    exact k _ _ _ (st₁.trans (st₂.weaken fun _ h => h.elim)) (ok₁.pure st₂) ⟨a, o, vs, rfl, FH.set_at .., hl, hr.mono st₂.sub⟩
theorem EvN.eq {e : Expr} {ps qs : List VP} (h : EvN cx σ e ps σ₁) (q : ps = qs) : EvN cx σ e qs σ₁ := q ▸ h
theorem EvN.disp {es : List Expr} {ps : List VP} (h : EvAll cx σ pos es ps σ₁) (hsz : ps.length ≤ 1000 := by decide) : EvN cx σ (.List es pos) ps σ₁ where
  like := h.like
  vars := h.vars
  run := fun F s ok Q E k => wpAny_List (h.run F s ok _ _ fun vs F₁ s₁ st₁ ok₁ r₁ => ⟨by rw [r₁.length]; exact Nat.le_trans hsz (by decide),
    k F₁ s₁ st₁ ok₁ s₁.heap.objs.size _ vs _ s₁.toks (fun b ob e => Heap.get?_push_of_some _ e) (get_size _) (Heap.get?_push_size _ rfl) ⟨0, rfl⟩ r₁⟩)
/-- a step that makes a new list -/
noncomputable def GvN (cx : Cx) (t : Sem Value) (F : FH) (s : Shared) (ps : List VP) : Prop :=
  ∀ (Q : Value → Shared → Prop) (E : Value → Shared → Prop), (∀ a o vs h' tk, (∀ b ob, s.heap.get? b = some ob → h'.get? b = some ob) → s.heap.get? a = none → h'.get? a = some o → LsObj vs o → Rds F ps vs →
      Q (.ref a) { s with heap := h', toks := tk }) → wpAny (model cx.prog cx.w) cx.A t Q E s
theorem EvN.op2 {e a b : Expr} {p q : VP} {ps : List VP} {f : Value → Value → Sem Value} (ha : Ev cx σ a p σ₁) (hb : Ev cx σ₁ b q σ₂)
    (hev : ∀ Q E s, wpAny (model cx.prog cx.w) cx.A (eval a cx.env) (fun v s₁ => wpAny (model cx.prog cx.w) cx.A (eval b cx.env) (fun u s₂ => wpAny (model cx.prog cx.w) cx.A (f v u) Q E s₂) E s₁) E s → wpAny (model cx.prog cx.w) cx.A (eval e cx.env) Q E s)
    (hop : ∀ F s v u, StOK cx F s σ₂ → p.rd F v → q.rd F u → GvN cx (f v u) F s ps) : EvN cx σ e ps σ₂ where
  like := hb.like.trans ha.like
  vars := hb.vars.trans ha.vars
  run := fun F s ok Q E k => hev Q E s (ha.run F s ok _ _ fun v F₁ s₁ st₁ ok₁ r₁ => hb.run F₁ s₁ ok₁ _ _ fun u F₂ s₂ st₂ ok₂ r₂ =>
    hop F₂ s₂ v u ok₂ (p.mono st₂.sub r₁) r₂ _ _ fun a o vs h' tk hk hn hg hl hr => k F₂ s₂ (st₁.trans (ha.has ▸ st₂)) ok₂ a o vs h' tk hk hn hg hl hr)
theorem EvN.add {a b : Expr} {ps qs : List VP} (ha : Ev cx σ a (vSrc σ ps) σ) (hb : Ev cx σ b (vSrc σ qs) σ) (hsz : ps.length + qs.length ≤ sizeLine) : EvN cx σ (.BinOp a .Add b pos) (ps ++ qs) σ :=
  .op2 ha hb (fun Q E s h => wpAny_BinOp h) fun F s v u ok h1 h2 Q E k => by
    obtain ⟨x, o, vs, rfl, e, ⟨n, rfl⟩, r⟩ := h1.items ok
    obtain ⟨y, o', us, rfl, e', ⟨n', rfl⟩, r'⟩ := h2.items ok
    refine PySem.P.add_list (n := n) (n2 := n') e e' ?_ (by simp only [List.size_toArray, r.length, r'.length]; exact hsz)
    exact k _ _ (vs ++ us) _ s.toks (fun b ob e => Heap.get?_push_of_some _ e) (get_size _) (Heap.get?_push_size _ rfl) ⟨0, by rw [← List.append_toArray]⟩ (r.append r')
/-- slices -/
noncomputable def sl {α : Type} (l : List α) (lo hi : Option Int) : List α := (l.drop (kms_lo lo l.length)).take (kms_hi hi l.length - kms_lo lo l.length)
theorem sl_map {α β : Type} (f : α → β) (l : List α) (lo hi : Option Int) : sl (l.map f) lo hi = (sl l lo hi).map f := by
  unfold sl; rw [List.length_map, List.map_take, List.map_drop]
theorem Rds.sl {F : FH} {ps : List VP} {vs : List Value} (h : Rds F ps vs) (lo hi : Option Int) : Rds F (sl ps lo hi) (sl vs lo hi) := by
  unfold Mine.sl; rw [h.length]; exact (h.drop _).take _
theorem sl_from {α : Type} (l : List α) (k : Nat) : sl l (some k) none = l.drop k := by
  have h : ¬ ((k : Int) < 0) := by first | lia | omega
  simp only [sl, kms_lo, kms_hi, if_neg h, Int.toNat_natCast]
  by_cases q : k ≤ l.length
  · rw [Nat.min_eq_left q, List.take_of_length_le (by simp)]
  · rw [Nat.min_eq_right (by first | lia | omega), List.drop_length, List.drop_of_length_le (by first | lia | omega)]; simp
theorem sl_upto {α : Type} (l : List α) (k : Nat) : sl l none (some k) = l.take k := by
  have h : ¬ ((k : Int) < 0) := by first | lia | omega
  simp only [sl, kms_lo, kms_hi, if_neg h, Int.toNat_natCast, List.drop_zero, Nat.sub_zero]
  by_cases q : k ≤ l.length
  · rw [Nat.min_eq_left q]
  · rw [Nat.min_eq_right (by first | lia | omega), List.take_of_length_le (by first | lia | omega), List.take_of_length_le (by first | lia | omega)]
theorem sl_butlast {α : Type} (l : List α) : sl l none (some (-1)) = l.dropLast := by
  simp [sl, kms_lo, kms_hi, List.dropLast_eq_take]
theorem sl_uptoNeg {α : Type} (l : List α) (k : Nat) (hk : 0 < k) : sl l none (some (-(k : Int))) = l.take (l.length - k) := by
  have h : (-(k : Int)) < 0 := by first | lia | omega
  simp only [sl, kms_lo, kms_hi, if_pos h, Int.neg_neg, Int.toNat_natCast, List.drop_zero, Nat.sub_zero]
theorem sl_last {α : Type} (l : List α) : sl l (some (-1)) none = l.drop (l.length - 1) := by
  simp only [sl, kms_lo, kms_hi, show ((-1 : Int) < 0) from by decide, if_true]
  rw [List.take_of_length_le (by simp)]; rfl
theorem sl_all {α : Type} (l : List α) : sl l none none = l := by simp [sl, kms_lo, kms_hi]
/-- an end of a slice -/
noncomputable def vPart (x : Option Int) : VP := match x with | none => vVal .none | some i => vInt i
theorem vPart.is {x : Option Int} {F : FH} {v : Value} (h : (vPart x).rd F v) : IsPart v x := by
  cases x with
  | none => cases h; exact .none
  | some i => obtain ⟨t, rfl⟩ := h; exact .int i t
structure EvPt (cx : Cx) (σ : St) (e : Option Expr) (x : Option Int) : Prop where
  run : ∀ F s, StOK cx F s σ → ∀ (Q : Value → Shared → Prop) (E : Value → Shared → Prop),
    (∀ v F' s', Step σ.res.has F s F' s' → StOK cx F' s' σ → (vPart x).rd F' v → Q v s') →
    wpAny (model cx.prog cx.w) cx.A (evalPart e cx.env) Q E s
theorem EvPt.no : EvPt cx σ none none := ⟨fun F s ok Q E k => wpAny_pure (k _ F s (.refl ok.inh) ok rfl)⟩
theorem EvPt.int {e : Expr} {i : Int} (h : Ev cx σ e (vInt i) σ) : EvPt cx σ (some e) (some i) := ⟨fun F s ok Q E k => h.run F s ok Q E k⟩
theorem EvPt.part {e : Expr} {x : Option Int} (h : Ev cx σ e (vPart x) σ) : EvPt cx σ (some e) x := ⟨fun F s ok Q E k => h.run F s ok Q E k⟩
theorem slice_tail {value slice : Expr} {o i : Value} {T id : String} {Q : Value → Shared → Prop} {E : Value → Shared → Prop} {s : Shared} {prog : Program} {w : World} {A : Around}
    (hT : s.TypeIs o T) (hl : typeLookup (.type T) "__getitem__" = pure (some (.builtin id)))
    (hg : wpAny (model prog w) A (getItem o i) Q E s) (hs : ∃ ops, subscripted slice false o i = operate ops (getItem o i)) : wpAny (model prog w) A (subscriptTail value slice o i) Q E s :=
  let ⟨_, h⟩ := hs; tail_any hT hl hg h
theorem EvN.slice {value : Expr} {lo hi : Option Expr} {p : Pos} {x y : Option Int} {ps : List VP} (hv : Ev cx σ value (vSrcW σ ps) σ) (hl : EvPt cx σ lo x) (hh : EvPt cx σ hi y) (hsz : ps.length ≤ sizeLine) :
    EvN cx σ (.Subscript value (.Slice lo hi none p) pos) (sl ps x y) σ where
  like := rfl
  vars := rfl
  run := fun F s ok Q E k => Subscript_ (hv.run F s ok _ _ fun v F₁ s₁ st₁ ok₁ r₁ => wpAny_Slice (hl.run F₁ s₁ ok₁ _ _ fun vl F₂ s₂ st₂ ok₂ r₂ => hh.run F₂ s₂ ok₂ _ _ fun vu F₃ s₃ st₃ ok₃ r₃ => by
    rw [evalPart_none]
    refine wpAny_pure ?_
    obtain ⟨a, vs, rfl, hL, rv⟩ := LstW.items ((vSrcW σ ps).mono (st₂.sub.trans st₃.sub) r₁) ok₃
    refine slice_tail (hL.push _).typeIs list_getitem_lookup (wpAny_getItem_list_slice (hL.push _) (.new ..) ((vPart.is r₂)) (vPart.is r₃) .none (by decide) ?_ (by rw [List.size_toArray, rv.length]; exact hsz)) ⟨_, rfl⟩
    refine k F₃ s₃ (st₁.trans (st₂.trans st₃)) ok₃ _ _ (sl vs x y) _ _ (fun b ob e => Heap.get?_push_of_some _ (Heap.get?_push_of_some _ e)) ?_ (Heap.get?_push_size _ rfl) ⟨0, ?_⟩ (rv.sl x y)
    · exact get_ge (by rw [Heap.size_push]; exact Nat.le_succ _)
    · rw [kms_pick_eq]; rfl))
/-- [::-1] -/
theorem EvN.rev {value : Expr} {p : Pos} {st : Expr} {ps : List VP} (hv : Ev cx σ value (vSrcW σ ps) σ) (hst : EvPt cx σ (some st) (some (-1))) (hsz : ps.length ≤ sizeLine) :
    EvN cx σ (.Subscript value (.Slice none none (some st) p) pos) ps.reverse σ where
  like := rfl
  vars := rfl
  run := fun F s ok Q E k => Subscript_ (hv.run F s ok _ _ fun v F₁ s₁ st₁ ok₁ r₁ => wpAny_Slice (by
    rw [evalPart_none]
    refine wpAny_pure (wpAny_pure ?_)
    refine hst.run F₁ s₁ ok₁ _ _ fun vu F₃ s₃ st₃ ok₃ r₃ => ?_
    obtain ⟨a, vs, rfl, hL, rv⟩ := LstW.items ((vSrcW σ ps).mono (st₃.sub) r₁) ok₃
    refine slice_tail (hL.push _).typeIs list_getitem_lookup (wpAny_getItem_list_slice (hL.push _) (.new ..) .none .none (vPart.is r₃) (by decide) ?_ (by rw [List.size_toArray, rv.length]; exact hsz)) ⟨_, rfl⟩
    refine k F₃ s₃ (st₁.trans st₃) ok₃ _ _ vs.reverse _ _ (fun b ob e => Heap.get?_push_of_some _ (Heap.get?_push_of_some _ e)) ?_ (Heap.get?_push_size _ rfl) ⟨0, ?_⟩ rv.reverse
    · exact get_ge (by rw [Heap.size_push]; exact Nat.le_succ _)
    · rw [krv_pick]))
end Mine
namespace Mine
open PySem PySem.W PySem.Calls PyProof.Rows Builtin Builtin.Str Builtin.Int
variable {cx : Cx} {σ σ₁ σ₂ σ₃ : St} {pos : Pos}
theorem L2S_len (l : List Nat) : (L2S l).length = l.length := by unfold L2S PySem.Str.length; rw [List.size_toArray]
theorem L2S_toList (l : List Nat) : (L2S l).cps.toList = l := by unfold L2S; rw [List.toList_toArray]
theorem L2S_append (x y : List Nat) : L2S x ++ L2S y = L2S (x ++ y) := by
  show PySem.Str.append _ _ = _
  unfold L2S PySem.Str.append; rw [List.append_toArray]
theorem S2L (x : PySem.Str) : L2S x.cps.toList = x := by unfold L2S; rw [Array.toArray_toList]
noncomputable def S2 (x : PySem.Str) : List Nat := x.cps.toList
theorem vStr_of {x : PySem.Str} {t : Tok} {F : FH} : (vStr (S2 x)).rd F (.str x t) := ⟨t, by unfold S2; rw [S2L]⟩
theorem sizeLine_is : sizeLine = 16777216 := rfl
theorem tooLong_of {n : Nat} (h : n ≤ sizeLine) : tooLong n = false := decide_eq_false (Nat.not_lt.mpr h)
theorem len_ne (x : List Nat) : ((x.length : Int) != 0) = (x != []) := by
  cases x with
  | nil => rfl
  | cons a l =>
    have h : ((a :: l).length : Int) ≠ 0 := by simp only [List.length_cons]; first | lia | omega
    rw [bne_iff_ne.mpr h]; rfl
section sStr
variable {a b : Expr} {x y : List Nat}
theorem Ev.addS (ha : Ev cx σ a (vStr x) σ₁) (hb : Ev cx σ₁ b (vStr y) σ₂) (hsz : x.length + y.length ≤ sizeLine) : Ev cx σ (.BinOp a .Add b pos) (vStr (x ++ y)) σ₂ :=
  .bin ha hb fun F s v u ok ⟨t, e⟩ ⟨t', e'⟩ => by
    subst e; subst e'
    exact fun Q E k => SB.add (fun tk n => k _ F _ (.toks ok.inh) ⟨tk, by rw [L2S_append]⟩) (by rw [L2S_len, L2S_len]; exact hsz)
theorem gv_eq_str {F : FH} {s : Shared} (hi : Inh F s.heap) {t u : Tok} : Gv cx (compareOp .Eq (.str (L2S x) t) (.str (L2S y) u)) F s (vBool (x == y)).rd :=
  fun Q E k => P.eq_str (k _ F _ (.refl hi) (by rw [L2S_toList, L2S_toList]; exact rfl))
theorem gv_ne_str {F : FH} {s : Shared} (hi : Inh F s.heap) {t u : Tok} : Gv cx (compareOp .NotEq (.str (L2S x) t) (.str (L2S y) u)) F s (vBool (x != y)).rd :=
  fun Q E k => P.ne_str (k _ F _ (.refl hi) (by rw [L2S_toList, L2S_toList]; exact rfl))
theorem Tst.eqS (ha : Ev cx σ a (vStr x) σ₁) (hb : Ev cx σ₁ b (vStr y) σ₂) (hm : behindInMarks .Eq b = false := by with_unfolding_all rfl) : Tst cx σ (.Compare a [.Eq] [b] pos) (x == y) σ₂ := .cmp ha hb hm fun F s v u ok ⟨t, e⟩ ⟨t', e'⟩ => by subst e; subst e'; exact gv_eq_str ok.inh
theorem Tst.neS (ha : Ev cx σ a (vStr x) σ₁) (hb : Ev cx σ₁ b (vStr y) σ₂) (hm : behindInMarks .NotEq b = false := by with_unfolding_all rfl) : Tst cx σ (.Compare a [.NotEq] [b] pos) (x != y) σ₂ := .cmp ha hb hm fun F s v u ok ⟨t, e⟩ ⟨t', e'⟩ => by subst e; subst e'; exact gv_ne_str ok.inh
theorem Ev.eqS (ha : Ev cx σ a (vStr x) σ₁) (hb : Ev cx σ₁ b (vStr y) σ₂) (hm : behindInMarks .Eq b = false := by with_unfolding_all rfl) : Ev cx σ (.Compare a [.Eq] [b] pos) (vBool (x == y)) σ₂ := .cmp ha hb hm fun F s v u ok ⟨t, e⟩ ⟨t', e'⟩ => by subst e; subst e'; exact gv_eq_str ok.inh
theorem Ev.neS (ha : Ev cx σ a (vStr x) σ₁) (hb : Ev cx σ₁ b (vStr y) σ₂) (hm : behindInMarks .NotEq b = false := by with_unfolding_all rfl) : Ev cx σ (.Compare a [.NotEq] [b] pos) (vBool (x != y)) σ₂ := .cmp ha hb hm fun F s v u ok ⟨t, e⟩ ⟨t', e'⟩ => by subst e; subst e'; exact gv_ne_str ok.inh
/-- is the text within the other -/
noncomputable def isIn (y x : List Nat) : Bool := Txt.contains (L2S x) (L2S y)
theorem gv_in_str {F : FH} {s : Shared} (hi : Inh F s.heap) {t u : Tok} : Gv cx (compareOp .In (.str (L2S y) t) (.str (L2S x) u)) F s (vBool (isIn y x)).rd :=
  fun Q E k => SB.contains (k _ F _ (.refl hi) rfl)
theorem gv_nin_str {F : FH} {s : Shared} (hi : Inh F s.heap) {t u : Tok} : Gv cx (compareOp .NotIn (.str (L2S y) t) (.str (L2S x) u)) F s (vBool (!isIn y x)).rd :=
  fun Q E k => SB.notContains (k _ F _ (.refl hi) rfl)
theorem Tst.inS (ha : Ev cx σ a (vStr y) σ₁) (hb : Ev cx σ₁ b (vStr x) σ₂) (hm : behindInMarks .In b = false := by with_unfolding_all rfl) : Tst cx σ (.Compare a [.In] [b] pos) (isIn y x) σ₂ := .cmp ha hb hm fun F s v u ok ⟨t, e⟩ ⟨t', e'⟩ => by subst e; subst e'; exact gv_in_str ok.inh
theorem Ev.ninS (ha : Ev cx σ a (vStr y) σ₁) (hb : Ev cx σ₁ b (vStr x) σ₂) (hm : behindInMarks .NotIn b = false := by with_unfolding_all rfl) : Ev cx σ (.Compare a [.NotIn] [b] pos) (vBool (!isIn y x)) σ₂ := .cmp ha hb hm fun F s v u ok ⟨t, e⟩ ⟨t', e'⟩ => by subst e; subst e'; exact gv_nin_str ok.inh
theorem Ev.inS (ha : Ev cx σ a (vStr y) σ₁) (hb : Ev cx σ₁ b (vStr x) σ₂) (hm : behindInMarks .In b = false := by with_unfolding_all rfl) : Ev cx σ (.Compare a [.In] [b] pos) (vBool (isIn y x)) σ₂ := .cmp ha hb hm fun F s v u ok ⟨t, e⟩ ⟨t', e'⟩ => by subst e; subst e'; exact gv_in_str ok.inh
theorem Tst.str {e : Expr} (ha : Ev cx σ e (vStr x) σ₁) (he : ∀ whole, isTrue e cx.env whole = (do let v ← whole; standAt e.pos; holding [v] (truthy v))) (hsz : x.length ≤ sizeLine) : Tst cx σ e (x != []) σ₁ :=
  .val ha he fun F s v ok ⟨t, r⟩ => by
    subst r
    exact fun Q E k => PySem.P.truthy_str (by rw [L2S_len]; rw [sizeLine_is] at hsz; first | lia | omega) (k _ F _ (.toks ok.inh) (by rw [L2S_len]; exact len_ne x))
end sStr
/-- a subscript by an index -/
noncomputable def IsIdx (sli : Expr) : Prop := ∀ o i, subscripted sli false o i = operate [o, i] (PySem.getItem o i)
theorem Ev.itemGen {value idx : Expr} {p q r : VP} (hv : Ev cx σ value p σ₁) (hi : Ev cx σ₁ idx q σ₂) (hx : IsIdx idx)
    (hT : ∀ F s v, StOK cx F s σ₂ → p.rd F v → ∃ T id, s.TypeIs v T ∧ typeLookup (.type T) "__getitem__" = pure (some (.builtin id)))
    (hop : ∀ F s v u, StOK cx F s σ₂ → p.rd F v → q.rd F u → Gv cx (PySem.getItem v u) F s r.rd) : Ev cx σ (.Subscript value idx pos) r σ₂ :=
  .op2 (f := fun v u => subscriptTail value idx v u) hv hi (fun Q E s h => Subscript_ h) fun F s v u ok r1 r2 Q E k => by
    obtain ⟨T, id, hT, hl⟩ := hT F s v ok r1
    exact slice_tail hT hl (hop F s v u ok r1 r2 Q E k) ⟨_, hx v u⟩
theorem seqIdx {k : Int} {n j : Nat} (h : seqIndex? k n = some j) : -(n : Int) ≤ k ∧ k < n ∧ j = (if k < 0 then k + n else k).toNat ∧ j < n := by
  unfold seqIndex? at h
  dsimp only at h
  by_cases h1 : k < 0
  · simp only [if_pos h1] at h ⊢
    split at h
    · rename_i h2
      simp only [Bool.and_eq_true, decide_eq_true_eq] at h2
      cases h
      omega
    · cases h
  · simp only [if_neg h1] at h ⊢
    split at h
    · rename_i h2
      simp only [Bool.and_eq_true, decide_eq_true_eq] at h2
      cases h
      omega
    · cases h
theorem Ev.itemL {value idx : Expr} {ps : List VP} {k : Int} {j : Nat} {p : VP} (hv : Ev cx σ value (vSrcW σ ps) σ) (hi : Ev cx σ idx (vInt k) σ) (hx : IsIdx idx)
    (hj : seqIndex? k ps.length = some j) (hp : ps[j]? = some p) (hsz : ps.length ≤ sizeLine) : Ev cx σ (.Subscript value idx pos) p σ :=
  .itemGen hv hi hx (fun F s v ok r => by
    obtain ⟨a, vs, rfl, hL, rv⟩ := LstW.items r ok
    exact ⟨_, _, hL.typeIs, list_getitem_lookup⟩) fun F s v u ok r1 ⟨t, r2⟩ Q E kk => by
    subst r2
    obtain ⟨a, vs, rfl, hL, rv⟩ := LstW.items r1 ok
    obtain ⟨h1, h2, h3, h4⟩ := seqIdx hj
    obtain ⟨x, hx, rx⟩ := rv.get hp
    rw [sizeLine_is] at hsz
    by_cases h0 : k < 0
    · rw [if_pos h0] at h3
      refine wpAny_getItem_list_neg hL h0 (by simp only [List.size_toArray, rv.length]; exact h1) (by first | lia | omega) ?_ (kk x F s (.refl ok.inh) rx)
      simp only [List.size_toArray, rv.length, List.getElem?_toArray]; rw [← h3]; exact hx
    · rw [if_neg h0] at h3
      refine wpAny_getItem_list hL (by first | lia | omega) (by first | lia | omega) ?_ (kk x F s (.refl ok.inh) rx)
      simp only [List.getElem?_toArray]; rw [← h3]; exact hx
theorem Ev.itemT {value idx : Expr} {ps : List VP} {k : Int} {j : Nat} {p : VP} (hv : Ev cx σ value (vTup ps) σ₁) (hi : Ev cx σ₁ idx (vInt k) σ₂) (hx : IsIdx idx)
    (hj : seqIndex? k ps.length = some j) (hp : ps[j]? = some p) (hsz : ps.length ≤ 1000 := by decide) : Ev cx σ (.Subscript value idx pos) p σ₂ :=
  .itemGen hv hi hx (fun F s v ok ⟨a, o, vs, e, f, ⟨n, h⟩, r⟩ => by
    subst e; subst h
    exact ⟨"tuple", _, ⟨_, ok.inh _ _ f, rfl⟩, PyProof.Rows.slot_tuple_getitem.lookup⟩) fun F s v u ok ⟨a, o, vs, e, f, ⟨n, h⟩, rv⟩ ⟨t, r2⟩ Q E kk => by
    subst e; subst h; subst r2
    obtain ⟨h1, h2, h3, h4⟩ := seqIdx hj
    obtain ⟨x, hx, rx⟩ := rv.get hp
    refine PyProof.Rows.getItem_tuple (items := vs.toArray) ⟨_, ok.inh _ _ f, rfl, n, rfl⟩ (by first | lia | omega) (by first | lia | omega) (j := j) ?_ (by simpa using hx) (kk x F s (.refl ok.inh) rx)
    rw [List.size_toArray, rv.length]; exact hj
theorem Ev.itemS {value idx : Expr} {x : List Nat} {k : Int} {j c : Nat} (hv : Ev cx σ value (vStr x) σ₁) (hi : Ev cx σ₁ idx (vInt k) σ₂) (hx : IsIdx idx)
    (hj : seqIndex? k x.length = some j) (hp : x[j]? = some c) (hsz : x.length ≤ sizeLine) : Ev cx σ (.Subscript value idx pos) (vStr [c]) σ₂ :=
  .itemGen hv hi hx (fun F s v ok ⟨t, e⟩ => by
    subst e
    exact ⟨"str", _, typeIs_str _ _ _, PySem.F.slot_str_getitem.lookup⟩) fun F s v u ok ⟨t, e⟩ ⟨t', r2⟩ Q E kk => by
    subst e; subst r2
    obtain ⟨h1, h2, h3, h4⟩ := seqIdx hj
    rw [sizeLine_is] at hsz
    have hc : Txt.charAt (L2S x) k = some c := by
      unfold Txt.charAt; rw [L2S_len, hj]
      show (L2S x).cps[j]? = some c
      unfold L2S; rw [List.getElem?_toArray]; exact hp
    refine SB.getItem (by unfold fitsSsize; rw [decide_eq_false (by first | lia | omega), decide_eq_false (by first | lia | omega)]; rfl) (by rw [hc]; rfl) (kk _ F _ (.toks ok.inh) ⟨s.toks, ?_⟩)
    unfold Txt.item; rw [hc]; rfl
/-- slices of texts -/
theorem txt_slice (x : List Nat) (lo hi : Option Int) : Txt.slice (L2S x) lo hi = L2S (sl x lo hi) := by
  have e : strSliceIndices lo hi 1 x.length = sliceRange (kms_lo lo x.length) (kms_hi hi x.length) 1 := by
    have q := kms_bounds lo hi x.length
    have q1 := congrArg (fun z : Int × Int × Int => z.1) q
    have q2 := congrArg (fun z : Int × Int × Int => z.2.1) q
    dsimp only at q1 q2
    rw [← q1, ← q2]
    rfl
  have pk : (strSliceIndices lo hi 1 x.length).filterMap (x.toArray[·]?) = sl x lo hi := by
    rw [e, sliceRange_one, pick_run, List.toList_toArray]; rfl
  unfold Txt.slice
  rw [L2S_len]
  show (if _ then _ else (⟨((strSliceIndices lo hi 1 x.length).filterMap (x.toArray[·]?)).toArray⟩ : PySem.Str)) = _
  rw [pk]
  split
  · rename_i h
    simp only [Bool.and_eq_true, beq_iff_eq] at h
    rw [e, sliceRange_one, List.length_map, List.length_range] at h
    have hl : kms_lo lo x.length = 0 := by
      have hh : kms_hi hi x.length ≤ x.length := by
        unfold kms_hi; split <;> (try split) <;> omega
      have hll : kms_lo lo x.length ≤ x.length := by
        unfold kms_lo; split <;> (try split) <;> omega
      omega
    unfold sl
    rw [hl] at h ⊢
    rw [List.drop_zero, h.2, List.take_length]
  · rfl
theorem Ev.slS {value : Expr} {lo hi : Option Expr} {p : Pos} {x : List Nat} {i j : Option Int} (hv : Ev cx σ value (vStr x) σ) (hl : EvPt cx σ lo i) (hh : EvPt cx σ hi j) (hsz : x.length ≤ sizeLine) :
    Ev cx σ (.Subscript value (.Slice lo hi none p) pos) (vStr (sl x i j)) σ where
  like := rfl
  vars := rfl
  run := fun F s ok Q E k => Subscript_ (hv.run F s ok _ _ fun v F₁ s₁ st₁ ok₁ r₁ => wpAny_Slice (hl.run F₁ s₁ ok₁ _ _ fun vl F₂ s₂ st₂ ok₂ r₂ => hh.run F₂ s₂ ok₂ _ _ fun vu F₃ s₃ st₃ ok₃ r₃ => by
    rw [evalPart_none]
    refine wpAny_pure ?_
    obtain ⟨t, rfl⟩ := r₁
    have fin : ∀ (l u : Option (Int × Tok)), l.map (·.1) = i → u.map (·.1) = j → vl = partValue l → vu = partValue u →
        wpAny (model cx.prog cx.w) cx.A (subscriptTail value (.Slice lo hi none p) (.str (L2S x) t) (.ref s₃.heap.objs.size)) Q E { s₃ with heap := s₃.heap.push { cls := .type "slice", data := .fields #[vl, vu, .none] } } := by
      rintro l u rfl rfl rfl rfl
      refine slice_tail (typeIs_str _ _ _) PySem.F.slot_str_getitem.lookup (wpAny_getItem_str_slice (l := l) (u := u) (st := none) ⟨_, Heap.get?_push_size _ rfl, rfl, rfl⟩ rfl ?_) ⟨_, rfl⟩
      have hle : (Txt.slice (L2S x) (l.map (·.1)) (u.map (·.1))).length ≤ sizeLine := Nat.le_trans (Txt.slice_le _ _ _) (by rw [L2S_len]; exact hsz)
      refine post_val_or_str ⟨hle, fun t' kk => ?_⟩
      have hst : Step (fun _ => False) F₃ s₃ F₃ { s₃ with heap := s₃.heap.push { cls := .type "slice", data := .fields #[partValue l, partValue u, .none] }, toks := kk } := Step.heap ok₃.inh fun b ob e => Heap.get?_push_of_some _ e
      exact k _ F₃ _ (st₁.trans (st₂.trans (st₃.trans (hst.weaken fun _ h => h.elim)))) (ok₃.pure hst) ⟨t', congrArg (Value.str · t') (txt_slice x _ _)⟩
    have pv : ∀ {z : Option Int} {G : FH} {v : Value}, (vPart z).rd G v → ∃ l : Option (Int × Tok), l.map (·.1) = z ∧ v = partValue l := by
      intro z G v h
      cases z with
      | none => cases h; exact ⟨none, rfl, rfl⟩
      | some n => obtain ⟨t, rfl⟩ := h; exact ⟨some (n, t), rfl, rfl⟩
    obtain ⟨l, h1, h2⟩ := pv r₂
    obtain ⟨u, h3, h4⟩ := pv r₃
    exact fin l u h1 h3 h2 h4))
end Mine
namespace Mine
open PySem PySem.W PySem.Calls PyProof.Rows Builtin Builtin.Str Builtin.Int
variable {cx : Cx} {σ σ₁ σ₂ σ₃ : St} {pos : Pos}
/-- what is known of the text's own names -/
structure Grd (K : Frag) (g : Heap) : Prop where
  X : K.In g
  T : ∃ p loose mg mb, TopRead p loose mg mb g
theorem StOK.g {F s} (ok : StOK cx F s σ) : ∀ b o, cx.g.get? b = some o → s.heap.get? b = some o := fun b o e => ok.inh _ _ (ok.gF b o e)
theorem Ev.gname {K : Frag} {x : PySem.Str} {v : Value} (G : Grd K cx.g) (e : nsIn K mainGlobals x = some (some v)) (hx : cx.env.kindOf x = some .globalImplicit)
    (hd : (x == (PySem.Str.ofString "__debug__")) = false := by decide) : Ev cx σ (.Name x pos) (vVal v) σ :=
  ⟨rfl, rfl, fun F s ok Q E k => by
    obtain ⟨p, loose, mg, mb, T⟩ := G.T
    exact Name_function_global ok.kind hx (loadGlobal_global (by rw [ok.glob]; exact T.g.keeps ok.g) (mg_of G.X T.g e) (k _ F s (.refl ok.inh) ok rfl)) hd⟩
theorem Ev.bname {K : Frag} {x : PySem.Str} {v : Value} (G : Grd K cx.g) (e : nsIn K mainGlobals x = some none) (hv : bootBuiltins x = some v) (hx : cx.env.kindOf x = some .globalImplicit)
    (hn : x ≠ PySem.Str.ofString "__name__" := by decide) (hd : (x == (PySem.Str.ofString "__debug__")) = false := by decide) : Ev cx σ (.Name x pos) (vVal v) σ :=
  ⟨rfl, rfl, fun F s ok Q E k => by
    obtain ⟨p, loose, mg, mb, T⟩ := G.T
    exact Name_function_global ok.kind hx (loadGlobal_builtin (by rw [ok.glob]; exact T.g.keeps ok.g) (mg_none_of G.X T.g e) (by rw [ok.bltn]; exact T.b.keeps ok.g) ((T.builtins x hn).trans hv) (k _ F s (.refl ok.inh) ok rfl)) hd⟩
/-- calls of built-in functions and types -/
theorem Ev.callB {x : PySem.Str} {np : Pos} {id : String} {e : Expr} {rest : List Expr} {ps : List VP} {r : VP} (hf : Ev cx σ (.Name x np) (vVal (.builtin id)) σ) (ha : EvAll cx σ pos (e :: rest) ps σ₁)
    (hop : ∀ F s vs, StOK cx F s σ₁ → Rds F ps vs → Gv cx (call (.builtin id) vs) F s r.rd)
    (he : starEach (e :: rest) cx.env = (false, eval e cx.env) :: starEach rest cx.env := by with_unfolding_all rfl) (hp : (backTo pos (starEach rest cx.env)).any (·.1) = false := by with_unfolding_all rfl) :
    Ev cx σ (.Call (.Name x np) (e :: rest) [] pos) r σ₁ where
  like := ha.like
  vars := ha.vars
  run := fun F s ok Q E k => wpAny_Call_Name_kw (hf.run F s ok _ _ fun v F₁ s₁ st₁ ok₁ r₁ => by
    cases r₁
    show wpAny _ _ (callWith pos (.builtin id) [] (backTo pos (starEach (e :: rest) cx.env)) []) Q E s₁
    exact PyProof.Rows.callWith_builtin1 (ha.run F₁ s₁ ok₁ _ _ fun vs F₂ s₂ st₂ ok₂ r₂ => hop F₂ s₂ vs ok₂ r₂ _ _ fun w F₃ s₃ st₃ r₃ =>
      k w F₃ s₃ (st₁.trans (st₂.trans (st₃.weaken fun _ h => h.elim))) (ok₂.pure st₃) r₃) he hp)
theorem Ev.callT {x : PySem.Str} {np : Pos} {T : String} {e : Expr} {rest : List Expr} {ps : List VP} {r : VP} (hf : Ev cx σ (.Name x np) (vVal (.type T)) σ) (ha : EvAll cx σ pos (e :: rest) ps σ₁)
    (hop : ∀ F s vs, StOK cx F s σ₁ → Rds F ps vs → Gv cx (call (.type T) vs) F s r.rd)
    (he : starEach (e :: rest) cx.env = (false, eval e cx.env) :: starEach rest cx.env := by with_unfolding_all rfl) (hp : (backTo pos (starEach rest cx.env)).any (·.1) = false := by with_unfolding_all rfl) :
    Ev cx σ (.Call (.Name x np) (e :: rest) [] pos) r σ₁ where
  like := ha.like
  vars := ha.vars
  run := fun F s ok Q E k => wpAny_Call_Name_kw (hf.run F s ok _ _ fun v F₁ s₁ st₁ ok₁ r₁ => by
    cases r₁
    show wpAny _ _ (callWith pos (.type T) [] (backTo pos (starEach (e :: rest) cx.env)) []) Q E s₁
    exact PyProof.Rows.callWith_type1 (ha.run F₁ s₁ ok₁ _ _ fun vs F₂ s₂ st₂ ok₂ r₂ => hop F₂ s₂ vs ok₂ r₂ _ _ fun w F₃ s₃ st₃ r₃ =>
      k w F₃ s₃ (st₁.trans (st₂.trans (st₃.weaken fun _ h => h.elim))) (ok₂.pure st₃) r₃) he hp)
theorem EvN.callT {x : PySem.Str} {np : Pos} {T : String} {e : Expr} {rest : List Expr} {ps qs : List VP} (hf : Ev cx σ (.Name x np) (vVal (.type T)) σ) (ha : EvAll cx σ pos (e :: rest) ps σ₁)
    (hop : ∀ F s vs, StOK cx F s σ₁ → Rds F ps vs → GvN cx (call (.type T) vs) F s qs)
    (he : starEach (e :: rest) cx.env = (false, eval e cx.env) :: starEach rest cx.env := by with_unfolding_all rfl) (hp : (backTo pos (starEach rest cx.env)).any (·.1) = false := by with_unfolding_all rfl) :
    EvN cx σ (.Call (.Name x np) (e :: rest) [] pos) qs σ₁ where
  like := ha.like
  vars := ha.vars
  run := fun F s ok Q E k => wpAny_Call_Name_kw (hf.run F s ok _ _ fun v F₁ s₁ st₁ ok₁ r₁ => by
    cases r₁
    show wpAny _ _ (callWith pos (.type T) [] (backTo pos (starEach (e :: rest) cx.env)) []) Q E s₁
    exact PyProof.Rows.callWith_type1 (ha.run F₁ s₁ ok₁ _ _ fun vs F₂ s₂ st₂ ok₂ r₂ => hop F₂ s₂ vs ok₂ r₂ _ _ fun a o ws h' tk hk hn hg hl hr =>
      k F₂ s₂ (st₁.trans st₂) ok₂ a o ws h' tk hk hn hg hl hr) he hp)
/-- operations by their values -/
theorem Rds.one {F : FH} {p : VP} {vs : List Value} (h : Rds F [p] vs) : ∃ v, vs = [v] ∧ p.rd F v := by
  cases h with | cons a b => cases b; exact ⟨_, rfl, a⟩
theorem Rds.two {F : FH} {p q : VP} {vs : List Value} (h : Rds F [p, q] vs) : ∃ v u, vs = [v, u] ∧ p.rd F v ∧ q.rd F u := by
  cases h with | cons a b => obtain ⟨u, rfl, c⟩ := b.one; exact ⟨_, _, rfl, a, c⟩
theorem Rds.three {F : FH} {p q r : VP} {vs : List Value} (h : Rds F [p, q, r] vs) : ∃ v u w, vs = [v, u, w] ∧ p.rd F v ∧ q.rd F u ∧ r.rd F w := by
  cases h with | cons a b => obtain ⟨u, w, rfl, c⟩ := b.two; exact ⟨_, _, _, rfl, a, c⟩
section len
variable {x : PySem.Str} {np : Pos} {e : Expr}
theorem Ev.lenL {ps : List VP} (hf : Ev cx σ (.Name x np) (vVal (.builtin "len")) σ) (h : Ev cx σ e (vSrcW σ ps) σ) (hsz : ps.length ≤ sizeLine)
    (he : starEach [e] cx.env = [(false, eval e cx.env)] := by with_unfolding_all rfl) : Ev cx σ (.Call (.Name x np) [e] [] pos) (vInt ps.length) σ :=
  .callB hf (.cons h .nil he) (fun F s vs ok r => by
    obtain ⟨v, rfl, r'⟩ := r.one
    obtain ⟨a, us, rfl, hL, rv⟩ := LstW.items r' ok
    rw [sizeLine_is] at hsz
    exact fun Q E k => call_len_list hL (by rw [List.size_toArray, rv.length]; first | lia | omega) (k _ F _ (.toks ok.inh) ⟨_, by rw [List.size_toArray, rv.length]⟩)) he rfl
theorem Ev.lenS {y : List Nat} (hf : Ev cx σ (.Name x np) (vVal (.builtin "len")) σ) (h : Ev cx σ e (vStr y) σ) (hsz : y.length ≤ sizeLine)
    (he : starEach [e] cx.env = [(false, eval e cx.env)] := by with_unfolding_all rfl) : Ev cx σ (.Call (.Name x np) [e] [] pos) (vInt y.length) σ :=
  .callB hf (.cons h .nil he) (fun F s vs ok r => by
    obtain ⟨v, rfl, t, rfl⟩ := r.one
    rw [sizeLine_is] at hsz
    exact fun Q E k => PySem.P.len_str (by rw [L2S_len]; first | lia | omega) (k _ F _ (.toks ok.inh) ⟨_, by rw [L2S_len]⟩)) he rfl
theorem Ev.max2 {f a b : Expr} {i j : Int} (hf : Ev cx σ (.Name x np) (vVal (.builtin "max")) σ) (h : EvAll cx σ pos [a, b] [vInt i, vInt j] σ₁)
    (he : starEach [a, b] cx.env = (false, eval a cx.env) :: starEach [b] cx.env := by with_unfolding_all rfl) (hp : (backTo pos (starEach [b] cx.env)).any (·.1) = false := by with_unfolding_all rfl) :
    Ev cx σ (.Call (.Name x np) [a, b] [] pos) (vInt (if j > i then j else i)) σ₁ :=
  .callB hf h (fun F s vs ok r => by
    obtain ⟨v, u, rfl, ⟨t, rfl⟩, ⟨t', rfl⟩⟩ := r.two
    exact fun Q E k => max_two_ints ok.hh fun h' tk hk => k _ F _ (.heap ok.inh hk) (by split <;> exact ⟨_, rfl⟩)) he hp
theorem Ev.min2 {f a b : Expr} {i j : Int} (hf : Ev cx σ (.Name x np) (vVal (.builtin "min")) σ) (h : EvAll cx σ pos [a, b] [vInt i, vInt j] σ₁)
    (he : starEach [a, b] cx.env = (false, eval a cx.env) :: starEach [b] cx.env := by with_unfolding_all rfl) (hp : (backTo pos (starEach [b] cx.env)).any (·.1) = false := by with_unfolding_all rfl) :
    Ev cx σ (.Call (.Name x np) [a, b] [] pos) (vInt (if j < i then j else i)) σ₁ :=
  .callB hf h (fun F s vs ok r => by
    obtain ⟨v, u, rfl, ⟨t, rfl⟩, ⟨t', rfl⟩⟩ := r.two
    exact fun Q E k => min_two_ints ok.hh fun h' tk hk => k _ F _ (.heap ok.inh hk) (by split <;> exact ⟨_, rfl⟩)) he hp
/-- a range -/
noncomputable def vRange (a b c : Int) : VP := ⟨fun F v => ∃ r t u w, v = .ref r ∧ F r = some { cls := .type "range", data := .fields #[.int a t, .int b u, .int c w] },
  fun h ⟨r, t, u, w, e, f⟩ => ⟨r, t, u, w, e, h _ _ f⟩⟩
theorem Ev.range1 {n : Int} (hf : Ev cx σ (.Name x np) (vVal (.type "range")) σ) (h : Ev cx σ e (vInt n) σ)
    (he : starEach [e] cx.env = [(false, eval e cx.env)] := by with_unfolding_all rfl) : Ev cx σ (.Call (.Name x np) [e] [] pos) (vRange 0 n 1) σ :=
  .callT hf (.cons h .nil he) (fun F s vs ok r => by
    obtain ⟨v, rfl, t, rfl⟩ := r.one
    exact fun Q E k => call_range_1 (k _ _ _ (.push ok.inh rfl) ⟨_, _, _, _, rfl, FH.set_at ..⟩)) he rfl
theorem Ev.range2 {a b : Expr} {i j : Int} (hf : Ev cx σ (.Name x np) (vVal (.type "range")) σ) (h : EvAll cx σ pos [a, b] [vInt i, vInt j] σ₁)
    (he : starEach [a, b] cx.env = (false, eval a cx.env) :: starEach [b] cx.env := by with_unfolding_all rfl) (hp : (backTo pos (starEach [b] cx.env)).any (·.1) = false := by with_unfolding_all rfl) :
    Ev cx σ (.Call (.Name x np) [a, b] [] pos) (vRange i j 1) σ₁ :=
  .callT hf h (fun F s vs ok r => by
    obtain ⟨v, u, rfl, ⟨t, rfl⟩, ⟨t', rfl⟩⟩ := r.two
    exact fun Q E k => call_range_2 (k _ _ _ (.push ok.inh rfl) ⟨_, _, _, _, rfl, FH.set_at ..⟩)) he hp
theorem Ev.range3 {a b c : Expr} {i j l : Int} (hf : Ev cx σ (.Name x np) (vVal (.type "range")) σ) (h : EvAll cx σ pos [a, b, c] [vInt i, vInt j, vInt l] σ₁) (hl : l ≠ 0) (hs : l.natAbs < 1073741824)
    (he : starEach [a, b, c] cx.env = (false, eval a cx.env) :: starEach [b, c] cx.env := by with_unfolding_all rfl) (hp : (backTo pos (starEach [b, c] cx.env)).any (·.1) = false := by with_unfolding_all rfl) :
    Ev cx σ (.Call (.Name x np) [a, b, c] [] pos) (vRange i j l) σ₁ :=
  .callT hf h (fun F s vs ok r => by
    obtain ⟨v, u, w, rfl, ⟨t, rfl⟩, ⟨t', rfl⟩, ⟨t'', rfl⟩⟩ := r.three
    exact fun Q E k => call_range_3 hl (k _ _ _ (.push ok.inh rfl) ⟨_, _, _, _, rfl, FH.set_at ..⟩) (.inl (PyProof.noPylong_small hs))) he hp
theorem Ev.tupleL {ps : List VP} (hf : Ev cx σ (.Name x np) (vVal (.type "tuple")) σ) (h : Ev cx σ e (vSrcW σ ps) σ) (hsz : ps.length ≤ sizeLine)
    (he : starEach [e] cx.env = [(false, eval e cx.env)] := by with_unfolding_all rfl) : Ev cx σ (.Call (.Name x np) [e] [] pos) (vTup ps) σ :=
  .callT hf (.cons h .nil he) (fun F s vs ok r => by
    obtain ⟨v, rfl, r'⟩ := r.one
    obtain ⟨a, us, rfl, hL, rv⟩ := LstW.items r' ok
    exact fun Q E k => call_tuple_list hL (fun h' hk => by
      have hn : s.heap.get? h'.objs.size = none := by
        cases q : s.heap.get? h'.objs.size with
        | none => rfl
        | some o => have := hk _ _ q; rw [get_size] at this; cases this
      have st : Step (fun _ => False) F s (F.set h'.objs.size _) { s with heap := h'.push { cls := .type "tuple", data := .seq us.toArray } } :=
        Step.freeze ok.inh (fun b ob q => Heap.get?_push_of_some _ (hk b ob q)) hn (Heap.get?_push_size _ rfl)
      exact k _ _ _ st ⟨_, _, us, rfl, FH.set_at .., ⟨0, rfl⟩, rv.mono st.sub⟩) (by rw [List.size_toArray, rv.length]; exact hsz)) he rfl
/-- the sum of a list of ints, of any size -/
theorem rds_ints {F : FH} : ∀ {ns : List Int} {vs : List Value}, Rds F (ns.map vInt) vs → ∃ xs : List (Int × Tok), vs = xs.map (fun p => .int p.1 p.2) ∧ xs.map (·.1) = ns
  | [], _, h => by cases h; exact ⟨[], rfl, rfl⟩
  | n :: ns, _, h => by
    cases h with
    | cons a b =>
      obtain ⟨t, rfl⟩ := a
      obtain ⟨xs, rfl, rfl⟩ := rds_ints b
      exact ⟨(n, t) :: xs, rfl, rfl⟩
theorem preSum_list : ∀ (xs : List (Int × Tok)), preSum (numAt xs.toArray) xs.length = (xs.map (·.1)).sum := by
  intro xs
  have := preSum_eq xs.toArray xs.length
  rw [this, List.take_of_length_le (by simp)]
  try simp
theorem Ev.sumL {ns : List Int} (hf : Ev cx σ (.Name x np) (vVal (.builtin "sum")) σ) (h : Ev cx σ e (vSrcW σ (ns.map vInt)) σ)
    (he : starEach [e] cx.env = [(false, eval e cx.env)] := by with_unfolding_all rfl) : Ev cx σ (.Call (.Name x np) [e] [] pos) (vInt ns.sum) σ :=
  .callB hf (.cons h .nil he) (fun F s vs ok r => by
    obtain ⟨v, rfl, r'⟩ := r.one
    obtain ⟨a, us, rfl, hL, rv⟩ := LstW.items r' ok
    obtain ⟨xs, rfl, rfl⟩ := rds_ints rv
    have hi : s.heap.IsList a (intItems xs.toArray) := by
      have e2 : intItems xs.toArray = (xs.map (fun p => Value.int p.1 p.2)).toArray := by unfold intItems; simp
      rw [e2]; exact hL
    exact fun Q E k => sum_intListG ok.hh hi fun h' tk t' hk => k _ F _ (.heap ok.inh hk) ⟨t', by rw [show xs.toArray.size = xs.length from by simp, preSum_list]⟩) he rfl
end len
end Mine
namespace Mine
open PySem PySem.W PySem.Calls PyProof.Rows Builtin Builtin.Str Builtin.Int
variable {cx : Cx} {σ σ₁ σ₂ σ₃ : St} {pos : Pos}
/-- methods of texts -/
theorem Ev.meth0 {o : Expr} {name : PySem.Str} {ap : Pos} {x : List Nat} {r : VP} (ho : Ev cx σ o (vStr x) σ₁)
    (hop : ∀ F s t, StOK cx F s σ₁ → ∀ (Q : Value → Shared → Prop) (E : Value → Shared → Prop), (∀ v F' s', Step (fun _ => False) F s F' s' → r.rd F' v → Q v s') → MethodOnS cx.prog cx.w cx.A E name (.str (L2S x) t) pos [] Q s)
    (hb : attributeBase o name cx.env (PySem.eval o cx.env) = PySem.eval o cx.env := by with_unfolding_all rfl) (hl : (ap.endLine == pos.line) = true := by with_unfolding_all rfl) : Ev cx σ (.Call (.Attribute o name ap) [] [] pos) r σ₁ where
  like := ho.like
  vars := ho.vars
  run := fun F s ok Q E k => Call_method0 hb hl (ho.run F s ok _ _ fun v F₁ s₁ st₁ ok₁ r₁ => by
    obtain ⟨t, rfl⟩ := r₁
    exact hop F₁ s₁ t ok₁ Q E fun w F₂ s₂ st₂ r₂ => k w F₂ s₂ (st₁.trans (st₂.weaken fun _ h => h.elim)) (ok₁.pure st₂) r₂)
theorem Ev.lower {o : Expr} {ap : Pos} {x : List Nat} (ho : Ev cx σ o (vStr x) σ₁) (hsz : (Txt.lower (L2S x)).length ≤ sizeLine)
    (hb : attributeBase o (PySem.Str.ofString "lower") cx.env (PySem.eval o cx.env) = PySem.eval o cx.env := by with_unfolding_all rfl) (hl : (ap.endLine == pos.line) = true := by with_unfolding_all rfl) : Ev cx σ (.Call (.Attribute o (PySem.Str.ofString "lower") ap) [] [] pos) (vStr (S2 (Txt.lower (L2S x)))) σ₁ :=
  .meth0 ho (fun F s t ok Q E k => SB.lower (tooLong_of hsz) (k _ F _ (.toks ok.inh) vStr_of)) hb hl
theorem Ev.upper {o : Expr} {ap : Pos} {x : List Nat} (ho : Ev cx σ o (vStr x) σ₁) (hsz : (Txt.upper (L2S x)).length ≤ sizeLine)
    (hb : attributeBase o (PySem.Str.ofString "upper") cx.env (PySem.eval o cx.env) = PySem.eval o cx.env := by with_unfolding_all rfl) (hl : (ap.endLine == pos.line) = true := by with_unfolding_all rfl) : Ev cx σ (.Call (.Attribute o (PySem.Str.ofString "upper") ap) [] [] pos) (vStr (S2 (Txt.upper (L2S x)))) σ₁ :=
  .meth0 ho (fun F s t ok Q E k => SB.upper (tooLong_of hsz) (k _ F _ (.toks ok.inh) vStr_of)) hb hl
theorem Ev.swapcase {o : Expr} {ap : Pos} {x : List Nat} (ho : Ev cx σ o (vStr x) σ₁) (hsz : (Txt.swapcase (L2S x)).length ≤ sizeLine)
    (hb : attributeBase o (PySem.Str.ofString "swapcase") cx.env (PySem.eval o cx.env) = PySem.eval o cx.env := by with_unfolding_all rfl) (hl : (ap.endLine == pos.line) = true := by with_unfolding_all rfl) : Ev cx σ (.Call (.Attribute o (PySem.Str.ofString "swapcase") ap) [] [] pos) (vStr (S2 (Txt.swapcase (L2S x)))) σ₁ :=
  .meth0 ho (fun F s t ok Q E k => SB.swapcase (tooLong_of hsz) (k _ F _ (.toks ok.inh) vStr_of)) hb hl
/-- a method of one argument, by a call -/
theorem wpMeth1 {o e : Expr} {name : PySem.Str} {ap : Pos} {T id : String} {env : Env} {prog : Program} {w : World} {A : Around} {E : Value → Shared → Prop} {Q : Value → Shared → Prop} {s : Shared}
    (pa : PlainAttrs T) (sl : Slot T name id) (ty : typeOf (.builtin id) = pure (.type "method_descriptor"))
    (h : wpAny (model prog w) A (PySem.eval o env) (fun ov s₁ => s₁.TypeIs ov T ∧ (∀ a, ov = .ref a → ∃ ob, s₁.heap.get? a = some ob ∧ ob.dict = none) ∧
      wpAny (model prog w) A (PySem.eval e env) (fun u s₂ => wpAny (model prog w) A (call (.builtin id) [ov, u]) Q E s₂) E s₁) E s)
    (hs : starEach [e] env = [(false, PySem.eval e env)] := by with_unfolding_all rfl)
    (hb : attributeBase o name env (PySem.eval o env) = PySem.eval o env := by with_unfolding_all rfl) (hl : (ap.endLine == pos.line) = true := by with_unfolding_all rfl) :
    wpAny (model prog w) A (PySem.eval (.Call (.Attribute o name ap) [e] [] pos) env) Q E s := by
  refine Call_method1 hb hs hl (wpAny_mono h (fun ov s₁ ⟨hT, hd, hc⟩ => ⟨T, id, pa, sl, ty, hT, hd, ?_⟩) fun _ _ x => x)
  refine callWith_builtin rfl (evalArgs_plain (spliced_cons (wpAny_mono hc (fun u s₂ h₂ => spliced_nil h₂) fun _ _ x => x)))
theorem Ev.countS {o e : Expr} {ap : Pos} {x y : List Nat} (ho : Ev cx σ o (vStr x) σ₁) (he : Ev cx σ₁ e (vStr y) σ₂)
    (hs : starEach [e] cx.env = [(false, PySem.eval e cx.env)] := by with_unfolding_all rfl)
    (hb : attributeBase o (PySem.Str.ofString "count") cx.env (PySem.eval o cx.env) = PySem.eval o cx.env := by with_unfolding_all rfl) (hl : (ap.endLine == pos.line) = true := by with_unfolding_all rfl) :
    Ev cx σ (.Call (.Attribute o (PySem.Str.ofString "count") ap) [e] [] pos) (vInt (Txt.count (L2S x) (L2S y))) σ₂ where
  like := he.like.trans ho.like
  vars := he.vars.trans ho.vars
  run := fun F s ok Q E k => Call_method1 hb hs hl (ho.run F s ok _ _ fun v F₁ s₁ st₁ ok₁ r₁ => by
    obtain ⟨t, rfl⟩ := r₁
    refine SB.count (he.run F₁ s₁ ok₁ _ _ fun u F₂ s₂ st₂ ok₂ r₂ => ?_)
    obtain ⟨t', rfl⟩ := r₂
    have st₃ : Step (fun _ => False) F₂ s₂ F₂ { s₂ with toks := s₂.toks + 1 } := .toks ok₂.inh
    exact ⟨_, _, rfl, k _ F₂ _ (st₁.trans ((ho.has ▸ st₂).trans (st₃.weaken fun _ h => h.elim))) (ok₂.pure st₃) ⟨_, rfl⟩⟩)
/-- a list of texts -/
noncomputable def vStrs (l : List (List Nat)) : List VP := l.map vStr
theorem rds_strs {F : FH} : ∀ {l : List (PySem.Str × Tok)}, Rds F (vStrs (l.map fun p => S2 p.1)) (strValues l)
  | [] => .nil
  | (x, t) :: l => .cons vStr_of rds_strs
theorem strs_rds {F : FH} : ∀ {ls : List (List Nat)} {vs : List Value}, Rds F (vStrs ls) vs → ∃ l : List (PySem.Str × Tok), vs = strValues l ∧ l.map (·.1) = ls.map L2S
  | [], _, h => by cases h; exact ⟨[], rfl, rfl⟩
  | x :: ls, _, h => by
    cases h with
    | cons a b =>
      obtain ⟨t, rfl⟩ := a
      obtain ⟨l, rfl, e⟩ := strs_rds b
      exact ⟨(L2S x, t) :: l, rfl, by simp [e]⟩
/-- the parts of a text -/
noncomputable def splitL (x y : List Nat) : List (List Nat) := (Txt.split (L2S x) (L2S y)).map S2
theorem gv_split {x y : List Nat} {t u : Tok} {F : FH} {s : Shared} (hi : Inh F s.heap) (hy : (y.length == 0) = false) (hsz : x.length ≤ sizeLine) (hp : (splitL x y).length ≤ sizeLine) :
    GvN cx (call (.builtin "str.split") [.str (L2S x) t, .str (L2S y) u]) F s (vStrs (splitL x y)) := by
  intro Q E k
  have fin : ∀ (l : List (PySem.Str × Tok)) tk, l.map (·.1) = Txt.split (L2S x) (L2S y) → Q (.ref s.heap.objs.size) { s with heap := s.heap.push { cls := .type "list", data := .seq (strValues l).toArray }, toks := tk } := fun l tk e =>
    k _ _ (strValues l) _ tk (fun b ob q => Heap.get?_push_of_some _ q) (get_size _) (Heap.get?_push_size _ rfl) ⟨0, rfl⟩ (by
      have : splitL x y = l.map fun p => S2 p.1 := by unfold splitL; rw [← e, List.map_map]; rfl
      rw [this]; exact rds_strs)
  have hy' : ((L2S y).length == 0) = false := by rw [L2S_len]; exact hy
  have hs' : (L2S x).length ≤ sizeLine := by rw [L2S_len]; exact hsz
  unfold splitL at hp
  rw [List.length_map] at hp
  by_cases h1 : (decide ((L2S x).length < (L2S y).length) || decide (strKind (L2S x) < strKind (L2S y))) = true
  · exact call_meets PySem.F.slot_str_split (typeIs_str _ _ _) PySem.F.entry_str_split (PySem.F.args_str_split_2 _ _) (meets_str_split_cannot_occur (L2S x) (L2S y) t u h1)
      (fin [(L2S x, t)] s.toks (by unfold Txt.split; rw [if_pos h1]; rfl))
  · by_cases h2 : (occurrences (L2S x) (L2S y) 0 (L2S x).length ((L2S x).length + 1)).isEmpty = true
    · exact call_meets PySem.F.slot_str_split (typeIs_str _ _ _) PySem.F.entry_str_split (PySem.F.args_str_split_2 _ _) (meets_str_split_not_found (L2S x) (L2S y) t u (Bool.eq_false_iff.mpr h1) hy' h2)
        (fin [(L2S x, t)] s.toks (by unfold Txt.split; rw [if_neg h1, if_pos h2]; rfl))
    · have e : Txt.split (L2S x) (L2S y) = partsBetween (L2S x) (occurrences (L2S x) (L2S y) 0 (L2S x).length ((L2S x).length + 1)) (L2S y).length := by
        unfold Txt.split; rw [if_neg h1, if_neg h2]
      refine call_meets PySem.F.slot_str_split (typeIs_str _ _ _) PySem.F.entry_str_split (PySem.F.args_str_split_2 _ _) (meets_str_split_sep (L2S x) (L2S y) t u (Bool.eq_false_iff.mpr h1) hy' (Bool.eq_false_iff.mpr h2) hs' (e ▸ hp)) ?_
      have q := fin (numbered s.toks (Txt.split (L2S x) (L2S y))) (s.toks + (Txt.split (L2S x) (L2S y)).length) (numbered_texts _ _)
      rw [← strsFrom_eq, e] at q
      exact q
theorem EvN.split {o e : Expr} {ap : Pos} {x y : List Nat} (ho : Ev cx σ o (vStr x) σ₁) (he : Ev cx σ₁ e (vStr y) σ₂) (hy : (y.length == 0) = false) (hsz : x.length ≤ sizeLine) (hp : (splitL x y).length ≤ sizeLine)
    (hs : starEach [e] cx.env = [(false, PySem.eval e cx.env)] := by with_unfolding_all rfl)
    (hb : attributeBase o (PySem.Str.ofString "split") cx.env (PySem.eval o cx.env) = PySem.eval o cx.env := by with_unfolding_all rfl) (hl : (ap.endLine == pos.line) = true := by with_unfolding_all rfl) :
    EvN cx σ (.Call (.Attribute o (PySem.Str.ofString "split") ap) [e] [] pos) (vStrs (splitL x y)) σ₂ where
  like := he.like.trans ho.like
  vars := he.vars.trans ho.vars
  run := fun F s ok Q E k => wpMeth1 PySem.F.plainAttrs_str PySem.F.slot_str_split PySem.F.type_str_split (ho.run F s ok _ _ fun v F₁ s₁ st₁ ok₁ r₁ => by
    obtain ⟨t, rfl⟩ := r₁
    refine ⟨typeIs_str _ _ _, (fun _ q => nomatch q), he.run F₁ s₁ ok₁ _ _ fun u F₂ s₂ st₂ ok₂ r₂ => ?_⟩
    obtain ⟨t', rfl⟩ := r₂
    exact gv_split (cx := cx) ok₂.inh hy hsz hp Q E fun a o vs h' tk hk hn hg hl hr => k F₂ s₂ (st₁.trans (ho.has ▸ st₂)) ok₂ a o vs h' tk hk hn hg hl hr) hs hb hl
/-- texts joined -/
noncomputable def joinL (x : List Nat) (ls : List (List Nat)) : List Nat := S2 (Txt.join (L2S x) (ls.map L2S))
theorem Ev.join {o e : Expr} {ap : Pos} {x : List Nat} {ls : List (List Nat)} (ho : Ev cx σ o (vStr x) σ₁) (he : Ev cx σ₁ e (vSrcW σ₂ (vStrs ls)) σ₂) (hj : JoinOk (L2S x) (ls.map L2S) = true)
    (hs : starEach [e] cx.env = [(false, PySem.eval e cx.env)] := by with_unfolding_all rfl)
    (hb : attributeBase o (PySem.Str.ofString "join") cx.env (PySem.eval o cx.env) = PySem.eval o cx.env := by with_unfolding_all rfl) (hl : (ap.endLine == pos.line) = true := by with_unfolding_all rfl) :
    Ev cx σ (.Call (.Attribute o (PySem.Str.ofString "join") ap) [e] [] pos) (vStr (joinL x ls)) σ₂ where
  like := he.like.trans ho.like
  vars := he.vars.trans ho.vars
  run := fun F s ok Q E k => wpMeth1 PySem.F.plainAttrs_str PySem.F.slot_str_join PySem.F.type_str_join (ho.run F s ok _ _ fun v F₁ s₁ st₁ ok₁ r₁ => by
    obtain ⟨t, rfl⟩ := r₁
    refine ⟨typeIs_str _ _ _, (fun _ q => nomatch q), he.run F₁ s₁ ok₁ _ _ fun u F₂ s₂ st₂ ok₂ r₂ => ?_⟩
    obtain ⟨a, us, rfl, hL, rv⟩ := LstW.items r₂ ok₂
    obtain ⟨l, rfl, e⟩ := strs_rds rv
    refine SC.join hL e hj fun t' kk => ?_
    have st₃ : Step (fun _ => False) F₂ s₂ F₂ { s₂ with toks := kk } := .toks ok₂.inh
    exact k _ F₂ _ (st₁.trans ((ho.has ▸ st₂).trans (st₃.weaken fun _ h => h.elim))) (ok₂.pure st₃) vStr_of) hs hb hl
section sLists
variable {x : PySem.Str} {np : Pos} {e : Expr}
theorem itemsOf_rds {F : FH} {P : Nat → Value → Prop} : ∀ {acc : Array Value} {n : Nat} {ps : List VP}, ItemsOf P acc n → ps.length = n → (∀ j v p, ps[j]? = some p → P j v → p.rd F v) → Rds F ps acc.toList := by
  intro acc n ps h hl hp
  obtain ⟨hs, hi⟩ := h
  have gen : ∀ (ps : List VP) (vs : List Value) (k : Nat), ps.length = vs.length → (∀ (j : Nat) (v : Value) (p : VP), vs[j]? = some v → ps[j]? = some p → p.rd F v) → Rds F ps vs := by
    intro ps
    induction ps with
    | nil => intro vs k hl _; cases vs with | nil => exact .nil | cons _ _ => cases hl
    | cons p ps ih =>
      intro vs k hl hq
      cases vs with
      | nil => cases hl
      | cons v vs =>
        exact .cons (hq 0 v p rfl rfl) (ih vs k (by simpa using hl) fun j v p h1 h2 => hq (j + 1) v p (by simpa using h1) (by simpa using h2))
  refine gen ps acc.toList 0 (by rw [hl, ← hs]; simp) fun j v p h1 h2 => hp j v p h2 (hi j v (by simpa using h1))
theorem EvN.listS {y : List Nat} (hf : Ev cx σ (.Name x np) (vVal (.type "list")) σ) (h : Ev cx σ e (vStr y) σ) (hsz : y.length ≤ sizeLine)
    (he : starEach [e] cx.env = [(false, PySem.eval e cx.env)] := by with_unfolding_all rfl) : EvN cx σ (.Call (.Name x np) [e] [] pos) (vStrs (y.map fun c => [c])) σ :=
  .callT hf (.cons h .nil he) (fun F s vs ok r => by
    obtain ⟨v, rfl, t, rfl⟩ := r.one
    refine fun Q E k => call_list_str ok.hh (L2S y) t (fun h' tk acc c hk hg hi => k _ _ acc.toList h' tk hk (get_size _) hg ⟨c, rfl⟩ ?_) (by have := L2S_len y; unfold PySem.Str.length at this; rw [this]; exact hsz)
    refine itemsOf_rds hi (by have := L2S_len y; unfold PySem.Str.length at this; rw [this]; simp [vStrs]) fun j v p hp hv => ?_
    unfold vStrs at hp
    rw [List.map_map, List.getElem?_map] at hp
    obtain ⟨c, hc, rfl⟩ := Option.map_eq_some_iff.mp hp
    obtain ⟨c', t', h1, h2⟩ := hv
    have e1 : (L2S y).cps[j]? = some c := by unfold L2S; rw [List.getElem?_toArray]; exact hc
    rw [e1] at h1; cases h1
    exact ⟨t', h2⟩) he rfl
theorem EvN.listR {a b c : Int} {n : Nat} (hf : Ev cx σ (.Name x np) (vVal (.type "list")) σ) (h : Ev cx σ e (vRange a b c) σ) (hs : Builtin.Range.small a b c = true) (hn : Builtin.Range.rangeSize a b c = n) (hl : n ≤ 2 ^ 24)
    (he : starEach [e] cx.env = [(false, PySem.eval e cx.env)] := by with_unfolding_all rfl) : EvN cx σ (.Call (.Name x np) [e] [] pos) ((List.range n).map fun (i : Nat) => vInt (a + (i : Int) * c)) σ :=
  .callT hf (.cons h .nil he) (fun F s vs ok r => by
    obtain ⟨v, rfl, ad, t, u, w, rfl, f⟩ := r.one
    refine fun Q E k => call_list_range ok.hh (ok.inh _ _ f) hs hn hl (fun h' tk acc c hk hg hi => k _ _ acc.toList h' tk hk (get_size _) hg ⟨c, rfl⟩ ?_)
    refine itemsOf_rds hi (by simp) fun j v p hp hv => ?_
    rw [List.getElem?_map] at hp
    obtain ⟨i, hi', rfl⟩ := Option.map_eq_some_iff.mp hp
    have hij : i = j := by
      have hlt := (List.getElem?_eq_some_iff.mp hi').1
      have hq : (List.range n)[j]? = some j := List.getElem?_range (by simpa using hlt)
      rw [hq] at hi'; exact (Option.some.inj hi').symm
    subst hij
    exact hv) he rfl
end sLists
/-- [v] * n -/
theorem EvN.mul {a b : Expr} {p : VP} {n : Int} (ha : Ev cx σ a (vSrc σ [p]) σ) (hb : Ev cx σ b (vInt n) σ) (hsz : n ≤ 1000) (hlo : -1000 ≤ n) : EvN cx σ (.BinOp a .Mult b pos) (List.replicate n.toNat p) σ :=
  .op2 ha hb (fun Q E s h => wpAny_BinOp h) fun F s v u ok h1 ⟨t, h2⟩ Q E k => by
    subst h2
    obtain ⟨x, o, vs, rfl, hl, ⟨m, rfl⟩, r⟩ := h1.items ok
    obtain ⟨v, rfl, rv⟩ := r.one
    refine wpAny_binaryOp_repeat_ref (T := "list") (U := "int") (by decide) ⟨_, hl, rfl⟩ (fun s' => typeIs_int s' n t) noFill_list_mul PySem.F.fills_int_mul PySem.F.slot_int_rmul repeat_list PySem.F.slot_int_index.lookup
      (call_meets PySem.F.slot_int_rmul (typeIs_int s n t) PySem.F.entry_int_rmul (PySem.F.args_int_rmul_2 _ _) (int___rmul___int_list n t x _ m)
      ⟨hl, rfl, ⟨_, hl, rfl⟩, call_meets PySem.F.slot_list_mul ⟨_, hl, rfl⟩ PySem.F.entry_list_mul (PySem.F.args_list_mul_2 _ _)
        (lm_list_mul_any x _ m none #[] n t (by simp [Builtin.List.listFitsIndex]; first | lia | omega) (by simp; first | lia | omega) (by simp [Builtin.List.listTooLong, sizeLine]; first | lia | omega))
        ⟨hl, k _ _ (List.replicate n.toNat v) _ s.toks (fun b ob q => Heap.get?_push_of_some _ q) (get_size _) (Heap.get?_push_size _ rfl) ⟨0, ?_⟩ ?_⟩⟩)
    · have e : ∀ (j : Nat) (acc : Array Value), (List.replicate j #[v]).foldl (fun x1 x2 => x1 ++ x2) acc = acc ++ (List.replicate j v).toArray := by
        intro j
        induction j with
        | zero => intro acc; simp
        | succ j ih => intro acc; rw [List.replicate_succ, List.foldl_cons, ih, List.replicate_succ]; apply Array.toList_inj.mp; simp
      rw [show ([v] : List Value).toArray = #[v] from rfl]
      simp only [show (#[v] : Array Value).isEmpty = false from rfl, Bool.false_eq_true, if_false]
      rw [e]; simp
    · have gen : ∀ j : Nat, Rds F (List.replicate j p) (List.replicate j v) := by
        intro j; induction j with
        | zero => exact .nil
        | succ j ih => exact .cons rv ih
      exact gen _
theorem Ev.mulS {a b : Expr} {x : List Nat} {n : Int} (ha : Ev cx σ a (vStr x) σ₁) (hb : Ev cx σ₁ b (vInt n) σ₂) (hok : MulOk (L2S x) n) : Ev cx σ (.BinOp a .Mult b pos) (vStr (S2 (Txt.mul (L2S x) n))) σ₂ :=
  .bin ha hb fun F s v u ok ⟨t, e⟩ ⟨t', e'⟩ => by
    subst e; subst e'
    refine fun Q E kk => SB.mul hok fun t' k => kk (.str (Txt.mul (L2S x) n) t') F _ (.toks ok.inh) ?_
    exact vStr_of
end Mine
namespace Mine
open PySem PySem.W PySem.Calls PyProof.Rows Builtin Builtin.Str Builtin.Int
variable {cx : Cx} {σ σ₁ σ₂ σ₃ : St} {pos : Pos} {P P' : Out → Prop}
/-- statements one behind the other -/
noncomputable def Then (cx : Cx) (rest : List Stmt) (P : Out → Prop) : Out → Prop
  | .nx σ' => Exs cx σ' rest P
  | o => P o
theorem Exs.nil (h : P (.nx σ)) : Exs cx σ [] P := fun F s ok Q E k => wpAny_execs_nil (k .next F s (.nx σ) (.refl F) ok h)
theorem Exs.cons {st : Stmt} {rest : List Stmt} (h : Ex cx σ st (Then cx rest P)) : Exs cx σ (st :: rest) P := fun F s ok Q E k =>
  wpAny_execs_cons (h F s ok _ E fun f F' s' o sb oo po => by
    cases f with
    | next => cases o with
      | nx σ' => exact po F' s' oo Q E fun f F2 s2 o2 sb2 => k f F2 s2 o2 (sb.trans sb2)
      | _ => exact oo.elim
    | brk => cases o with
      | bk σ' => exact k .brk F' s' (.bk σ') sb oo po
      | _ => exact oo.elim
    | cont => cases o with
      | ct σ' => exact k .cont F' s' (.ct σ') sb oo po
      | _ => exact oo.elim
    | ret v => cases o with
      | rt p R => exact k (.ret v) F' s' (.rt p R) sb oo po
      | _ => exact oo.elim)
theorem Exs.mono {ss : List Stmt} (h : Exs cx σ ss P) (hp : ∀ o, P o → P' o) : Exs cx σ ss P' := fun F s ok Q E k => h F s ok Q E fun f F' s' o sb oo po => k f F' s' o sb oo (hp o po)
theorem Ex.mono {st : Stmt} (h : Ex cx σ st P) (hp : ∀ o, P o → P' o) : Ex cx σ st P' := fun F s ok Q E k => h F s ok Q E fun f F' s' o sb oo po => k f F' s' o sb oo (hp o po)
/-- a state forgotten in part -/
structure Wk (σ σ' : St) : Prop where
  vars : ∀ x p, (x, p) ∈ σ'.vars → (x, p) ∈ σ.vars
  nd : (σ'.vars.map (·.1)).Nodup
  res : σ'.res.Sublist σ.res
theorem Wk.refl (h : (σ.vars.map (·.1)).Nodup) : Wk σ σ := ⟨fun _ _ h => h, h, .refl _⟩
theorem Sub.has {R R' : Res} (h : R'.Sublist R) {a : Addr} (x : Res.has R' a) : Res.has R a := (h.map (·.1)).subset x
theorem ResOK.sub {F : FH} {h : Heap} {R R' : Res} (x : ResOK F h R) (s : R'.Sublist R) : ResOK F h R' := ⟨fun a c hm => x.ok a c (s.subset hm), fun a c hm => x.off a c (s.subset hm), (s.map (·.1)).nodup x.nodup⟩
theorem StOK.wk {F s} (ok : StOK cx F s σ) (h : Wk σ σ₁) : StOK cx F s σ₁ :=
  { ok with vars := fun x p hm => ok.vars x p (h.vars x p hm), nd := h.nd, res := ok.res.sub h.res, resW := fun a q => ok.resW a (Sub.has h.res q), locR := fun q => ok.locR (Sub.has h.res q), cells := fun y c hm => ⟨(ok.cells y c hm).1, (ok.cells y c hm).2.1, fun q => (ok.cells y c hm).2.2 (Sub.has h.res q)⟩, priv := fun a o hm => let ⟨p1, p2, p3, p4, p5⟩ := ok.priv a o hm; ⟨p1, p2, fun q => p3 (Sub.has h.res q), p4, p5⟩ }
theorem Exs.wk {ss : List Stmt} (w : Wk σ σ₁) (h : Exs cx σ₁ ss P) : Exs cx σ ss P := fun F s ok Q E k => h F s (ok.wk w) Q E k
theorem Exs.nilW (w : Wk σ σ₁) (h : P (.nx σ₁)) : Exs cx σ [] P := .wk w (.nil h)
theorem Exs.pass {rest : List Stmt} (h : Exs cx σ rest P) : Exs cx σ (.Pass pos :: rest) P := .cons fun F s ok Q E k => wpAny_Pass (k .next F s (.nx σ) (.refl F) ok h)
theorem Exs.brk {rest : List Stmt} (h : P (.bk σ)) : Exs cx σ (.Break pos :: rest) P := .cons fun F s ok Q E k => wpAny_Break (k .brk F s (.bk σ) (.refl F) ok h)
theorem Exs.cont {rest : List Stmt} (h : P (.ct σ)) : Exs cx σ (.Continue pos :: rest) P := .cons fun F s ok Q E k => wpAny_Continue (k .cont F s (.ct σ) (.refl F) ok h)
theorem StOK.ret {F s} (ok : StOK cx F s σ) {p : VP} {v : Value} (r : p.rd F v) : OutOK cx F s (.ret v) (.rt p σ.res) := ⟨ok.base, r, ok.res, ok.resW⟩
theorem Exs.ret {e : Expr} {p : VP} {rest : List Stmt} (he : Ev cx σ e p σ₁) (h : P (.rt p σ₁.res)) : Exs cx σ (.Return (some e) pos :: rest) P := .cons fun F s ok Q E k =>
  wpAny_Return_some (he.run F s ok _ _ fun v F' s' st ok' r => k (.ret v) F' s' (.rt p σ₁.res) st.sub (ok'.ret r) h)
theorem Exs.iff {t : Expr} {b o rest : List Stmt} {c : Bool} (ht : Tst cx σ t c σ₁) (hb : c = true → Exs cx σ₁ b (Then cx rest P)) (ho : c = false → Exs cx σ₁ o (Then cx rest P)) :
    Exs cx σ (.If t b o pos :: rest) P := .cons fun F s ok Q E k => wpAny_If (ht.run F s ok _ _ fun F' s' st ok' => by
    cases c with
    | true => exact hb rfl F' s' ok' Q E fun f F2 s2 o2 sb2 => k f F2 s2 o2 (st.sub.trans sb2)
    | false => exact ho rfl F' s' ok' Q E fun f F2 s2 o2 sb2 => k f F2 s2 o2 (st.sub.trans sb2))
/-- a name stored -/
theorem StOK.put {F s h' tk} {x : PySem.Str} {p : VP} {v : Value} {vars' : List (PySem.Str × VP)} (ok : StOK cx F s σ)
    (hb : ∀ b o, F b = some o → h'.get? b = some o) (hk : ∀ b o, b ≠ cx.env.locals → (∀ y, (y, b) ∉ cx.env.cells) → s.heap.get? b = some o → h'.get? b = some o)
    (hl : ∀ b o, s.heap.get? b = some o → ∃ o', h'.get? b = some o') (hns : ∃ m, h'.Ns cx.env.locals m) (hcl : ∀ y c, (y, c) ∈ cx.env.cells → ∃ v, h'.IsCell c v)
    (hlow : ∀ b o, cx.s0.heap.get? b = some o → ¬ cx.W b → s.heap.get? b = some o → h'.get? b = some o)
    (hx : VarAt cx.env h' x v) (hr : p.rd F v) (hy : ∀ y u, y ≠ x → VarAt cx.env s.heap y u → VarAt cx.env h' y u)
    (hv : ∀ y q, (y, q) ∈ vars' → (y = x ∧ q = p) ∨ (y ≠ x ∧ (y, q) ∈ σ.vars)) (hnd : (vars'.map (·.1)).Nodup) :
    StOK cx F { s with heap := h', toks := tk } { vars := vars', res := σ.res } where
  base := ⟨ok.base.sub, hb, ok.base.fresh, fun a o w e => hlow a o e w (ok.base.keep a o w e), fun a o e => let ⟨o', e'⟩ := ok.base.live a o e; hl a o' e', ok.base.gens, ok.base.os⟩
  gF := ok.gF
  hh := ok.hh
  kind := ok.kind
  glob := ok.glob
  bltn := ok.bltn
  ns := hns
  newL := ok.newL
  locF := ok.locF
  locR := ok.locR
  cells := fun y c hm => ⟨hcl y c hm, (ok.cells y c hm).2⟩
  apart := ok.apart
  newC := ok.newC
  vars := fun y q hm => by
    rcases hv y q hm with ⟨rfl, rfl⟩ | ⟨hne, hm'⟩
    · exact ⟨v, hx, hr⟩
    · obtain ⟨u, a, r⟩ := ok.vars y q hm'
      exact ⟨u, hy y u hne a, r⟩
  res := ⟨fun a c hm => (ok.res.ok a c hm).at fun o e => hk a o (fun q => ok.locR (q ▸ Res.has_of hm)) (fun y q => (ok.cells y a q).2.2 (Res.has_of hm)) e, ok.res.off, ok.res.nodup⟩
  resW := ok.resW
  locW := ok.locW
  cellW := ok.cellW
  nd := hnd
  priv := fun a o hm => let ⟨p1, p2, p3, p4, p5⟩ := ok.priv a o hm; ⟨hk a o p4 p5 p1, p2, p3, p4, p5⟩
/-- where a name's value goes -/
inductive Home (env : Env) (x : PySem.Str) : Prop
  | loc (h : env.kindOf x = some .local)
  | cell (h : env.kindOf x = some .cell) (c : Addr) (hc : env.cells.lookup x = some c)
theorem store_at {F s} {x : PySem.Str} {p : VP} {v : Value} {vars' : List (PySem.Str × VP)} (ok : StOK cx F s σ) (hm : Home cx.env x) (hown : cx.env.kindOf x = some .cell → cx.own = true) (hr : p.rd F v)
    (hv : ∀ y q, (y, q) ∈ vars' → (y = x ∧ q = p) ∨ (y ≠ x ∧ (y, q) ∈ σ.vars)) (hnd : (vars'.map (·.1)).Nodup) {Q : Unit → Shared → Prop} {E : Value → Shared → Prop}
    (k : ∀ s', StOK cx F s' { vars := vars', res := σ.res } → Q () s') : wpAny (model cx.prog cx.w) cx.A (storeName cx.env x v) Q E s := by
  obtain ⟨m, hn⟩ := ok.ns
  have hLs : ∃ o, s.heap.get? cx.env.locals = some o := let ⟨o, _, _, e, _⟩ := hn; ⟨o, e⟩
  have hLF : ∀ b o, F b = some o → b ≠ cx.env.locals := fun b o e q => by rw [q, ok.locF] at e; cases e
  have hCF : ∀ y c, (y, c) ∈ cx.env.cells → ∀ b o, F b = some o → b ≠ c := fun y c hc b o e q => by rw [q, (ok.cells y c hc).2.1] at e; cases e
  have hLC : ∀ y c, (y, c) ∈ cx.env.cells → c ≠ cx.env.locals := fun y c hc q => by
    obtain ⟨⟨_, o, e, d⟩, _⟩ := ok.cells y c hc
    obtain ⟨o', es, ep, e', d', _⟩ := hn
    rw [q, e'] at e; cases e; rw [d'] at d; cases d
  cases hm with
  | loc hl =>
    refine wpAny_storeName_local hl hn (fun h' hn' hs => k _ (ok.put (tk := s.toks + 1) (p := p) (v := v) (fun b o e => (hs.2 b (hLF b o e)).trans (ok.inh b o e)) (fun b o h1 _ e => (hs.2 b h1).trans e) (fun b o e => ?_) ⟨_, hn'⟩ ?_ ?_ ?_ hr ?_ hv hnd)) (by rw [ok.kind]; rfl)
    · by_cases q : b = cx.env.locals
      · obtain ⟨o', _, _, e', _⟩ := hn'; exact ⟨o', q ▸ e'⟩
      · exact ⟨o, (hs.2 b q).trans e⟩
    · intro y c hc
      obtain ⟨⟨u, o, e, d⟩, _⟩ := ok.cells y c hc
      exact ⟨u, o, (hs.2 c (hLC y c hc)).trans e, d⟩
    · intro b o e0 _ e
      exact (hs.2 b fun q => by rw [q, ok.newL] at e0; cases e0).trans e
    · exact .inl ⟨hl, _, hn', by simp⟩
    · intro y u hne a
      rcases a with ⟨k', m', n', e'⟩ | ⟨k', c, lk, o, e, d⟩
      · have : m' y = m y := by
          obtain ⟨o1, es1, ep1, g1, d1, _, f1⟩ := n'
          obtain ⟨o2, es2, ep2, g2, d2, _, f2⟩ := hn
          rw [g1] at g2; cases g2; rw [d1] at d2; cases d2
          rw [← f1, ← f2]
        exact .inl ⟨k', _, hn', by rw [if_neg hne, ← this]; exact e'⟩
      · exact .inr ⟨k', c, lk, o, (hs.2 c (hLC y c (mem_of_lookup lk))).trans e, d⟩
  | cell hl c hc =>
    have hmem := mem_of_lookup hc
    obtain ⟨⟨v0, hv0⟩, hF, hR⟩ := ok.cells x c hmem
    refine wpAny_storeName_cell ok.kind hl hc hv0 fun h' hi hs => k { s with heap := h' } (ok.put (tk := s.toks) (p := p) (v := v) (fun b o e => (hs.2 b (hCF x c hmem b o e)).trans (ok.inh b o e)) (fun b o _ h2 e => (hs.2 b fun q => h2 x (q ▸ hmem)).trans e) (fun b o e => ?_) ⟨m, hn.sameBut hs (Ne.symm (hLC x c hmem))⟩ ?_ ?_ ?_ hr ?_ hv hnd)
    · by_cases q : b = c
      · obtain ⟨o', e', _⟩ := hi; exact ⟨o', q ▸ e'⟩
      · exact ⟨o, (hs.2 b q).trans e⟩
    · intro y c' hc'
      by_cases q : c' = c
      · exact ⟨_, q ▸ hi⟩
      · obtain ⟨⟨u, o, e, d⟩, _⟩ := ok.cells y c' hc'
        exact ⟨u, o, (hs.2 c' q).trans e, d⟩
    · intro b o e0 _ e
      exact (hs.2 b fun q => by rw [q, ok.newC (hown hl) x c hmem] at e0; cases e0).trans e
    · exact .inr ⟨.inl hl, c, hc, hi⟩
    · intro y u hne a
      rcases a with ⟨k', m', n', e'⟩ | ⟨k', c', lk, o, e, d⟩
      · exact .inl ⟨k', m', n'.sameBut hs (Ne.symm (hLC x c hmem)), e'⟩
      · refine .inr ⟨k', c', lk, o, (hs.2 c' fun q => hne ?_).trans e, d⟩
        exact name_of_addr ok.apart (mem_of_lookup lk) (q ▸ hmem)
/-- how the list of names turns -/
inductive Rep (x : PySem.Str) (p : VP) : List (PySem.Str × VP) → List (PySem.Str × VP) → Prop
  | here {q l} : Rep x p ((x, q) :: l) ((x, p) :: l)
  | there {y q l l'} : Rep x p l l' → Rep x p ((y, q) :: l) ((y, q) :: l')
theorem Rep.names {x p} : ∀ {l l'}, Rep x p l l' → l'.map (·.1) = l.map (·.1)
  | _, _, .here => rfl
  | _, _, .there h => by simp [h.names]
theorem Rep.mem {x p} : ∀ {l l'}, Rep x p l l' → x ∈ l.map (·.1)
  | _, _, .here => by simp
  | _, _, .there h => List.mem_cons_of_mem _ h.mem
theorem Rep.set {x p} : ∀ {l l'}, Rep x p l l' → (l.map (·.1)).Nodup → ∀ y q, (y, q) ∈ l' → (y = x ∧ q = p) ∨ (y ≠ x ∧ (y, q) ∈ l)
  | _, _, .here (l := l), hnd, y, q, hm => by
    rcases List.mem_cons.mp hm with e | hm2
    · cases e; exact .inl ⟨rfl, rfl⟩
    · refine .inr ⟨fun e => ?_, List.mem_cons_of_mem _ hm2⟩
      subst e
      have hm3 : y ∈ l.map (·.1) := List.mem_map.mpr ⟨(y, q), hm2, rfl⟩
      exact (List.nodup_cons.mp hnd).1 hm3
  | _, _, .there (y := z) h, hnd, y, q, hm => by
    rcases List.mem_cons.mp hm with e | hm
    · cases e
      refine .inr ⟨fun e => ?_, List.mem_cons_self⟩
      subst e
      exact (List.nodup_cons.mp hnd).1 h.mem
    · exact (h.set (List.nodup_cons.mp hnd).2 y q hm).imp id fun ⟨a, b⟩ => ⟨a, List.mem_cons_of_mem _ b⟩
/-- a store into a name, old or new -/
structure Put (cx : Cx) (σ : St) (x : PySem.Str) (p : VP) (vars' : List (PySem.Str × VP)) : Prop where
  home : Home cx.env x
  own : cx.env.kindOf x = some .cell → cx.own = true
  set : (σ.vars.map (·.1)).Nodup → (∀ y q, (y, q) ∈ vars' → (y = x ∧ q = p) ∨ (y ≠ x ∧ (y, q) ∈ σ.vars)) ∧ (vars'.map (·.1)).Nodup
theorem Put.old {x : PySem.Str} {p : VP} {l : List (PySem.Str × VP)} (hh : Home cx.env x) (ho : cx.env.kindOf x = some .cell → cx.own = true) (r : Rep x p σ.vars l) : Put cx σ x p l :=
  ⟨hh, ho, fun hnd => ⟨r.set hnd, r.names ▸ hnd⟩⟩
theorem Put.new {x : PySem.Str} {p : VP} (hh : Home cx.env x) (ho : cx.env.kindOf x = some .cell → cx.own = true) (hn : (σ.vars.map (·.1)).all (fun y => !(y == x)) = true) : Put cx σ x p ((x, p) :: σ.vars) := by
  have hne : x ∉ σ.vars.map (·.1) := fun hm => by
    have := List.all_eq_true.mp hn x hm
    simp at this
  refine ⟨hh, ho, fun hnd => ⟨fun y q hm => ?_, List.nodup_cons.mpr ⟨hne, hnd⟩⟩⟩
  rcases List.mem_cons.mp hm with e | hm
  · cases e; exact .inl ⟨rfl, rfl⟩
  · exact .inr ⟨fun e => hne (e ▸ List.mem_map_of_mem (f := fun z : PySem.Str × VP => z.1) hm), hm⟩
theorem Put.run {F s} {x : PySem.Str} {p : VP} {v : Value} {l : List (PySem.Str × VP)} (h : Put cx σ x p l) (ok : StOK cx F s σ) (hr : p.rd F v) {Q : Unit → Shared → Prop} {E : Value → Shared → Prop}
    (k : ∀ s', StOK cx F s' { vars := l, res := σ.res } → Q () s') : wpAny (model cx.prog cx.w) cx.A (storeName cx.env x v) Q E s :=
  store_at ok h.home h.own hr (h.set ok.nd).1 (h.set ok.nd).2 k
theorem Home.local (env : Env) (x : PySem.Str) (h : env.kindOf x = some .local) : Home env x := .loc h
/-- a target -/
structure As (cx : Cx) (σ : St) (t : Expr) (p : VP) (σ' : St) : Prop where
  run : ∀ F s v, StOK cx F s σ → p.rd F v → ∀ (Q : Unit → Shared → Prop) (E : Value → Shared → Prop), (∀ s', StOK cx F s' σ' → Q () s') → wpAny (model cx.prog cx.w) cx.A (assign t cx.env v) Q E s
theorem As.name {x : PySem.Str} {p : VP} {l : List (PySem.Str × VP)} (h : Put cx σ x p l) : As cx σ (.Name x pos) p { vars := l, res := σ.res } :=
  ⟨fun F s v ok r Q E k => wpAny_assign_Name (h.run ok r k)⟩
structure AsAll (cx : Cx) (σ : St) (ts : List Expr) (ps : List VP) (σ' : St) : Prop where
  len : (assignEach ts cx.env).length = ps.length
  star : (assignEach ts cx.env).findIdx? (·.1) = none
  run : ∀ F s vs, StOK cx F s σ → Rds F ps vs → ∀ (Q : Unit → Shared → Prop) (E : Value → Shared → Prop), (∀ s', StOK cx F s' σ' → Q () s') → wpAny (model cx.prog cx.w) cx.A (assignInOrder ((assignEach ts cx.env).map (·.2)) vs) Q E s
theorem AsAll.nil : AsAll cx σ [] [] σ := ⟨rfl, rfl, fun F s vs ok r Q E k => by cases r; exact wpAny_pure (k s ok)⟩
theorem AsAll.cons {t : Expr} {ts : List Expr} {p : VP} {ps : List VP} (h : As cx σ t p σ₁) (hr : AsAll cx σ₁ ts ps σ₂)
    (he : assignEach (t :: ts) cx.env = (false, assign t cx.env) :: assignEach ts cx.env := by with_unfolding_all rfl) : AsAll cx σ (t :: ts) (p :: ps) σ₂ where
  len := by rw [he]; simp [hr.len]
  star := by rw [he, List.findIdx?_cons]; simp [hr.star]
  run := fun F s vs ok r Q E k => by
    rw [he]
    cases r with
    | cons a b => exact assignInOrder_cons (h.run F s _ ok a _ _ fun s' ok' => hr.run F s' _ ok' b Q E k)
theorem StOK.keep {F s h' tk} (ok : StOK cx F s σ) (hk : ∀ b o, s.heap.get? b = some o → h'.get? b = some o) : StOK cx F { s with heap := h', toks := tk } σ :=
  ok.pure (.heap ok.inh hk)
theorem As.tup {ts : List Expr} {k : Nat} {ps : List VP} (h : AsAll cx σ ts ps σ₁) : As cx σ (.Tuple ts k pos) (vTup ps) σ₁ :=
  ⟨fun F s v ok ⟨a, o, vs, e, f, ⟨n, q⟩, r⟩ Q E k => by
    subst e; subst q
    have ht : s.heap.IsTuple a vs.toArray := ⟨_, ok.inh _ _ f, rfl, n, rfl⟩
    refine wpAny_assign_Tuple ok.hh ht (by rw [h.len, List.size_toArray, r.length]) h.star fun h' hx => ?_
    exact h.run F _ vs (ok.keep (tk := s.toks) fun b ob e => hx b ob (fun q => by rw [q, get_size] at e; cases e) e) r Q E k⟩
theorem As.tupL {ts : List Expr} {k : Nat} {ps : List VP} (h : AsAll cx σ ts ps σ₁) : As cx σ (.Tuple ts k pos) (vListW ps) σ₁ :=
  ⟨fun F s v ok ⟨a, o, vs, n, e, f, c, d, r⟩ Q E k => by
    subst e
    have hl : s.heap.IsList a vs.toArray := ⟨_, ok.inh _ _ f, c, n, d⟩
    show wpAny _ _ (do standAt pos; unpack (.ref a) (assignEach ts cx.env)) Q E s
    refine wpAny_bind (wpAny_standAt ?_)
    unfold unpack
    rw [h.star, show (assignEach ts cx.env).length = vs.toArray.size from by rw [h.len, List.size_toArray, r.length]]
    refine wpAny_bind (wpAny_holding (kun_itemsOf ok.hh hl fun h' hx => ?_))
    exact h.run F _ vs (ok.keep (tk := s.toks) fun b ob e => hx b ob (fun q => by rw [q, get_size] at e; cases e) e) r Q E k⟩
/-- an assignment to one target -/
theorem Exs.assign {t e : Expr} {p : VP} {rest : List Stmt} (he : Ev cx σ e p σ₁) (ht : As cx σ₁ t p σ₂) (h : Exs cx σ₂ rest P)
    (hs : swapsWithSole [t] e pos.line cx.env = pure false := by with_unfolding_all rfl) (hw : swappedStores [t] e cx.env = pure none := by with_unfolding_all rfl)
    (ha : (assignEach [t] cx.env).map (·.2) = [PySem.assign t cx.env] := by with_unfolding_all rfl) : Exs cx σ (.Assign [t] e pos :: rest) P := .cons fun F s ok Q E k =>
  wpAny_Assign_stores (he.run F s ok _ _ fun v F₁ s₁ st₁ ok₁ r₁ => by
    rw [ha]
    exact ht.run F₁ s₁ v ok₁ r₁ _ _ fun s' ok' => k .next F₁ s' (.nx σ₂) st₁.sub ok' h) hs hw
/-- a new list for a name: a cell of its own -/
theorem StOK.own {F s h' tk a o vs ps} (ok : StOK cx F s σ) (hk : ∀ b ob, s.heap.get? b = some ob → h'.get? b = some ob) (hn : s.heap.get? a = none) (ha : h'.get? a = some o) (hl : LsObj vs o) (hr : Rds F ps vs) :
    StOK cx F { s with heap := h', toks := tk } { vars := σ.vars, res := (a, .lst ps) :: σ.res } := by
  have ok' : StOK cx F { s with heap := h', toks := tk } σ := ok.keep hk
  have hnot : ∀ b, σ.res.has b → b ≠ a := fun b hb q => by
    obtain ⟨⟨b', c⟩, hm, rfl⟩ := List.mem_map.mp hb
    obtain ⟨ob, e⟩ := (ok.res.ok b' c hm).ex
    have q' : b' = a := q
    rw [q', hn] at e; cases e
  have hF : F a = none := by
    cases q : F a with
    | none => rfl
    | some ob => have := ok.inh _ _ q; rw [hn] at this; cases this
  have hL : cx.env.locals ≠ a := fun q => by obtain ⟨m, ob, _, _, e, _⟩ := ok.ns; rw [q, hn] at e; cases e
  have hC : ∀ y c, (y, c) ∈ cx.env.cells → c ≠ a := fun y c hm q => by obtain ⟨⟨v, ob, e, d⟩, _⟩ := ok.cells y c hm; rw [q, hn] at e; cases e
  have h0 : cx.s0.heap.get? a = none := by
    cases q : cx.s0.heap.get? a with
    | none => rfl
    | some ob => obtain ⟨o', e⟩ := ok.base.live a ob q; rw [hn] at e; cases e
  have has : ∀ b, Res.has ((a, Cell.lst ps) :: σ.res) b → b = a ∨ σ.res.has b := fun b hb => by
    unfold Res.has at hb; rw [List.map_cons] at hb; exact List.mem_cons.mp hb
  refine { ok' with locR := fun q => ?_, cells := fun y c hm => ⟨(ok'.cells y c hm).1, (ok'.cells y c hm).2.1, fun q => ?_⟩, res := ⟨?_, ?_, ?_⟩, resW := fun b hb => ?_, priv := fun b ob hm => ?_ }
  · rcases has _ q with h | h
    · exact hL h
    · exact ok.locR h
  · rcases has _ q with h | h
    · exact hC y c hm h
    · exact (ok.cells y c hm).2.2 h
  · intro b c hm
    rcases List.mem_cons.mp hm with e | hm
    · cases e; exact ⟨o, vs, ha, hl, hr⟩
    · exact ok'.res.ok b c hm
  · intro b c hm
    rcases List.mem_cons.mp hm with e | hm
    · cases e; exact hF
    · exact ok.res.off b c hm
  · exact List.nodup_cons.mpr ⟨fun hm => hnot a hm rfl, ok.res.nodup⟩
  · rcases has _ hb with h | h
    · exact .inr (h ▸ h0)
    · exact ok.resW b h
  · obtain ⟨p1, p2, p3, p4, p5⟩ := ok'.priv b ob hm
    refine ⟨p1, p2, fun q => ?_, p4, p5⟩
    rcases has _ q with h | h
    · have q1 := (ok.priv b ob hm).1
      rw [h, hn] at q1; cases q1
    · exact p3 h
theorem Exs.assignOwn {x : PySem.Str} {np : Pos} {e : Expr} {ps : List VP} {rest : List Stmt} (he : EvN cx σ e ps σ₁)
    (h : ∀ a : Addr, ∃ l, Put cx { vars := σ₁.vars, res := (a, .lst ps) :: σ₁.res } x (vVal (.ref a)) l ∧ Exs cx { vars := l, res := (a, .lst ps) :: σ₁.res } rest P)
    (hs : swapsWithSole [.Name x np] e pos.line cx.env = pure false := by with_unfolding_all rfl) (hw : swappedStores [.Name x np] e cx.env = pure none := by with_unfolding_all rfl)
    (ha : (assignEach [.Name x np] cx.env).map (·.2) = [PySem.assign (.Name x np) cx.env] := by with_unfolding_all rfl) : Exs cx σ (.Assign [.Name x np] e pos :: rest) P := .cons fun F s ok Q E k =>
  wpAny_Assign_stores (he.run F s ok _ _ fun F₁ s₁ st₁ ok₁ a o vs h' tk hk hn hg hl hr => by
    rw [ha]
    obtain ⟨l, hp, hx⟩ := h a
    refine wpAny_assign_Name (hp.run (ok₁.own hk hn hg hl hr) rfl fun s' ok' => k .next F₁ s' (.nx _) st₁.sub ok' hx)) hs hw
end Mine
namespace Mine
open PySem PySem.W PySem.Calls PyProof.Rows Builtin Builtin.Str Builtin.Int
variable {cx : Cx} {σ σ₁ σ₂ σ₃ : St} {pos : Pos} {P P' : Out → Prop}
/-- all but ms stands -/
structure Off (ms : List Addr) (F : FH) (s : Shared) (F' : FH) (s' : Shared) : Prop where
  sub : Sub F F'
  inh : Inh F' s'.heap
  fresh : ∀ a o, s.heap.get? a = some o → F a = none → F' a = none
  keep : ∀ a o, a ∉ ms → s.heap.get? a = some o → s'.heap.get? a = some o
  gens : s'.gens = s.gens
  os : s'.os = s.os
theorem Off.heap {ms : List Addr} {F : FH} {s : Shared} (hi : Inh F s.heap) (hF : ∀ m ∈ ms, F m = none) {h' : Heap} {tk : Nat} (hk : ∀ b o, b ∉ ms → s.heap.get? b = some o → h'.get? b = some o) :
    Off ms F s F { s with heap := h', toks := tk } :=
  ⟨Sub.refl F, fun a o e => hk a o (fun q => by rw [hF a q] at e; cases e) (hi a o e), fun _ _ _ n => n, hk, rfl, rfl⟩
theorem Off.of_step {ms : List Addr} {F F' : FH} {s s' : Shared} (x : Step (· ∈ ms) F s F' s') : Off ms F s F' s' := ⟨x.sub, x.inh, x.fresh, x.keep, x.gens, x.os⟩
/-- an iterator: its own memory ms, the items that it gives -/
structure Wlk (cx : Cx) (I : Addr) (target : Expr) (ms : List Addr) (ps : List VP) (R0 : Res) (J : Nat → FH → Heap → Prop) : Prop where
  frame : ∀ i F h F' h', J i F h → Sub F F' → Inh F' h' → (∀ m ∈ ms, F' m = none) → (∀ a c, (a, c) ∈ R0 → CellOK F' h' a c) → (∀ m ∈ ms, ∀ o, h.get? m = some o → h'.get? m = some o) → J i F' h'
  at_ : ∀ i F h, J i F h → ∀ m ∈ ms, ∃ o, h.get? m = some o
  item : ∀ i F s p (N : Shared → Prop) (Q : Value → Shared → Prop) (E : Value → Shared → Prop), ps[i]? = some p → Inh F s.heap → J i F s.heap → (∀ m ∈ ms, F m = none) →
    (∀ v F' s', p.rd F' v → J (i + 1) F' s'.heap → Off ms F s F' s' → (∀ m ∈ ms, F' m = none) → Q v s') →
    wpAny (model cx.prog cx.w) cx.A (pyNext (.ref I)) (fun r s₁ => match r with | none => N s₁ | some v => wpAny (model cx.prog cx.w) cx.A (letOwnedTupleGo target (.ref I) v) (fun _ s₂ => Q v s₂) E s₁) E s
  done : ∀ F s (Q : Option Value → Shared → Prop) (E : Value → Shared → Prop), J ps.length F s.heap → Inh F s.heap → (∀ m ∈ ms, F m = none) → (∀ s', Off ms F s F s' → Q none s') → wpAny (model cx.prog cx.w) cx.A (pyNext (.ref I)) Q E s
  self : ∀ i F s (Q : Value → Shared → Prop) (E : Value → Shared → Prop), J i F s.heap → Q (.ref I) s → wpAny (model cx.prog cx.w) cx.A (pyIter (.ref I)) Q E s
structure EvIter (cx : Cx) (σ : St) (e target : Expr) (ps : List VP) (R0 : Res) (σ' : St) : Prop where
  like : σ'.res.map (·.1) = σ.res.map (·.1)
  vars : σ'.vars = σ.vars
  sub : ∀ x ∈ R0, x ∈ σ'.res
  run : ∀ F s, StOK cx F s σ → ∀ (Q : Value → Shared → Prop) (E : Value → Shared → Prop),
    (∀ F₁ s₁, Step σ.res.has F s F₁ s₁ → StOK cx F₁ s₁ σ' → ∀ I ms J h' tk, (∀ b o, s₁.heap.get? b = some o → h'.get? b = some o) → (∀ m ∈ ms, s₁.heap.get? m = none) → ms.Nodup →
      Wlk cx I target ms ps R0 J → J 0 F₁ h' → Q (.ref I) { s₁ with heap := h', toks := tk }) →
    wpAny (model cx.prog cx.w) cx.A (PySem.eval e cx.env) (fun x s₁ => wpAny (model cx.prog cx.w) cx.A (pyIter x) Q E s₁) E s
theorem none_of_fresh {F : FH} {h : Heap} {a : Addr} (hi : Inh F h) (hn : h.get? a = none) : F a = none := by
  cases q : F a with
  | none => rfl
  | some o => rw [hi _ _ q] at hn; cases hn
/-- from the library's iterators over things that stand -/
theorem Wlk.of {I : Addr} {target : Expr} {ps : List VP} {fp : List Addr} {n : Nat} {Pv : Nat → Value → Prop} {Sw : Nat → Heap → Prop} (W : Walks cx.prog cx.w cx.A I fp [I] n Pv Sw) (hn : n = ps.length) (F₀ : FH)
    (hat : ∀ i h, Sw i h → ∃ o, h.get? I = some o) (hfp : ∀ b ∈ fp, b = I ∨ ∃ o, F₀ b = some o) (hp : ∀ G i v p, Sub F₀ G → ps[i]? = some p → Pv i v → p.rd G v)
    (hlet : ∀ i (s : Shared) v (Q : Unit → Shared → Prop) (E : Value → Shared → Prop), Sw (i + 1) s.heap → (∃ G p, Sub F₀ G ∧ ps[i]? = some p ∧ p.rd G v) → Q () s → wpAny (model cx.prog cx.w) cx.A (letOwnedTupleGo target (.ref I) v) Q E s) :
    Wlk cx I target [I] ps [] (fun i F h => Sw i h ∧ Sub F₀ F ∧ Inh F h) where
  frame := fun i F h F' h' ⟨a, b, c⟩ hs hi hn _ hm => ⟨W.frame i h h' a fun b' hb o e => by
      rcases hfp b' hb with rfl | ⟨o', e'⟩
      · exact hm _ (by simp) o e
      · have h1 := c _ _ (b _ _ e')
        rw [e] at h1; cases h1
        exact hi _ _ (hs _ _ (b _ _ e')), b.trans hs, hi⟩
  at_ := fun i F h ⟨a, _⟩ m hm => by rw [List.mem_singleton.mp hm]; exact hat i h a
  item := fun i F s p N Q E hi hin ⟨a, b, c⟩ hF k => by
    have hlt : i < n := by rw [hn]; exact (List.getElem?_eq_some_iff.mp hi).1
    refine W.item i s _ E hlt a fun v h' tk hPv hSt hk => ?_
    have hr := hp F i v p b hi hPv
    have st : Off [I] F s F { s with heap := h', toks := tk } := .heap hin hF hk
    exact hlet i _ v _ E hSt ⟨F, p, b, hi, hr⟩ (k v F _ hr ⟨hSt, b, st.inh⟩ st hF)
  done := fun F s Q E ⟨a, b, c⟩ hin hF k => W.done s Q E (hn ▸ a) fun h' tk hk => k _ (.heap hin hF hk)
  self := fun i F s Q E ⟨a, _⟩ q => W.self i s Q E a q
/-- what lets the tuple alone -/
noncomputable def Calm (t : Expr) : Prop := ∀ it v, letOwnedTupleGo t it v = pure ()
theorem calm_name {x : PySem.Str} : Calm (.Name x pos) := fun _ _ => rfl
/-- a list that stands -/
theorem EvIter.list {e target : Expr} {ps : List VP} (h : Ev cx σ e (vListW ps) σ₁)
    (ht : Calm target ∨ ∃ ts k p, target = .Tuple ts k p ∧ ∀ q ∈ ps, ∃ qs, q = vTup qs) : EvIter cx σ e target ps [] σ₁ where
  like := h.like
  vars := h.vars
  sub := fun _ hm => (List.not_mem_nil hm).elim
  run := fun F s ok Q E k => h.run F s ok _ _ fun v F₁ s₁ st₁ ok₁ ⟨a, o, vs, n, e1, f, c, d, r⟩ => by
    subst e1
    have hl : s₁.heap.IsList a vs.toArray := ⟨_, ok₁.inh _ _ f, c, n, d⟩
    refine wpAny_pyIter_list hl ?_
    have hne : a ≠ s₁.heap.objs.size := Nat.ne_of_lt (Heap.lt_size (ok₁.inh _ _ f))
    have W := Walks.list (prog := cx.prog) (w := cx.w) (A := cx.A) ok₁.hh s₁.heap.objs.size a hne vs.toArray
    refine k F₁ s₁ st₁ ok₁ _ [s₁.heap.objs.size] _ _ s₁.toks (fun b ob q => Heap.get?_push_of_some _ q) (fun m hm => by rw [List.mem_singleton.mp hm]; exact get_size _) (by simp)
      (Wlk.of W (by rw [List.size_toArray, r.length]) F₁ (fun i h ⟨⟨o, q, _⟩, _⟩ => ⟨o, q⟩) (fun b hb => ?_) (fun G i v p hs hp hv => ?_) fun i s' v Q' E' ⟨hit, _⟩ hx q => ?_)
      ⟨⟨⟨_, Heap.get?_push_size _ rfl, rfl, rfl⟩, hl.push _⟩, .refl _, fun b ob q => Heap.get?_push_of_some _ (ok₁.inh _ _ q)⟩
    · rcases List.mem_cons.mp hb with rfl | hb
      · exact .inl rfl
      · rw [List.mem_singleton.mp hb]; exact .inr ⟨o, f⟩
    · obtain ⟨u, hu, ru⟩ := r.get hp
      have : vs[i]? = some v := by simpa using hv
      rw [this] at hu; cases hu
      exact p.mono hs ru
    · rcases ht with ht | ⟨ts, kk, p, rfl, hq⟩
      · exact wpAny_of_eq (ht _ _) q
      · obtain ⟨G, p', _, hp', hr'⟩ := hx
        obtain ⟨qs, rfl⟩ := hq p' (List.mem_of_getElem? hp')
        obtain ⟨a', o', vs', rfl, _⟩ := hr'
        exact wpAny_letOwnedTupleGo_listiter hit q
/-- a list of one's own -/
theorem EvIter.own {e target : Expr} {ps : List VP} {a : Addr} (h : Ev cx σ e (vVal (.ref a)) σ₁) (hm : (a, Cell.lst ps) ∈ σ₁.res)
    (ht : Calm target ∨ ∃ ts k p, target = .Tuple ts k p ∧ ∀ q ∈ ps, ∃ qs, q = vTup qs) : EvIter cx σ e target ps [(a, .lst ps)] σ₁ where
  like := h.like
  vars := h.vars
  sub := fun x hx => by rw [List.mem_singleton.mp hx]; exact hm
  run := fun F s ok Q E k => h.run F s ok _ _ fun v F₁ s₁ st₁ ok₁ e1 => by
    cases e1
    obtain ⟨o, vs, g, l, r⟩ := ok₁.res.ok a _ hm
    refine wpAny_pyIter_list (l.isList g) ?_
    have hne : a ≠ s₁.heap.objs.size := Nat.ne_of_lt (Heap.lt_size g)
    generalize hI : s₁.heap.objs.size = I at hne ⊢
    have hIn : s₁.heap.get? I = none := hI ▸ get_size _
    have hI' : (s₁.heap.push { cls := .type "list_iterator", data := .fields #[.ref a, .int 0 0] }).get? I = some { cls := .type "list_iterator", data := .fields #[.ref a, .int 0 0] } := hI ▸ Heap.get?_push_size _ rfl
    refine k F₁ s₁ st₁ ok₁ I [I] (fun i F h => h.IsListIter I a i ∧ CellOK F h a (.lst ps)) _ s₁.toks (fun b ob q => Heap.get?_push_of_some _ q) (fun m hm => by rw [List.mem_singleton.mp hm]; exact hIn) (by simp)
      { frame := fun i F h F' h' ⟨⟨oi, e1, e2, e3⟩, b⟩ hs hi hn hr hm => ⟨⟨oi, hm I (by simp) _ e1, e2, e3⟩, hr a _ (by simp)⟩, at_ := fun i F h ⟨⟨oi, e1, _⟩, _⟩ m hm => by rw [List.mem_singleton.mp hm]; exact ⟨oi, e1⟩, item := ?_, done := ?_, self := ?_ }
      ⟨⟨_, hI', rfl, rfl⟩, (CellOK.at (c := .lst ps) (fun o q => Heap.get?_push_of_some _ q) ⟨o, vs, g, l, r⟩)⟩
    · rintro i F s p N' Q' E' hp hin ⟨hit, o, vs, g, l, r⟩ hF kk
      obtain ⟨u, hu, ru⟩ := r.get hp
      refine wpAny_pyNext_list_item hit (l.isList g) (x := u) (by simpa using hu) fun h' hit' hs => ?_
      have st : Off [I] F s F { s with heap := h' } := .heap (tk := s.toks) hin hF fun b ob hb q => (hs.2 b (by simpa using hb)).trans q
      have fin := kk u F _ ru ⟨hit', o, vs, (hs.2 a hne).trans g, l, r⟩ st hF
      rcases ht with ht | ⟨ts, kx, px, rfl, hq⟩
      · exact wpAny_of_eq (ht _ _) fin
      · obtain ⟨qs, rfl⟩ := hq p (List.mem_of_getElem? hp)
        obtain ⟨a', o', vs', rfl, _⟩ := ru
        exact wpAny_letOwnedTupleGo_listiter hit' fin
    · rintro F s Q' E' ⟨hit, o, vs, g, l, r⟩ hin hF kk
      exact wpAny_pyNext_list_end ok.hh hit (l.isList g) (by simp [r.length]) fun h' hs => kk _ (.heap (tk := s.toks) hin hF fun b ob hb q => hs b ob (by simpa using hb) q)
    · rintro i F s Q' E' ⟨hit, _⟩ q
      exact wpAny_pyIter_listiter hit q
/-- a text's signs -/
theorem EvIter.str {e target : Expr} {x : List Nat} (h : Ev cx σ e (vStr x) σ₁) (ht : Calm target) : EvIter cx σ e target (vStrs (x.map fun c => [c])) [] σ₁ where
  like := h.like
  vars := h.vars
  sub := fun _ hm => (List.not_mem_nil hm).elim
  run := fun F s ok Q E k => h.run F s ok _ _ fun v F₁ s₁ st₁ ok₁ ⟨t, e1⟩ => by
    subst e1
    have hsz : (L2S x).cps.size = (vStrs (x.map fun c => [c])).length := by have := L2S_len x; unfold PySem.Str.length at this; rw [this]; simp [vStrs]
    have sign : ∀ (G : FH) i v p, Sub F₁ G → (vStrs (x.map fun c => [c]))[i]? = some p → SignAt (L2S x) i v → p.rd G v := fun G i v p _ hp hv => by
      unfold vStrs at hp
      rw [List.map_map, List.getElem?_map] at hp
      obtain ⟨c, hc, rfl⟩ := Option.map_eq_some_iff.mp hp
      obtain ⟨c', t', h1, h2⟩ := hv
      have e1 : (L2S x).cps[i]? = some c := by unfold L2S; rw [List.getElem?_toArray]; exact hc
      rw [e1] at h1; cases h1
      exact ⟨t', h2⟩
    cases ha : (L2S x).cps.all (· < 128) with
    | true =>
      refine wpAny_pyIter_ascii ha ?_
      have W := Walks.strAscii (prog := cx.prog) (w := cx.w) (A := cx.A) ok₁.hh s₁.heap.objs.size (L2S x) t
      exact k F₁ s₁ st₁ ok₁ _ [s₁.heap.objs.size] _ _ s₁.toks (fun b ob q => Heap.get?_push_of_some _ q) (fun m hm => by rw [List.mem_singleton.mp hm]; exact get_size _) (by simp)
        (Wlk.of W hsz F₁ (fun i h ⟨o, q, _⟩ => ⟨o, q⟩) (fun b hb => .inl (List.mem_singleton.mp hb)) sign fun i s' v Q' E' _ _ q => wpAny_of_eq (ht _ _) q)
        ⟨⟨_, Heap.get?_push_size _ rfl, rfl, rfl⟩, .refl _, fun b ob q => Heap.get?_push_of_some _ (ok₁.inh _ _ q)⟩
    | false =>
      refine wpAny_pyIter_wide ha ?_
      have W := Walks.strWide (prog := cx.prog) (w := cx.w) (A := cx.A) ok₁.hh s₁.heap.objs.size (L2S x) t
      exact k F₁ s₁ st₁ ok₁ _ [s₁.heap.objs.size] _ _ s₁.toks (fun b ob q => Heap.get?_push_of_some _ q) (fun m hm => by rw [List.mem_singleton.mp hm]; exact get_size _) (by simp)
        (Wlk.of W hsz F₁ (fun i h ⟨o, q, _⟩ => ⟨o, q⟩) (fun b hb => .inl (List.mem_singleton.mp hb)) sign fun i s' v Q' E' _ _ q => wpAny_of_eq (ht _ _) q)
        ⟨⟨_, Heap.get?_push_size _ rfl, rfl, rfl⟩, .refl _, fun b ob q => Heap.get?_push_of_some _ (ok₁.inh _ _ q)⟩
/-- a range -/
theorem EvIter.range {e target : Expr} {a b c : Int} {n : Nat} (h : Ev cx σ e (vRange a b c) σ₁) (ht : Calm target) (hs : Builtin.Range.small a b c = true) (hn : Builtin.Range.rangeSize a b c = n) :
    EvIter cx σ e target ((List.range n).map fun (i : Nat) => vInt (a + (i : Int) * c)) [] σ₁ where
  like := h.like
  vars := h.vars
  sub := fun _ hm => (List.not_mem_nil hm).elim
  run := fun F s ok Q E k => h.run F s ok _ _ fun v F₁ s₁ st₁ ok₁ ⟨r, t, u, w, e1, f⟩ => by
    subst e1
    refine wpAny_pyIter_range (ok₁.inh _ _ f) hs ?_
    have W := Walks.range (prog := cx.prog) (w := cx.w) (A := cx.A) ok₁.hh s₁.heap.objs.size a c n
    refine k F₁ s₁ st₁ ok₁ _ [s₁.heap.objs.size] _ _ s₁.toks (fun b ob q => Heap.get?_push_of_some _ q) (fun m hm => by rw [List.mem_singleton.mp hm]; exact get_size _) (by simp)
      (Wlk.of W (by simp) F₁ (fun i h q => ⟨_, q⟩) (fun b hb => .inl (List.mem_singleton.mp hb)) (fun G i v p _ hp hv => ?_) fun i s' v Q' E' _ _ q => wpAny_of_eq (ht _ _) q)
      ⟨?_, .refl _, fun b ob q => Heap.get?_push_of_some _ (ok₁.inh _ _ q)⟩
    · rw [List.getElem?_map] at hp
      obtain ⟨j, hj, rfl⟩ := Option.map_eq_some_iff.mp hp
      have hij : j = i := by
        have hlt := (List.getElem?_eq_some_iff.mp hj).1
        have hq : (List.range n)[i]? = some i := List.getElem?_range (by simpa using hlt)
        rw [hq] at hj; exact (Option.some.inj hj).symm
      subst hij
      exact hv
    · have e2 : (a + ((0 : Nat) : Int) * c) = a := by simp
      have e3 : ((n : Int) - ((0 : Nat) : Int)) = n := by simp
      show IsRangeIter _ _ (a + ((0 : Nat) : Int) * c) ((n : Int) - ((0 : Nat) : Int)) c
      rw [e2, e3, ← hn]
      exact Heap.get?_push_size _ rfl
/-- all but ms stands: the state too -/
theorem StOK.off {F F' s s'} {ms : List Addr} (x : StOK cx F s σ) (st : Off ms F s F' s') (h1 : cx.env.locals ∉ ms) (h2 : ∀ y c, (y, c) ∈ cx.env.cells → c ∉ ms) (h3 : ∀ a, σ.res.has a → a ∉ ms) (h4 : ∀ a o, (a, o) ∈ cx.priv → a ∉ ms)
    (h5 : ∀ m ∈ ms, cx.s0.heap.get? m = none) : StOK cx F' s' σ := by
  have kl : ∀ o, s.heap.get? cx.env.locals = some o → s'.heap.get? cx.env.locals = some o := fun o e => st.keep _ o h1 e
  have kc : ∀ y c, (y, c) ∈ cx.env.cells → ∀ o, s.heap.get? c = some o → s'.heap.get? c = some o := fun y c hm o e => st.keep _ o (h2 y c hm) e
  have n0 : ∀ a o, cx.s0.heap.get? a = some o → a ∉ ms := fun a o e q => by rw [h5 a q] at e; cases e
  refine { base := ?_, gF := fun b o e => st.sub _ _ (x.gF b o e), hh := x.hh, kind := x.kind, glob := x.glob, bltn := x.bltn, ns := ?_, newL := x.newL, locF := ?_, locR := x.locR, cells := ?_, apart := x.apart, newC := x.newC, vars := ?_, res := ⟨fun a c hm => ?_, fun a c hm => ?_, x.res.nodup⟩, resW := x.resW, locW := x.locW, cellW := x.cellW, nd := x.nd, priv := fun a o hm => ?_ }
  · refine ⟨x.base.sub.trans st.sub, st.inh, fun a o e n => ?_, fun a o w e => st.keep a o (n0 a o e) (x.base.keep a o w e), fun a o e => ?_, st.gens.trans x.base.gens, st.os.trans x.base.os⟩
    · obtain ⟨o', e'⟩ := x.base.live a o e
      exact st.fresh a o' e' (x.base.fresh a o e n)
    · obtain ⟨o', e'⟩ := x.base.live a o e
      exact ⟨o', st.keep a o' (n0 a o e) e'⟩
  · obtain ⟨m, n⟩ := x.ns; exact ⟨m, n.at' kl⟩
  · obtain ⟨m, o, es, ep, e, _⟩ := x.ns
    exact st.fresh _ o e x.locF
  · intro y c hm
    obtain ⟨⟨v, o, e, d⟩, f, r⟩ := x.cells y c hm
    exact ⟨⟨v, o, kc y c hm o e, d⟩, st.fresh _ o e f, r⟩
  · intro y p hm
    obtain ⟨v, a, r⟩ := x.vars y p hm
    exact ⟨v, a.at kl (fun c hc => kc y c hc), p.mono st.sub r⟩
  · exact CellOK.mono st.sub ((x.res.ok a c hm).at fun o e => st.keep a o (h3 a (Res.has_of hm)) e)
  · obtain ⟨o, e⟩ := (x.res.ok a c hm).ex
    exact st.fresh a o e (x.res.off a c hm)
  · obtain ⟨p1, p2, p3, p4, p5⟩ := x.priv a o hm
    exact ⟨st.keep a o (h4 a o hm) p1, st.fresh a o p1 p2, p3, p4, p5⟩
/-- new private memory is apart from all that the state names -/
structure Apart (cx : Cx) (σ : St) (ms : List Addr) : Prop where
  loc : cx.env.locals ∉ ms
  cell : ∀ y c, (y, c) ∈ cx.env.cells → c ∉ ms
  res : ∀ a, σ.res.has a → a ∉ ms
  priv : ∀ a o, (a, o) ∈ cx.priv → a ∉ ms
  s0 : ∀ m ∈ ms, cx.s0.heap.get? m = none
theorem StOK.apartOf {F s} (x : StOK cx F s σ) {ms : List Addr} (hn : ∀ m ∈ ms, s.heap.get? m = none) : Apart cx σ ms where
  loc := fun q => by obtain ⟨m, o, _, _, e, _⟩ := x.ns; rw [hn _ q] at e; cases e
  cell := fun y c hm q => by obtain ⟨⟨v, o, e, _⟩, _⟩ := x.cells y c hm; rw [hn _ q] at e; cases e
  res := fun a ha q => by
    obtain ⟨⟨b, c⟩, hm, rfl⟩ := List.mem_map.mp ha
    obtain ⟨o, e⟩ := (x.res.ok b c hm).ex
    rw [hn _ q] at e; cases e
  priv := fun a o hm q => by have := (x.priv a o hm).1; rw [hn _ q] at this; cases this
  s0 := fun m hm => by
    cases q : cx.s0.heap.get? m with
    | none => rfl
    | some o => obtain ⟨o', e⟩ := x.base.live m o q; rw [hn m hm] at e; cases e
noncomputable def Cx.with_ (cx : Cx) (pv : List (Addr × Obj)) : Cx := { cx with priv := pv ++ cx.priv }
/-- into the turn: the iterator's memory is private -/
theorem StOK.inTurn {F s} (x : StOK cx F s σ) {ms : List Addr} (ap : Apart cx σ ms) (hF : ∀ m ∈ ms, F m = none) {pv : List (Addr × Obj)} (hp : ∀ a o, (a, o) ∈ pv → a ∈ ms ∧ s.heap.get? a = some o) : StOK (cx.with_ pv) F s σ :=
  { base := x.base, gF := x.gF, hh := x.hh, kind := x.kind, glob := x.glob, bltn := x.bltn, ns := x.ns, newL := x.newL, locF := x.locF, locR := x.locR, cells := x.cells, apart := x.apart, newC := x.newC, vars := x.vars, res := x.res, resW := x.resW, locW := x.locW, cellW := x.cellW, nd := x.nd
    priv := fun a o hm => by
      rcases List.mem_append.mp hm with hm | hm
      · obtain ⟨h1, h2⟩ := hp a o hm
        exact ⟨h2, hF a h1, fun q => ap.res a q h1, fun q => ap.loc (q ▸ h1), fun y q => ap.cell y a q h1⟩
      · exact x.priv a o hm }
theorem StOK.outTurn {F s} {pv : List (Addr × Obj)} (x : StOK (cx.with_ pv) F s σ) : StOK cx F s σ :=
  { base := x.base, gF := x.gF, hh := x.hh, kind := x.kind, glob := x.glob, bltn := x.bltn, ns := x.ns, newL := x.newL, locF := x.locF, locR := x.locR, cells := x.cells, apart := x.apart, newC := x.newC, vars := x.vars, res := x.res, resW := x.resW, locW := x.locW, cellW := x.cellW, nd := x.nd
    priv := fun a o hm => x.priv a o (List.mem_append_right _ hm) }
theorem exists_pv {h : Heap} : ∀ {ms : List Addr}, (∀ m ∈ ms, ∃ o, h.get? m = some o) → ∃ pv : List (Addr × Obj), (∀ a o, (a, o) ∈ pv → a ∈ ms ∧ h.get? a = some o) ∧ ∀ m ∈ ms, ∃ o, (m, o) ∈ pv
  | [], _ => ⟨[], fun _ _ h => (List.not_mem_nil h).elim, fun _ h => (List.not_mem_nil h).elim⟩
  | m :: ms, h => by
    obtain ⟨o, e⟩ := h m (by simp)
    obtain ⟨pv, h1, h2⟩ := exists_pv (ms := ms) fun m' hm => h m' (List.mem_cons_of_mem _ hm)
    refine ⟨(m, o) :: pv, fun a o' hm => ?_, fun m' hm => ?_⟩
    · rcases List.mem_cons.mp hm with q | hm
      · cases q; exact ⟨by simp, e⟩
      · obtain ⟨a1, a2⟩ := h1 a o' hm; exact ⟨List.mem_cons_of_mem _ a1, a2⟩
    · rcases List.mem_cons.mp hm with rfl | hm
      · exact ⟨o, by simp⟩
      · obtain ⟨o', q⟩ := h2 m' hm; exact ⟨o', List.mem_cons_of_mem _ q⟩
/-- a turn's ends -/
noncomputable def Turn (cx : Cx) (next : St) (rest : List Stmt) (P : Out → Prop) : Out → Prop
  | .nx σ' => Wk σ' next
  | .ct σ' => Wk σ' next
  | .bk σ' => Exs cx σ' rest P
  | .rt p R => P (.rt p R)
/-- a for over an iterator whose items are told -/
theorem Exs.forIt {target e : Expr} {body rest : List Stmt} {ps : List VP} (hi : EvIter cx σ e target ps [] σ₁) (S : Nat → St) (h0 : Wk σ₁ (S 0))
    (hres : ∀ k, (S k).res.map (·.1) = σ₁.res.map (·.1))
    (body_ : ∀ k p pv, ps[k]? = some p → ∃ σt, As (cx.with_ pv) (S k) target p σt ∧ σt.res.map (·.1) = σ₁.res.map (·.1) ∧ Exs (cx.with_ pv) σt body (Turn cx (S (k + 1)) rest P))
    (after : Exs cx (S ps.length) rest P)
    (hs : ∀ x, foldedSetIterable e cx.env x = pure x := by intro _; with_unfolding_all rfl) : Exs cx σ (.For target e body [] pos :: rest) P := .cons fun F s ok Q E k => by
  refine wpAny_For (hi.run F s ok _ _ fun F₁ s₁ st₁ ok₁ I ms J h' tk hk hms hnd W hJ => ?_) hs
  have hFm : ∀ m ∈ ms, F₁ m = none := fun m hm => none_of_fresh ok₁.inh (hms m hm)
  have ap : ∀ k, Apart cx (S k) ms := fun k => by
    have a := ok₁.apartOf hms
    exact ⟨a.loc, a.cell, fun x hx => a.res x (by rw [← has_like (hres k)]; exact hx), a.priv, a.s0⟩
  have ok0 : StOK cx F₁ { s₁ with heap := h', toks := tk } (S 0) := (ok₁.keep (tk := tk) hk).wk h0
  refine codeAny_forLoop_any (fun n s' => ∃ i F', i ≤ ps.length ∧ n = ps.length + 1 - i ∧ J i F' s'.heap ∧ StOK cx F' s' (S i) ∧ (∀ m ∈ ms, F' m = none) ∧ Sub F F') ?_ (ps.length + 1)
    ⟨0, F₁, Nat.zero_le _, rfl, hJ, ok0, hFm, st₁.sub⟩
  rintro n s' ⟨i, F', hle, rfl, hJ', ok', hF', hsub⟩
  by_cases hlt : i < ps.length
  · obtain ⟨p, hp⟩ : ∃ p, ps[i]? = some p := ⟨_, List.getElem?_eq_getElem hlt⟩
    refine W.item i F' s' p _ _ _ hp ok'.inh hJ' hF' fun v F₂ s₂ hr hJ₂ st₂ hF₂ => ?_
    · have ok₂ : StOK cx F₂ s₂ (S i) := ok'.off st₂ (ap i).loc (ap i).cell (ap i).res (ap i).priv (ap i).s0
      obtain ⟨pv, hpv1, hpv2⟩ := exists_pv (W.at_ _ _ _ hJ₂)
      obtain ⟨σt, ht, htl, hb⟩ := body_ i p pv hp
      refine ht.run F₂ s₂ v (ok₂.inTurn (ap i) hF₂ hpv1) hr _ _ fun s₃ ok₃ => ?_
      refine hb F₂ s₃ ok₃ _ _ fun f F₄ s₄ o sb oo po => ?_
      have back : ∀ σ', StOK (cx.with_ pv) F₄ s₄ σ' → Wk σ' (S (i + 1)) → ∃ m, m < ps.length + 1 - i ∧ ∃ i F', i ≤ ps.length ∧ m = ps.length + 1 - i ∧ J i F' s₄.heap ∧ StOK cx F' s₄ (S i) ∧ (∀ m ∈ ms, F' m = none) ∧ Sub F F' := fun σ' ok₄ w => by
        have pz : ∀ m ∈ ms, ∃ o, s₂.heap.get? m = some o ∧ s₄.heap.get? m = some o ∧ F₄ m = none := fun m hm => by
          obtain ⟨o, ho⟩ := hpv2 m hm
          obtain ⟨q1, q2, _⟩ := ok₄.priv m o (List.mem_append_left _ ho)
          exact ⟨o, (hpv1 m o ho).2, q1, q2⟩
        refine ⟨ps.length + 1 - (i + 1), by first | lia | omega, i + 1, F₄, hlt, rfl, ?_, (ok₄.wk w).outTurn, fun m hm => (pz m hm).choose_spec.2.2, (hsub.trans st₂.sub).trans sb⟩
        refine W.frame (i + 1) F₂ s₂.heap F₄ s₄.heap hJ₂ sb ok₄.inh (fun m hm => (pz m hm).choose_spec.2.2) (fun _ _ h => (List.not_mem_nil h).elim) fun m hm o e => ?_
        obtain ⟨o', e1, e2, _⟩ := pz m hm
        rw [e] at e1; cases e1; exact e2
      cases f with
      | next => cases o with
        | nx σ' => exact back σ' oo po
        | _ => exact oo.elim
      | cont => cases o with
        | ct σ' => exact back σ' oo po
        | _ => exact oo.elim
      | brk => cases o with
        | bk σ' => exact k .next F₄ s₄ (.nx σ') ((hsub.trans st₂.sub).trans sb) (StOK.outTurn oo) po
        | _ => exact oo.elim
      | ret v => cases o with
        | rt p R => exact k (.ret v) F₄ s₄ (.rt p R) ((hsub.trans st₂.sub).trans sb) oo po
        | _ => exact oo.elim
  · have hie : i = ps.length := by first | lia | omega
    subst hie
    refine W.done F' s' _ _ hJ' ok'.inh hF' fun s₂ st₂ => ?_
    exact wpAny_execs_nil (k .next F' s₂ (.nx _) hsub (ok'.off st₂ (ap ps.length).loc (ap ps.length).cell (ap ps.length).res (ap ps.length).priv (ap ps.length).s0) after)
/-- a while by a measure; the states are told by i -/
theorem Exs.whl {ι : Type} {t : Expr} {body rest : List Stmt} (S : ι → St) (m : ι → Nat) (i₀ : ι) (h0 : Wk σ (S i₀))
    (turn : ∀ i, ∃ b, Tst cx (S i) t b (S i) ∧ (b = true → Exs cx (S i) body (fun o => match o with
        | .nx σ' => ∃ j, m j < m i ∧ Wk σ' (S j)
        | .ct σ' => ∃ j, m j < m i ∧ Wk σ' (S j)
        | .bk σ' => Exs cx σ' rest P
        | .rt p R => P (.rt p R))) ∧ (b = false → Exs cx (S i) rest P)) : Exs cx σ (.While t body [] pos :: rest) P := .cons fun F s ok Q E k => by
  refine wpAny_While (codeAny_whileLoop (fun n s' => ∃ i F', n = m i ∧ StOK cx F' s' (S i) ∧ Sub F F') ?_ (m i₀) ⟨i₀, F, rfl, ok.wk h0, .refl F⟩)
  rintro n s' ⟨i, F', rfl, ok', sb⟩
  obtain ⟨b, ht, hb, hn⟩ := turn i
  refine ht.run F' s' ok' _ _ fun F₂ s₂ st₂ ok₂ => ?_
  cases b with
  | false =>
    simp only [Bool.false_eq_true, if_false]
    exact wpAny_execs_nil (k .next F₂ s₂ (.nx (S i)) (sb.trans st₂.sub) ok₂ (hn rfl))
  | true =>
    simp only [if_true]
    refine hb rfl F₂ s₂ ok₂ _ _ fun f F₃ s₃ o sb₃ oo po => ?_
    have sb' := (sb.trans st₂.sub).trans sb₃
    cases f with
    | next => cases o with
      | nx σ' => obtain ⟨j, hj, w⟩ := po; exact ⟨m j, hj, j, F₃, rfl, StOK.wk oo w, sb'⟩
      | _ => exact oo.elim
    | cont => cases o with
      | ct σ' => obtain ⟨j, hj, w⟩ := po; exact ⟨m j, hj, j, F₃, rfl, StOK.wk oo w, sb'⟩
      | _ => exact oo.elim
    | brk => cases o with
      | bk σ' => exact k .next F₃ s₃ (.nx σ') sb' oo po
      | _ => exact oo.elim
    | ret v => cases o with
      | rt p R => exact k (.ret v) F₃ s₃ (.rt p R) sb' oo po
      | _ => exact oo.elim
end Mine
namespace Mine
open PySem PySem.W PySem.Calls PyProof.Rows Builtin Builtin.Str Builtin.Int
variable {cx : Cx} {σ σ₁ σ₂ σ₃ : St} {pos : Pos} {P P' : Out → Prop}
theorem compLoop_go {prog : Program} {w : World} {A : Around} {R : Result → Shared → Prop} {s : Shared} {elt target iter : Expr} {ifs : List Expr} {scope : Scope} {it acc : Value} {env : Env} (I : Nat → Shared → Prop)
    (turn : ∀ n s, I n s → ∀ E, wpAny (model prog w) A (pyNext it) (fun r s₁ => match r with
      | none => R (.ok .next) s₁
      | some v => wpAny (model prog w) A (letOwnedTupleGo target it v) (fun _ s₂ => wpAny (model prog w) A (PySem.assign target env v) (fun _ s₂ =>
          wpAny (model prog w) A (forIn ifs true fun c r => if r = true then do let ok ← isTrue c env (PySem.eval c env); pure (ForInStep.yield ok) else pure (ForInStep.yield r)) (fun ok s₃ =>
            if ok = true then wpAny (model prog w) A (PySem.eval elt env) (fun x s₄ =>
              wpAny (model prog w) A (call (.builtin "list.append") [acc, x]) (fun _ s₅ => ∃ m, m < n ∧ I m s₅) E s₄) E s₃
            else ∃ m, m < n ∧ I m s₃) E s₂) E s₂) E s₁) E s)
    (n : Nat) (h : I n s) :
    codeAny (model prog w) A (.compLoop (.ListComp elt [⟨target, iter, ifs, 0⟩] scope pos) 0 it acc env) R s := by
  refine codeAny_loop rfl I (fun n s hI => ?_) n h
  show wpAny _ A ((compTurn (.ListComp elt [⟨target, iter, ifs, 0⟩] scope pos) 0 it acc env).onRaise (fun x => do noteFrame x env; theTreesLotGoes x)) _ _ s
  refine wpAny_noted ?_
  rw [compTurn_list]
  refine wpAny_bind (wpAny_standAt (wpAny_bind (wpAny_mono (turn n s hI _) (fun r s₁ h₁ => ?_) fun _ _ h' => h')))
  cases r with
  | none => exact wpAny_pure h₁
  | some v =>
    refine wpAny_bind (wpAny_mono h₁ (fun _ s₂ h₂ => ?_) fun _ _ h' => h')
    refine wpAny_bind (wpAny_mono h₂ (fun _ s₂ h₂ => wpAny_bind (wpAny_mono h₂ (fun ok s₃ h₃ => ?_) fun _ _ h' => h')) fun _ _ h' => h')
    cases ok with
    | false => exact wpAny_pure ⟨rfl, h₃⟩
    | true =>
      exact wpAny_bind (wpAny_bind (wpAny_mono h₃ (fun x s₄ h₄ => wpAny_bind (wpAny_mono h₄ (fun _ s₅ h₅ => wpAny_pure (wpAny_pure ⟨rfl, h₅⟩)) fun _ _ h' => h')) fun _ _ h' => h'))
/-- the tests of a comprehension -/
inductive Ifs (cx : Cx) : St → List Expr → Bool → St → Prop
  | nil (σ : St) : Ifs cx σ [] true σ
  | one {σ σ' : St} {c : Expr} {b : Bool} : Tst cx σ c b σ' → Ifs cx σ [c] b σ'
theorem Ifs.like {ifs b} (h : Ifs cx σ ifs b σ₁) : σ₁.res.map (·.1) = σ.res.map (·.1) ∧ σ₁.vars = σ.vars := by
  cases h with
  | nil => exact ⟨rfl, rfl⟩
  | one h => exact ⟨h.like, h.vars⟩
theorem Ifs.run {ifs b} (h : Ifs cx σ ifs b σ₁) {F s} (ok : StOK cx F s σ) {Q : Bool → Shared → Prop} {E : Value → Shared → Prop} (k : ∀ F' s', Step σ.res.has F s F' s' → StOK cx F' s' σ₁ → Q b s') :
    wpAny (model cx.prog cx.w) cx.A (forIn ifs true fun c r => if r = true then do let ok ← isTrue c cx.env (PySem.eval c cx.env); pure (ForInStep.yield ok) else pure (ForInStep.yield r)) Q E s := by
  cases h with
  | nil => exact wpAny_tests_nil (k F s (.refl ok.inh) ok)
  | one h => exact wpAny_tests_one (h.run F s ok Q E k)
/-- within a comprehension -/
noncomputable def Cx.comp (cx : Cx) (scope : Scope) (cl : List (PySem.Str × Addr)) (C : Addr) (F0 : FH) (s0 : Shared) (W : Addr → Prop) (pv : List (Addr × Obj)) : Cx :=
  { prog := cx.prog, w := cx.w, A := cx.A, env := compEnvC scope cl C cx.env, g := cx.g, F0 := F0, s0 := s0, W := W, own := false, priv := pv }
/-- what is seen of the state within -/
structure Seen (cx : Cx) (σ : St) (scope : Scope) (cl : List (PySem.Str × Addr)) (cv : List (PySem.Str × VP)) : Prop where
  clos : closureFor scope cx.env = pure cl
  kind : scope.kind = .function
  names : ∀ x ∈ scope.names, x.2 = .local → scope.names.lookup x.1 = some .local
  nocell : ∀ x ∈ scope.names, x.2 ≠ .cell
  sub : ∀ x c, (x, c) ∈ cl → (x, c) ∈ cx.env.cells
  apart : cl.Pairwise fun x y => x.2 ≠ y.2
  vars : ∀ x p, (x, p) ∈ cv → (x, p) ∈ σ.vars ∧ cx.env.kindOf x ≠ some .local ∧ cl.lookup x = cx.env.cells.lookup x ∧ ((relabel scope cx.env).names.lookup x = some .cell ∨ ((relabel scope cx.env).names.lookup x = some .free ∧ (x == (PySem.Str.ofString "__classdict__")) = false))
  nd : (cv.map (·.1)).Nodup
theorem Seen.none {scope : Scope} (hf : ∀ x ∈ scope.names, x.2 ≠ .free) (hk : scope.kind = .function) (hn : ∀ x ∈ scope.names, x.2 = .local → scope.names.lookup x.1 = some .local) (hc : ∀ x ∈ scope.names, x.2 ≠ .cell) : Seen cx σ scope [] [] :=
  ⟨closureFor_none hf, hk, hn, hc, fun _ _ h => (List.not_mem_nil h).elim, .nil, fun _ _ h => (List.not_mem_nil h).elim, .nil⟩
theorem list_append_cell {prog : Program} {w : World} {A : Around} {E : Value → Shared → Prop} {s : Shared} {D : Addr} {o : Obj} {vs : List Value} {x : Value} {Q : Value → Shared → Prop} (g : s.heap.get? D = some o) (l : LsObj vs o) (hsz : vs.length ≤ sizeLine)
    (hQ : ∀ h' o', h'.get? D = some o' → LsObj (vs ++ [x]) o' → (∀ b, b ≠ D → h'.get? b = s.heap.get? b) → Q .none { s with heap := h' }) : wpAny (model prog w) A (call (.builtin "list.append") [.ref D, x]) Q E s := by
  obtain ⟨n, rfl⟩ := l
  refine wpAny_list_append_plain (items := vs.toArray) ⟨n, g⟩ (fun h' ⟨n', g'⟩ hs => hQ h' _ g' ⟨n', ?_⟩ fun b hb => hs.2 b hb) (by rw [List.size_toArray]; exact hsz)
  rw [List.push_toArray]
/-- one turn of a comprehension -/
noncomputable def CTurn (cx : Cx) (σ : St) (target elt : Expr) (ifs : List Expr) (p : VP) (b : Bool) (q : VP) (R' : Res) : Prop :=
  ∃ σt σu, As cx σ target p σt ∧ σt.res = σ.res ∧ Ifs cx σt ifs b σu ∧ (b = false → σu.res = R') ∧ (b = true → ∃ σv, Ev cx σu elt q σv ∧ σv.res = R')
theorem Step.off {W : Addr → Prop} {F G H : FH} {s t u : Shared} {ms : List Addr} (x : Step W F s G t) (y : Off ms G t H u) (hn : ∀ m ∈ ms, s.heap.get? m = none) : Step W F s H u where
  sub := x.sub.trans y.sub
  inh := y.inh
  fresh := fun a o e n => let ⟨o', e'⟩ := x.live a o e; y.fresh a o' e' (x.fresh a o e n)
  keep := fun a o w e => y.keep a o (fun q => by rw [hn a q] at e; cases e) (x.keep a o w e)
  live := fun a o e => let ⟨o', e'⟩ := x.live a o e; ⟨o', y.keep a o' (fun q => by rw [hn a q] at e; cases e) e'⟩
  gens := y.gens.trans x.gens
  os := y.os.trans x.os
/-- the heart of a comprehension: from the iterator to the list -/
theorem comp_core {elt target iter : Expr} {ifs : List Expr} {scope : Scope} {cl : List (PySem.Str × Addr)} {cv : List (PySem.Str × VP)} {ps : List VP} {R0 : Res} (hseen : Seen cx σ₁ scope cl cv)
    (R : Nat → Res) (hR0 : R 0 = σ₁.res) (hRa : ∀ k, (R k).map (·.1) = σ₁.res.map (·.1)) (hRs : ∀ k x, x ∈ R0 → x ∈ R k) (out : Nat → List VP) (ho : out 0 = []) (b : Nat → Bool) (q : Nat → VP)
    (hout : ∀ k, k < ps.length → out (k + 1) = if b k then out k ++ [q k] else out k) (hol : ∀ k, k ≤ ps.length → (out k).length ≤ sizeLine)
    (turn : ∀ C F0 s0 W pv k p, ps[k]? = some p → CTurn (cx.comp scope cl C F0 s0 W pv) { vars := cv, res := R k } target elt ifs p (b k) (q k) (R (k + 1)))
    {F : FH} {s : Shared} {h' : Heap} {tk : Nat} (ok : StOK cx F s σ₁) {I : Addr} {ms : List Addr} {J : Nat → FH → Heap → Prop} (hk : ∀ b o, s.heap.get? b = some o → h'.get? b = some o) (hms : ∀ m ∈ ms, s.heap.get? m = none)
    (W : Wlk cx I target ms ps R0 J) (hJ : J 0 F h') {E : Value → Shared → Prop} {RR : Value → Addr → Result → Shared → Prop}
    (fin : ∀ F' s' C D o vs, Step σ₁.res.has F s F' s' → StOK cx F' s' { vars := σ₁.vars, res := R ps.length } → s.heap.get? C = none → s.heap.get? D = none → C ≠ D → F' C = none → F' D = none → (∃ m, s'.heap.Ns C m) → s'.heap.get? D = some o → LsObj vs o → Rds F' (out ps.length) vs → RR (.ref D) C (.ok .next) s') :
    wpAny (model cx.prog cx.w) cx.A (newList []) (fun acc s₃ => wpAny (model cx.prog cx.w) cx.A (newFunctionEnv scope cx.env.globals cl [] cx.env.qual none .none (some cx.env)) (fun cenv s₄ =>
      codeAny (model cx.prog cx.w) cx.A (.compStart (.ListComp elt [⟨target, iter, ifs, 0⟩] scope pos) 0 (.ref I) acc { cenv with scope := relabel scope cx.env }) (RR acc cenv.locals) s₄) E s₃) E { s with heap := h', toks := tk } := by
  refine wpAny_newObj_type (wpAny_newFunctionEnv hseen.nocell (by intro y hy; simp at hy) (fun h₁ hns₁ hsb₁ => ?_) hseen.kind)
  dsimp only at hns₁ hsb₁ ⊢
  generalize hH2 : h'.push { cls := .type "list", dict := none, data := .seq ([] : List Value).toArray } = H2 at hns₁ hsb₁ ⊢
  have hC : H2.objs.size = h'.objs.size + 1 := by rw [← hH2, Heap.size_push]
  generalize hDe : h'.objs.size = D at hC ⊢
  generalize hCe : H2.objs.size = C at hns₁ hsb₁ hC ⊢
  have hDC : D ≠ C := by omega
  have nD : h'.get? D = none := hDe ▸ get_size _
  have nC : h'.get? C = none := get_ge (by omega)
  have sD : s.heap.get? D = none := by cases z : s.heap.get? D with | none => rfl | some o => rw [hk _ _ z] at nD; cases nD
  have sC : s.heap.get? C = none := by cases z : s.heap.get? C with | none => rfl | some o => rw [hk _ _ z] at nC; cases nC
  have old : ∀ b o, h'.get? b = some o → h₁.get? b = some o := fun b o e => hsb₁.extBut b o (fun z => by rw [z, nC] at e; cases e) (Heap.get?_push_of_some _ (hH2 ▸ Heap.get?_push_of_some _ e))
  have hacc : h₁.get? D = some { cls := .type "list", data := .seq ([] : List Value).toArray } := hsb₁.extBut _ _ hDC (Heap.get?_push_of_some _ (hH2 ▸ hDe ▸ Heap.get?_push_size _ rfl))
  have fmn : ∀ {a : Addr}, s.heap.get? a = none → F a = none := fun z => none_of_fresh ok.inh z
  have mD : D ∉ ms := fun z => by obtain ⟨o, e⟩ := W.at_ _ _ _ hJ D z; rw [nD] at e; cases e
  have mC : C ∉ ms := fun z => by obtain ⟨o, e⟩ := W.at_ _ _ _ hJ C z; rw [nC] at e; cases e
  have ap := ok.apartOf (ms := ms) hms
  have apC := ok.apartOf (ms := [C]) fun m hm => by rw [List.mem_singleton.mp hm]; exact sC
  have apD := ok.apartOf (ms := [D]) fun m hm => by rw [List.mem_singleton.mp hm]; exact sD
  have rhas : ∀ k a, (R k).has a ↔ σ₁.res.has a := fun k a => by unfold Res.has; rw [hRa]
  have st₀ : Step σ₁.res.has F s F { s with heap := h₁, toks := tk + ([] : List (PySem.Str × Value)).length } := Step.heap ok.inh fun b o e => old b o (hk b o e)
  -- the outer state, at any later time
  have outer : ∀ F' s' k, Step σ₁.res.has F s F' s' → ResOK F' s'.heap (R k) → StOK cx F' s' { vars := σ₁.vars, res := R k } := fun F' s' k st hr => ok.step (σ' := { vars := σ₁.vars, res := R k }) st rfl hr (hRa k)
  have res0 : ResOK F h₁ (R 0) := by rw [hR0]; exact (ok.keep (tk := tk) fun b o e => old b o (hk b o e)).res
  let Inv : Nat → Shared → Prop := fun n s' => ∃ i F', i ≤ ps.length ∧ n = ps.length + 1 - i ∧ J i F' s'.heap ∧ Step σ₁.res.has F s F' s' ∧ ResOK F' s'.heap (R i) ∧ F' C = none ∧ F' D = none ∧ (∀ m ∈ ms, F' m = none) ∧ (∃ m, s'.heap.Ns C m) ∧ ∃ o vs, s'.heap.get? D = some o ∧ LsObj vs o ∧ Rds F' (out i) vs
  have loop : codeAny (model cx.prog cx.w) cx.A (.compLoop (.ListComp elt [⟨target, iter, ifs, 0⟩] scope pos) 0 (.ref I) (.ref D) (compEnvC scope cl C cx.env)) (RR (.ref D) C) { s with heap := h₁, toks := tk + ([] : List (PySem.Str × Value)).length } := by
    refine compLoop_go Inv ?_ (ps.length + 1) ⟨0, F, Nat.zero_le _, rfl, ?_, st₀, res0, fmn sC, fmn sD, fun m hm => fmn (hms m hm), ⟨_, hns₁⟩, _, [], hacc, ⟨0, rfl⟩, by rw [ho]; exact .nil⟩
    · rintro n s' ⟨i, F', hle, rfl, hJ', st', hres', hFC, hFD, hFm, hnsC, oD, vs, gD, lD, rD⟩ E
      by_cases hlt : i < ps.length
      · obtain ⟨p, hp⟩ : ∃ p, ps[i]? = some p := ⟨_, List.getElem?_eq_getElem hlt⟩
        refine W.item i F' s' p _ _ _ hp st'.inh hJ' hFm fun v F₂ s₂ hr hJ₂ off₂ hFm₂ => ?_
        have st₂ : Step σ₁.res.has F s F₂ s₂ := st'.off off₂ hms
        have out' := outer F' s' i st' hres'
        have hres₂ : ResOK F₂ s₂.heap (R i) := (out'.off off₂ ap.loc ap.cell (fun a ha => ap.res a ((rhas i a).mp ha)) ap.priv ap.s0).res
        have out₂ := outer F₂ s₂ i st₂ hres₂
        have gD₂ := off₂.keep D oD mD gD
        have hFD₂ := off₂.fresh D oD gD hFD
        obtain ⟨mC', nsC'⟩ := hnsC
        have nsC₂ : s₂.heap.Ns C mC' := nsC'.at' fun o e => off₂.keep C o mC e
        have hFC₂ : F₂ C = none := by obtain ⟨o, _, _, e, _⟩ := nsC'; exact off₂.fresh C o e hFC
        obtain ⟨pv, hpv1, hpv2⟩ := exists_pv (W.at_ _ _ _ hJ₂)
        -- inside
        have inn : StOK (cx.comp scope cl C F s σ₁.res.has ((D, oD) :: pv)) F₂ s₂ { vars := cv, res := R i } := by
          refine { base := st₂, gF := out₂.gF, hh := ok.hh, kind := hseen.kind, glob := ok.glob, bltn := ok.bltn, ns := ⟨_, nsC₂⟩, newL := sC, locF := hFC₂, locR := fun z => apC.res C ((rhas i C).mp z) (List.mem_singleton.mpr rfl), cells := fun y c hm => ?_, apart := hseen.apart, newC := (fun z => nomatch z), vars := fun y z hm => ?_, res := hres₂, resW := fun a ha => .inl ((rhas i a).mp ha), locW := fun z => apC.res C z (List.mem_singleton.mpr rfl), cellW := fun y c hm z => ?_, nd := hseen.nd, priv := fun a o hm => ?_ }
          · exact out₂.cells y c (hseen.sub y c hm)
          · obtain ⟨h1, h2, h3, h4⟩ := hseen.vars y z hm
            obtain ⟨u, a, r⟩ := out₂.vars y z h1
            refine ⟨u, ?_, r⟩
            rcases a with ⟨k, _⟩ | ⟨k, c, lk, o, e, d⟩
            · exact absurd k h2
            · exact .inr ⟨h4, c, h3.trans lk, o, e, d⟩
          · exact (ok.cells y c (hseen.sub y c hm)).2.2 z
          · rcases List.mem_cons.mp hm with z | hm
            · cases z
              exact ⟨gD₂, hFD₂, fun z => apD.res D ((rhas i D).mp z) (List.mem_singleton.mpr rfl), hDC, fun y z => apD.cell y D (hseen.sub y D z) (List.mem_singleton.mpr rfl)⟩
            · obtain ⟨h1, h2⟩ := hpv1 a o hm
              exact ⟨h2, hFm₂ a h1, fun z => ap.res a ((rhas i a).mp z) h1, fun z => mC ((show a = C from z) ▸ h1), fun y z => ap.cell y a (hseen.sub y a z) h1⟩
        obtain ⟨σt, σu, ht, htr, hif, hno, hyes⟩ := turn C F s σ₁.res.has ((D, oD) :: pv) i p hp
        refine ht.run F₂ s₂ v inn hr _ _ fun s₃ ok₃ => hif.run ok₃ fun F₄ s₄ st₄ ok₄ => ?_
        -- back to the invariant
        have back : ∀ F₅ s₅ (σx : St), StOK (cx.comp scope cl C F s σ₁.res.has ((D, oD) :: pv)) F₅ s₅ σx → Sub F₂ F₅ → σx.res = R (i + 1) →
            J (i + 1) F₅ s₅.heap ∧ Step σ₁.res.has F s F₅ s₅ ∧ ResOK F₅ s₅.heap (R (i + 1)) ∧ F₅ C = none ∧ F₅ D = none ∧ (∀ m ∈ ms, F₅ m = none) ∧ (∃ m, s₅.heap.Ns C m) ∧ s₅.heap.get? D = some oD := fun F₅ s₅ σx ok₅ sb hr₅ => by
          have pz : ∀ m ∈ ms, ∃ o, s₂.heap.get? m = some o ∧ s₅.heap.get? m = some o ∧ F₅ m = none := fun m hm => by
            obtain ⟨o, hox⟩ := hpv2 m hm
            obtain ⟨q1, q2, _⟩ := ok₅.priv m o (List.mem_cons_of_mem _ hox)
            exact ⟨o, (hpv1 m o hox).2, q1, q2⟩
          obtain ⟨q1, q2, _⟩ := ok₅.priv D oD List.mem_cons_self
          have hr' : ResOK F₅ s₅.heap (R (i + 1)) := hr₅ ▸ ok₅.res
          refine ⟨W.frame (i + 1) F₂ s₂.heap F₅ s₅.heap hJ₂ sb ok₅.inh (fun m hm => (pz m hm).choose_spec.2.2) (fun a c hm => hr'.ok a c (hRs _ _ hm)) fun m hm o e => ?_, ok₅.base, hr', ok₅.locF, q2, fun m hm => (pz m hm).choose_spec.2.2, ok₅.ns, q1⟩
          obtain ⟨o', e1, e2, _⟩ := pz m hm
          rw [e] at e1; cases e1; exact e2
        have rep := rD.mono off₂.sub
        cases hb : b i with
        | false =>
          rw [hb] at hno
          simp only [Bool.false_eq_true, if_false]
          obtain ⟨b1, b2, b3, b4, b5, b6, b7, b8⟩ := back F₄ s₄ σu ok₄ st₄.sub (hno rfl)
          refine ⟨ps.length + 1 - (i + 1), by omega, i + 1, F₄, hlt, rfl, b1, b2, b3, b4, b5, b6, b7, oD, vs, b8, lD, ?_⟩
          rw [hout i hlt, hb]; exact rep.mono st₄.sub
        | true =>
          rw [hb] at hyes
          simp only [if_true]
          obtain ⟨σv, he, hvr⟩ := hyes rfl
          refine he.run F₄ s₄ ok₄ _ _ fun x F₅ s₅ st₅ ok₅ rx => ?_
          obtain ⟨b1, b2, b3, b4, b5, b6, b7, b8⟩ := back F₅ s₅ σv ok₅ (st₄.sub.trans st₅.sub) hvr
          have repl := rep.mono (st₄.sub.trans st₅.sub)
          refine list_append_cell b8 lD (by rw [repl.length]; exact hol i hle) fun h₆ o₆ g₆ l₆ hs₆ => ?_
          have off₆ : Off [D] F₅ s₅ F₅ { s₅ with heap := h₆ } := Off.heap (tk := s₅.toks) b2.inh (fun m hm => by rw [List.mem_singleton.mp hm]; exact b5) fun b' o hb' e => (hs₆ b' (by simpa using hb')).trans e
          have st₆ : Step σ₁.res.has F s F₅ { s₅ with heap := h₆ } := b2.off off₆ fun m hm => by rw [List.mem_singleton.mp hm]; exact sD
          have out₅ := outer F₅ s₅ (i + 1) b2 b3
          have res₆ : ResOK F₅ h₆ (R (i + 1)) := (out₅.off off₆ apD.loc apD.cell (fun a ha => apD.res a ((rhas (i + 1) a).mp ha)) apD.priv apD.s0).res
          obtain ⟨mz, nz⟩ := b7
          refine ⟨ps.length + 1 - (i + 1), by omega, i + 1, F₅, hlt, rfl, ?_, st₆, res₆, b4, b5, b6, ⟨mz, nz.at' fun o e => (hs₆ C (Ne.symm hDC)).trans e⟩, o₆, vs ++ [x], g₆, l₆, ?_⟩
          · exact W.frame (i + 1) F₅ s₅.heap F₅ h₆ b1 (.refl _) st₆.inh b6 (fun a c hm => res₆.ok a c (hRs _ _ hm)) fun m hm o e => (hs₆ m fun z => mD (z ▸ hm)).trans e
          · rw [hout i hlt, hb]; exact repl.append (.cons rx .nil)
      · have hie : i = ps.length := by omega
        subst hie
        refine W.done F' s' _ _ hJ' st'.inh hFm fun s₂ off₂ => ?_
        have st₂ : Step σ₁.res.has F s F' s₂ := st'.off off₂ hms
        have out' := outer F' s' _ st' hres'
        have hres₂ : ResOK F' s₂.heap (R ps.length) := (out'.off off₂ ap.loc ap.cell (fun a ha => ap.res a ((rhas _ a).mp ha)) ap.priv ap.s0).res
        obtain ⟨mz, nz⟩ := hnsC
        exact fin F' s₂ C D oD vs st₂ (outer F' s₂ _ st₂ hres₂) sC sD (Ne.symm hDC) hFC hFD ⟨mz, nz.at' fun o e => off₂.keep C o mC e⟩ (off₂.keep D oD mD gD) lD rD
    · exact W.frame 0 F h' F h₁ hJ (.refl F) st₀.inh (fun m hm => fmn (hms m hm)) (fun a c hm => res0.ok a c (hRs 0 _ hm)) fun m hm o e => old m o e
  refine codeAny_compStart_list loop ?_
  exact W.self 0 F { s with heap := h₁, toks := tk + ([] : List (PySem.Str × Value)).length } _ _ (W.frame 0 F h' F h₁ hJ (.refl F) st₀.inh (fun m hm => fmn (hms m hm)) (fun a c hm => res0.ok a c (hRs 0 _ hm)) fun m hm o e => old m o e) loop
/-- a new object frozen behind the step -/
theorem Step.thaw {W : Addr → Prop} {F F' : FH} {s s' : Shared} (x : Step W F s F' s') {a : Addr} {o : Obj} (hn : s.heap.get? a = none) (hF : F' a = none) (e : s'.heap.get? a = some o) : Step W F s (F'.set a o) s' where
  sub := x.sub.trans (FH.set_sub hF)
  inh := fun b ob q => by
    unfold FH.set at q
    by_cases z : b = a
    · subst z; simp at q; subst q; exact e
    · simp [z] at q; exact x.inh b ob q
  fresh := fun b ob q m => by rw [FH.set_ne (fun z => by rw [z, hn] at q; cases q)]; exact x.fresh b ob q m
  keep := x.keep
  live := x.live
  gens := x.gens
  os := x.os
theorem StOK.thaw {F s a o} (x : StOK cx F s σ) (ap : Apart cx σ [a]) (hF : F a = none) (e : s.heap.get? a = some o) : StOK cx (F.set a o) s σ := by
  have ha : a ∈ [a] := List.mem_singleton.mpr rfl
  have sb := FH.set_sub (o := o) hF
  have ne : ∀ b, b ∉ [a] → F.set a o b = F b := fun b hb => FH.set_ne fun q => hb (by rw [q]; exact ha)
  refine { base := ?_, gF := fun b ob q => sb _ _ (x.gF b ob q), hh := x.hh, kind := x.kind, glob := x.glob, bltn := x.bltn, ns := x.ns, newL := x.newL, locF := by rw [ne _ ap.loc]; exact x.locF, locR := x.locR, cells := fun y c hm => ⟨(x.cells y c hm).1, by rw [ne _ (ap.cell y c hm)]; exact (x.cells y c hm).2.1, (x.cells y c hm).2.2⟩, apart := x.apart, newC := x.newC, vars := fun y p hm => ?_, res := ⟨fun b c hm => CellOK.mono sb (x.res.ok b c hm), fun b c hm => by rw [ne _ (ap.res b (Res.has_of hm))]; exact x.res.off b c hm, x.res.nodup⟩, resW := x.resW, locW := x.locW, cellW := x.cellW, nd := x.nd, priv := fun b ob hm => ?_ }
  · exact x.base.thaw (ap.s0 a ha) hF e
  · obtain ⟨v, q, r⟩ := x.vars y p hm; exact ⟨v, q, p.mono sb r⟩
  · obtain ⟨p1, p2, p3, p4, p5⟩ := x.priv b ob hm
    exact ⟨p1, by rw [ne _ (ap.priv b ob hm)]; exact p2, p3, p4, p5⟩
theorem Apart.res_of {ms : List Addr} (x : Apart cx σ ms) (h : σ₁.res.map (·.1) = σ.res.map (·.1)) : Apart cx σ₁ ms := ⟨x.loc, x.cell, fun a ha => x.res a (by rw [← has_like h]; exact ha), x.priv, x.s0⟩
section comps
variable {elt target iter : Expr} {ifs : List Expr} {scope : Scope} {cl : List (PySem.Str × Addr)} {cv : List (PySem.Str × VP)} {ps : List VP} {R0 : Res}
/-- a comprehension's value -/
theorem Ev.comp {lp : Pos} (hi : EvIter cx σ iter target ps R0 σ₁) (hseen : Seen cx σ₁ scope cl cv)
    (R : Nat → Res) (hR0 : R 0 = σ₁.res) (hRa : ∀ k, (R k).map (·.1) = σ₁.res.map (·.1)) (hRs : ∀ k x, x ∈ R0 → x ∈ R k) (out : Nat → List VP) (ho : out 0 = []) (b : Nat → Bool) (q : Nat → VP)
    (hout : ∀ k, k < ps.length → out (k + 1) = if b k then out k ++ [q k] else out k) (hol : ∀ k, k ≤ ps.length → (out k).length ≤ sizeLine)
    (turn : ∀ C F0 s0 W pv k p, ps[k]? = some p → CTurn (cx.comp scope cl C F0 s0 W pv) { vars := cv, res := R k } target elt ifs p (b k) (q k) (R (k + 1)))
    (hs : ∀ x, foldedSetIterable iter cx.env x = pure x := by intro _; with_unfolding_all rfl) :
    Ev cx σ (.ListComp elt [⟨target, iter, ifs, 0⟩] scope lp) (vList (out ps.length)) { vars := σ₁.vars, res := R ps.length } where
  like := (hRa _).trans hi.like
  vars := hi.vars
  run := fun F s ok Q E k => by
    rw [eval_ListComp]
    refine wpAny_comprehension_free rfl hs hseen.clos hseen.kind hseen.names (hi.run F s ok _ _ fun F₁ s₁ st₁ ok₁ I ms J h' tk hk hms hnd W hJ => ?_)
    refine comp_core (pos := lp) (target := target) (ifs := ifs) (iter := iter) hseen R hR0 hRa hRs out ho b q hout hol turn ok₁ hk hms W hJ fun F' s' C D o vs st ok' hC hD hCD hFC hFD hns gD lD rD => ?_
    obtain ⟨m, hn⟩ := hns
    refine ⟨m, hn, fun h'' hsb => ?_⟩
    have apC := (ok₁.apartOf (ms := [C]) fun m hm => by rw [List.mem_singleton.mp hm]; exact hC).res_of (σ₁ := { vars := σ₁.vars, res := R ps.length }) (hRa _)
    have apD := (ok₁.apartOf (ms := [D]) fun m hm => by rw [List.mem_singleton.mp hm]; exact hD).res_of (σ₁ := { vars := σ₁.vars, res := R ps.length }) (hRa _)
    have off : Off [C] F' s' F' { s' with heap := h'' } := Off.heap (tk := s'.toks) st.inh (fun m hm => by rw [List.mem_singleton.mp hm]; exact hFC) fun b' ob hb e => (hsb.2 b' (by simpa using hb)).trans e
    have gD' : h''.get? D = some o := (hsb.2 D (Ne.symm hCD)).trans gD
    have st₂ := st.off off fun m hm => by rw [List.mem_singleton.mp hm]; exact hC
    have ok₂ := ok'.off off apC.loc apC.cell apC.res apC.priv apC.s0
    exact k _ _ _ (st₁.trans (has_like hi.like ▸ st₂.thaw hD hFD gD')) (ok₂.thaw apD hFD gD') ⟨D, o, vs, rfl, FH.set_at .., lD, rD.mono (FH.set_sub hFD)⟩
/-- a comprehension for a name -/
theorem Exs.assignComp {x : PySem.Str} {np lp : Pos} {rest : List Stmt} {vars' : List (PySem.Str × VP)} (hi : EvIter cx σ iter target ps R0 σ₁) (hseen : Seen cx σ₁ scope cl cv)
    (R : Nat → Res) (hR0 : R 0 = σ₁.res) (hRa : ∀ k, (R k).map (·.1) = σ₁.res.map (·.1)) (hRs : ∀ k x, x ∈ R0 → x ∈ R k) (out : Nat → List VP) (ho : out 0 = []) (b : Nat → Bool) (q : Nat → VP)
    (hout : ∀ k, k < ps.length → out (k + 1) = if b k then out k ++ [q k] else out k) (hol : ∀ k, k ≤ ps.length → (out k).length ≤ sizeLine)
    (turn : ∀ C F0 s0 W pv k p, ps[k]? = some p → CTurn (cx.comp scope cl C F0 s0 W pv) { vars := cv, res := R k } target elt ifs p (b k) (q k) (R (k + 1)))
    (hput : Put cx { vars := σ₁.vars, res := R ps.length } x (vList (out ps.length)) vars') (h : Exs cx { vars := vars', res := R ps.length } rest P)
    (hsw : swapsWith (.ListComp elt [⟨target, iter, ifs, 0⟩] scope lp) (some (.Name x np)) pos.line cx.env = pure true := by with_unfolding_all rfl)
    (hs : ∀ x, foldedSetIterable iter cx.env x = pure x := by intro _; with_unfolding_all rfl) :
    Exs cx σ (.Assign [.Name x np] (.ListComp elt [⟨target, iter, ifs, 0⟩] scope lp) pos :: rest) P := .cons fun F s ok Q E k => by
  rw [exec_Assign_Name_used _ _ _ _ hsw]
  refine wpAny_bind (wpAny_standAt (wpAny_bind ?_))
  show wpAny _ _ (do let _ ← comprehension (.ListComp elt [⟨target, iter, ifs, 0⟩] scope lp) scope cx.env _ (newList []) false (PySem.eval iter cx.env) (some (PySem.assign (.Name x np) cx.env))) _ _ s
  refine wpAny_bind (wpAny_mono (wpAny_comprehension_free (Q := fun _ s' => Q .next s') rfl hs hseen.clos hseen.kind hseen.names (hi.run F s ok _ _ fun F₁ s₁ st₁ ok₁ I ms J h' tk hk hms hnd W hJ => ?_))
    (fun _ s' hq => wpAny_pure (wpAny_pure hq)) fun _ _ e => e)
  refine comp_core (pos := lp) (target := target) (ifs := ifs) (iter := iter) hseen R hR0 hRa hRs out ho b q hout hol turn ok₁ hk hms W hJ fun F' s' C D o vs st ok' hC hD hCD hFC hFD hns gD lD rD => ?_
  obtain ⟨m, oC, es, ep, gC, dC, kC, fC⟩ := hns
  have apC := (ok₁.apartOf (ms := [C]) fun m hm => by rw [List.mem_singleton.mp hm]; exact hC).res_of (σ₁ := { vars := σ₁.vars, res := R ps.length }) (hRa _)
  have apD := (ok₁.apartOf (ms := [D]) fun m hm => by rw [List.mem_singleton.mp hm]; exact hD).res_of (σ₁ := { vars := σ₁.vars, res := R ps.length }) (hRa _)
  have ok₂ := ok'.thaw apD hFD gD
  have hFC₂ : (F'.set D o) C = none := by rw [FH.set_ne hCD]; exact hFC
  have ok₃ : StOK (cx.with_ [(C, oC)]) (F'.set D o) s' { vars := σ₁.vars, res := R ps.length } := ok₂.inTurn apC (fun m hm => by rw [List.mem_singleton.mp hm]; exact hFC₂) fun a oa hm => by cases List.mem_singleton.mp hm; exact ⟨List.mem_singleton.mpr rfl, gC⟩
  have hput' : Put (cx.with_ [(C, oC)]) { vars := σ₁.vars, res := R ps.length } x (vList (out ps.length)) vars' := ⟨hput.home, hput.own, hput.set⟩
  show wpAny _ _ (PySem.assign (.Name x np) cx.env (.ref D)) _ _ s'
  refine wpAny_assign_Name (hput'.run ok₃ ⟨D, o, vs, rfl, FH.set_at .., lD, rD.mono (FH.set_sub hFD)⟩ fun s₄ ok₄ => ?_)
  obtain ⟨gC₄, _⟩ := ok₄.priv C oC List.mem_cons_self
  refine ⟨m, ⟨oC, es, ep, gC₄, dC, kC, fC⟩, fun h'' hsb => ?_⟩
  have off : Off [C] (F'.set D o) s₄ (F'.set D o) { s₄ with heap := h'' } := Off.heap (tk := s₄.toks) ok₄.inh (fun m hm => by rw [List.mem_singleton.mp hm]; exact hFC₂) fun b' ob hb e => (hsb.2 b' (by simpa using hb)).trans e
  exact k .next _ _ (.nx _) ((st₁.sub.trans st.sub).trans (FH.set_sub hFD)) ((StOK.outTurn ok₄).off off apC.loc apC.cell apC.res apC.priv apC.s0) h
end comps
end Mine
namespace Mine
open PySem PySem.W PySem.Calls PyProof.Rows Builtin Builtin.Str Builtin.Int
variable {cx : Cx} {σ σ₁ σ₂ σ₃ : St} {pos : Pos} {P P' : Out → Prop}
/-- one owned cell turns -/
inductive RSet (a : Addr) (c c' : Cell) : Res → Res → Prop
  | here {l} : RSet a c c' ((a, c) :: l) ((a, c') :: l)
  | there {b d l l'} : RSet a c c' l l' → RSet a c c' ((b, d) :: l) ((b, d) :: l')
theorem RSet.names {a c c'} : ∀ {l l'}, RSet a c c' l l' → l'.map (·.1) = l.map (·.1)
  | _, _, .here => rfl
  | _, _, .there h => by simp [h.names]
theorem RSet.mem {a c c'} : ∀ {l l'}, RSet a c c' l l' → (a, c) ∈ l
  | _, _, .here => by simp
  | _, _, .there h => List.mem_cons_of_mem _ h.mem
theorem RSet.set {a c c'} : ∀ {l l'}, RSet a c c' l l' → (l.map (·.1)).Nodup → ∀ b d, (b, d) ∈ l' → (b = a ∧ d = c') ∨ (b ≠ a ∧ (b, d) ∈ l)
  | _, _, .here (l := l), hnd, b, d, hm => by
    rcases List.mem_cons.mp hm with e | hm2
    · cases e; exact .inl ⟨rfl, rfl⟩
    · refine .inr ⟨fun e => ?_, List.mem_cons_of_mem _ hm2⟩
      subst e
      have hm3 : b ∈ l.map (·.1) := List.mem_map.mpr ⟨(b, d), hm2, rfl⟩
      exact (List.nodup_cons.mp hnd).1 hm3
  | _, _, .there (b := z) h, hnd, b, d, hm => by
    rcases List.mem_cons.mp hm with e | hm
    · cases e
      refine .inr ⟨fun e => ?_, List.mem_cons_self⟩
      subst e
      exact (List.nodup_cons.mp hnd).1 (List.mem_map.mpr ⟨_, h.mem, rfl⟩)
    · exact (h.set (List.nodup_cons.mp hnd).2 b d hm).imp id fun ⟨x, y⟩ => ⟨x, List.mem_cons_of_mem _ y⟩
theorem StOK.turn {F s h' tk a c c' R'} (ok : StOK cx F s σ) (r : RSet a c c' σ.res R') (hs : ∀ b, b ≠ a → h'.get? b = s.heap.get? b) (hc : CellOK F h' a c') :
    Step σ.res.has F s F { s with heap := h', toks := tk } ∧ StOK cx F { s with heap := h', toks := tk } { vars := σ.vars, res := R' } := by
  have hF : F a = none := ok.res.off a c r.mem
  have st : Step σ.res.has F s F { s with heap := h', toks := tk } := by
    refine ⟨.refl F, fun b o e => ?_, fun _ _ _ n => n, fun b o w e => ?_, fun b o e => ?_, rfl, rfl⟩
    · exact (hs b fun q => by rw [q, hF] at e; cases e).trans (ok.inh b o e)
    · exact (hs b fun q => w (q ▸ Res.has_of r.mem)).trans e
    · by_cases q : b = a
      · subst q; exact hc.ex
      · exact ⟨o, (hs b q).trans e⟩
  refine ⟨st, ok.step (σ' := { vars := σ.vars, res := R' }) st rfl ⟨fun b d hm => ?_, fun b d hm => ?_, ?_⟩ r.names⟩
  · rcases r.set ok.res.nodup b d hm with ⟨rfl, rfl⟩ | ⟨hne, hm'⟩
    · exact hc
    · exact (ok.res.ok b d hm').at fun o e => (hs b hne).trans e
  · rcases r.set ok.res.nodup b d hm with ⟨rfl, rfl⟩ | ⟨hne, hm'⟩
    · exact hF
    · exact ok.res.off b d hm'
  · show (R'.map (·.1)).Nodup
    rw [r.names]; exact ok.res.nodup
/-- statements that are expressions -/
theorem Exs.expr {e : Expr} {p : VP} {rest : List Stmt} (he : Ev cx σ e p σ₁) (hp : ∀ F v, p.rd F v → v = .none) (h : Exs cx σ₁ rest P)
    (hi : interactive cx.env = false) (hs : swapsWith e none pos.line cx.env = pure false := by with_unfolding_all rfl) : Exs cx σ (.Expr e pos :: rest) P := .cons fun F s ok Q E k =>
  wpAny_Expr (he.run F s ok _ _ fun v F₁ s₁ st₁ ok₁ r₁ => by
    cases hp _ _ r₁
    exact k .next F₁ s₁ (.nx σ₁) st₁.sub ok₁ h) hi hs
theorem typeIs_cell {F s a ps} (ok : StOK cx F s σ) (hm : (a, Cell.lst ps) ∈ σ.res) : s.TypeIs (.ref a) "list" ∧ ∀ b, (Value.ref a) = .ref b → ∃ ob, s.heap.get? b = some ob ∧ ob.dict = none := by
  obtain ⟨o, vs, e, ⟨n, rfl⟩, _⟩ := ok.res.ok a _ hm
  refine ⟨⟨_, e, rfl⟩, fun b q => ?_⟩
  cases q
  exact ⟨_, e, rfl⟩
theorem Ev.append {o e : Expr} {ap : Pos} {a : Addr} {p : VP} {ps : List VP} {R' : Res} (ho : Ev cx σ o (vVal (.ref a)) σ) (he : Ev cx σ e p σ) (r : RSet a (.lst ps) (.lst (ps ++ [p])) σ.res R') (hsz : ps.length ≤ sizeLine)
    (hs : starEach [e] cx.env = [(false, PySem.eval e cx.env)] := by with_unfolding_all rfl)
    (hb : attributeBase o (PySem.Str.ofString "append") cx.env (PySem.eval o cx.env) = PySem.eval o cx.env := by with_unfolding_all rfl) (hl : (ap.endLine == pos.line) = true := by with_unfolding_all rfl) :
    Ev cx σ (.Call (.Attribute o (PySem.Str.ofString "append") ap) [e] [] pos) (vVal .none) { vars := σ.vars, res := R' } where
  like := r.names
  vars := rfl
  run := fun F s ok Q E k => wpMeth1 PySem.F.plainAttrs_list PySem.F.slot_list_append PySem.F.type_list_append (ho.run F s ok _ _ fun v F₁ s₁ st₁ ok₁ r₁ => by
    cases r₁
    obtain ⟨t1, t2⟩ := typeIs_cell ok₁ r.mem
    refine ⟨t1, t2, he.run F₁ s₁ ok₁ _ _ fun u F₂ s₂ st₂ ok₂ r₂ => ?_⟩
    obtain ⟨ob, vs, e, l, rv⟩ := ok₂.res.ok a _ r.mem
    refine list_append_cell e l (by rw [rv.length]; exact hsz) fun h' o' g' l' hs' => ?_
    obtain ⟨st₃, ok₃⟩ := ok₂.turn (tk := s₂.toks) r hs' ⟨o', _, g', l', rv.append (.cons r₂ .nil)⟩
    exact k _ F₂ _ (st₁.trans (st₂.trans st₃)) ok₃ rfl) hs hb hl
theorem Ev.pop0 {o e : Expr} {ap : Pos} {a : Addr} {p : VP} {ps : List VP} {R' : Res} (ho : Ev cx σ o (vVal (.ref a)) σ) (he : Ev cx σ e (vInt 0) σ) (r : RSet a (.lst (p :: ps)) (.lst ps) σ.res R') (hsz : ps.length < sizeLine)
    (hs : starEach [e] cx.env = [(false, PySem.eval e cx.env)] := by with_unfolding_all rfl)
    (hb : attributeBase o (PySem.Str.ofString "pop") cx.env (PySem.eval o cx.env) = PySem.eval o cx.env := by with_unfolding_all rfl) (hl : (ap.endLine == pos.line) = true := by with_unfolding_all rfl) :
    Ev cx σ (.Call (.Attribute o (PySem.Str.ofString "pop") ap) [e] [] pos) p { vars := σ.vars, res := R' } where
  like := r.names
  vars := rfl
  run := fun F s ok Q E k => wpMeth1 PySem.F.plainAttrs_list PySem.F.slot_list_pop PySem.F.type_list_pop (ho.run F s ok _ _ fun v F₁ s₁ st₁ ok₁ r₁ => by
    cases r₁
    obtain ⟨t1, t2⟩ := typeIs_cell ok₁ r.mem
    refine ⟨t1, t2, he.run F₁ s₁ ok₁ _ _ fun u F₂ s₂ st₂ ok₂ ⟨t, r₂⟩ => ?_⟩
    subst r₂
    obtain ⟨ob, vs, e, ⟨n, rfl⟩, rv⟩ := ok₂.res.ok a _ r.mem
    cases rv with
    | cons rp rs =>
      rename_i v vs'
      have hlen := rs.length
      have hq : seqIndex? 0 (v :: vs').toArray.size = some 0 := by simp [seqIndex?]
      have hz : (v :: vs').toArray.size ≤ sizeLine := by simp; first | lia | omega
      refine call_meets PySem.F.slot_list_pop (typeIs_cell ok₂ r.mem).1 PySem.F.entry_list_pop (PySem.F.args_list_pop_2 _ _) (MeetsSeq.list_pop_at a (v :: vs').toArray n 0 t 0 v (by decide) hq (by simp) hz) ⟨e, ?_⟩
      have hg := Heap.get?_update_self (h := s₂.heap) (fun o => Obj.mapSeq (fun xs => xs.eraseIdxIfInBounds 0) o) e (by simp [Obj.mapSeq]; rfl)
      have hlo : LsObj vs' (Obj.mapSeq (fun xs => xs.eraseIdxIfInBounds 0) { cls := Value.type "list", data := Data.seq (v :: vs').toArray n }) := by simp [LsObj, Obj.mapSeq, Array.eraseIdxIfInBounds]
      obtain ⟨st₃, ok₃⟩ := ok₂.turn (h' := s₂.heap.update a (Obj.mapSeq fun xs => xs.eraseIdxIfInBounds 0)) (tk := s₂.toks) r (fun b hb => (Heap.SameBut.update ..).2 b hb) ⟨_, vs', hg, hlo, rs⟩
      exact k _ F₂ _ (st₁.trans (st₂.trans st₃)) ok₃ rp) hs hb hl
theorem setItem_cell {prog : Program} {w : World} {A : Around} {E : Value → Shared → Prop} {s : Shared} {a : Addr} {vs : List Value} {n k : Nat} {t : Tok} {v : Value} {Q : Unit → Shared → Prop}
    (e : s.heap.get? a = some { cls := .type "list", data := .seq vs.toArray n }) (hk : k < vs.length) {ki : Int} (h0 : 0 ≤ ki) (hki : ki.toNat = k) (hfit : ki < 2 ^ 63)
    (hQ : ∀ h', h'.get? a = some { cls := .type "list", data := .seq (vs.set k v).toArray n } → (∀ b, b ≠ a → h'.get? b = s.heap.get? b) → Q () { s with heap := h' }) :
    wpAny (model prog w) A (PySem.setItem (.ref a) (.int ki t) v) Q E s := by
  have hl : s.heap.IsList a vs.toArray := ⟨_, e, rfl, n, rfl⟩
  unfold PySem.setItem
  refine wpAny_holding ?_
  refine wpAny_bind (wpAny_sequenceKey hl.typeIs (by decide) ?_)
  refine wpAny_bind (wpAny_callSpecial?_slot (name := PySem.Str.ofString "__setitem__") hl.typeIs slot_list_setitem (wpAny_call_entry slot_list_setitem hl.typeIs entry_list_setitem ?_ (args_list_setitem _ _ _)))
  show wpAny _ _ (Builtin.List.listSubscript? (.int ki t) >>= _) _ _ s
  refine wpAny_bind (wpAny_listSubscript_int (fitsIndex_of h0 hfit) ?_)
  clear hfit
  obtain ⟨j, rfl⟩ := Int.eq_ofNat_of_zero_le h0
  have hjk : j = k := by simpa using hki
  subst hjk
  clear hki h0
  have hx : vs.toArray[j]? = some vs[j] := by simp [hk]
  show wpAny _ _ ((seqItemAt a j >>= fun r => pure (r.map (j, ·))) >>= _) _ _ s
  refine wpAny_bind (wpAny_bind (wpAny_seqItemAt e rfl (wpAny_pure ?_)))
  rw [hx]
  show wpAny _ _ (setSeqItemAt a j v >>= _) _ _ s
  have fin := hQ (s.heap.update a (Obj.mapSeq (·.setIfInBounds j v))) ((Heap.get?_update_self _ e (by simp [Obj.mapSeq]; rfl)).trans (by simp [Obj.mapSeq])) fun b hb => (Heap.SameBut.update ..).2 b hb
  refine wpAny_bind (wpAny_setSeqItemAt e rfl ?_)
  first
    | exact wpAny_bind (wpAny_pure (wpAny_pure ⟨.none, rfl, wpAny_pure fin⟩))
    | exact wpAny_pure ⟨.none, rfl, wpAny_pure fin⟩
/-- an item stored -/
theorem Exs.setItem {o i value : Expr} {pp : Pos} {a : Addr} {ps : List VP} {p : VP} {k : Nat} {R' : Res} {rest : List Stmt} (hv : Ev cx σ value p σ) (ho : Ev cx σ o (vVal (.ref a)) σ) (hi : Ev cx σ i (vInt k) σ)
    (hk : k < ps.length) (r : RSet a (.lst ps) (.lst (ps.set k p)) σ.res R') (hsz : ps.length ≤ sizeLine) (h : Exs cx { vars := σ.vars, res := R' } rest P)
    (hs : swapsWith value (some (.Subscript o i pp)) pos.line cx.env = pure false := by with_unfolding_all rfl) : Exs cx σ (.Assign [.Subscript o i pp] value pos :: rest) P := .cons fun F s ok Q E kk =>
  wpAny_Assign_Subscript (hv.run F s ok _ _ fun v F₁ s₁ st₁ ok₁ r₁ => ho.run F₁ s₁ ok₁ _ _ fun ov F₂ s₂ st₂ ok₂ r₂ => hi.run F₂ s₂ ok₂ _ _ fun iv F₃ s₃ st₃ ok₃ ⟨t, r₃⟩ => by
    cases r₂; subst r₃
    obtain ⟨ob, vs, e, ⟨n, rfl⟩, rv⟩ := ok₃.res.ok a _ r.mem
    rw [sizeLine_is] at hsz
    have hr : p.rd F₃ v := p.mono (st₂.sub.trans st₃.sub) r₁
    refine setItem_cell e (k := k) (by rw [rv.length]; exact hk) (ki := (k : Int)) (by first | lia | omega) (by simp) (by first | lia | omega) fun h' hg hs' => ?_
    obtain ⟨st₄, ok₄⟩ := ok₃.turn (tk := s₃.toks) r hs' ⟨_, vs.set k v, hg, ⟨n, rfl⟩, rv.set hr⟩
    exact kk .next F₃ _ (.nx _) ((st₁.sub.trans st₂.sub).trans st₃.sub) ok₄ h) hs
end Mine
namespace Mine
open PySem PySem.W PySem.Calls PyProof.Rows Builtin Builtin.Str Builtin.Int
variable {cx : Cx} {σ σ₁ σ₂ σ₃ : St} {pos : Pos} {P P' : Out → Prop}
/-- a new list for a name, owned -/
theorem Exs.asOwn {x : PySem.Str} {np : Pos} {e : Expr} {ps : List VP} {rest : List Stmt} (he : EvN cx σ e ps σ₁)
    (h : ∀ a : Addr, cx.s0.heap.get? a = none → ∃ l, Put cx { vars := σ₁.vars, res := (a, .lst ps) :: σ₁.res } x (vVal (.ref a)) l ∧ Exs cx { vars := l, res := (a, .lst ps) :: σ₁.res } rest P)
    (hs : swapsWithSole [.Name x np] e pos.line cx.env = pure false := by with_unfolding_all rfl) (hw : swappedStores [.Name x np] e cx.env = pure none := by with_unfolding_all rfl)
    (ha : (assignEach [.Name x np] cx.env).map (·.2) = [PySem.assign (.Name x np) cx.env] := by with_unfolding_all rfl) : Exs cx σ (.Assign [.Name x np] e pos :: rest) P := .cons fun F s ok Q E k =>
  wpAny_Assign_stores (he.run F s ok _ _ fun F₁ s₁ st₁ ok₁ a o vs h' tk hk hn hg hl hr => by
    rw [ha]
    have h0 : cx.s0.heap.get? a = none := by
      cases q : cx.s0.heap.get? a with
      | none => rfl
      | some ob => obtain ⟨o', e⟩ := ok₁.base.live a ob q; rw [hn] at e; cases e
    obtain ⟨l, hp, hx⟩ := h a h0
    refine wpAny_assign_Name (hp.run (ok₁.own hk hn hg hl hr) rfl fun s' ok' => k .next F₁ s' (.nx _) st₁.sub ok' hx)) hs hw
/-- an owned cell given up -/
inductive RDel (a : Addr) (c : Cell) : Res → Res → Prop
  | here {l} : RDel a c ((a, c) :: l) l
  | there {b d l l'} : RDel a c l l' → RDel a c ((b, d) :: l) ((b, d) :: l')
theorem RDel.mem {a c} : ∀ {l l'}, RDel a c l l' → (a, c) ∈ l
  | _, _, .here => by simp
  | _, _, .there h => List.mem_cons_of_mem _ h.mem
theorem RDel.sub {a c} : ∀ {l l'}, RDel a c l l' → l'.Sublist l
  | _, _, .here => List.sublist_cons_self ..
  | _, _, .there h => h.sub.cons_cons _
theorem RDel.not {a c} : ∀ {l l'}, RDel a c l l' → (l.map (·.1)).Nodup → ¬ Res.has l' a
  | _, _, .here, h => by rw [List.map_cons] at h; exact (List.nodup_cons.mp h).1
  | _, _, .there (b := b) h, hn => by
    rw [List.map_cons] at hn
    intro q
    unfold Res.has at q
    rw [List.map_cons] at q
    rcases List.mem_cons.mp q with e | q
    · exact (List.nodup_cons.mp hn).1 (e ▸ List.mem_map.mpr ⟨_, h.mem, rfl⟩)
    · exact h.not (List.nodup_cons.mp hn).2 q
/-- an owned list frozen -/
theorem StOK.freeze {F s x a ps R' l} (ok : StOK cx F s σ) (hx : (x, vVal (.ref a)) ∈ σ.vars) (r : RDel a (.lst ps) σ.res R') (hl : Rep x (vList ps) σ.vars l) (h0 : cx.s0.heap.get? a = none) :
    ∃ F', Sub F F' ∧ StOK cx F' s { vars := l, res := R' } := by
  obtain ⟨o, vs, e, lo, rv⟩ := ok.res.ok a _ r.mem
  have hF := ok.res.off a _ r.mem
  have ha : Res.has σ.res a := Res.has_of r.mem
  have sb := FH.set_sub (o := o) hF
  have ne : ∀ b, b ≠ a → F.set a o b = F b := fun b hb => FH.set_ne hb
  refine ⟨F.set a o, sb, ?_⟩
  have nd' : (l.map (·.1)).Nodup := hl.names ▸ ok.nd
  have old : StOK cx F s { vars := σ.vars, res := R' } := ok.wk ⟨fun _ _ h => h, ok.nd, r.sub⟩
  have notR : ¬ Res.has R' a := r.not ok.res.nodup
  refine { base := ok.base.thaw h0 hF e, gF := fun b ob q => sb _ _ (ok.gF b ob q), hh := ok.hh, kind := ok.kind, glob := ok.glob, bltn := ok.bltn, ns := ok.ns, newL := ok.newL, locF := ?_, locR := old.locR, cells := fun y c hm => ⟨(old.cells y c hm).1, ?_, (old.cells y c hm).2.2⟩, apart := ok.apart, newC := ok.newC, vars := fun y p hm => ?_, res := ⟨fun b c hm => CellOK.mono sb (old.res.ok b c hm), fun b c hm => ?_, old.res.nodup⟩, resW := old.resW, locW := ok.locW, cellW := ok.cellW, nd := nd', priv := fun b ob hm => ?_ }
  · exact (ne _ fun q => ok.locR (by rw [q]; exact ha)).trans ok.locF
  · exact (ne _ fun q => (ok.cells y c hm).2.2 (by rw [q]; exact ha)).trans (ok.cells y c hm).2.1
  · rcases hl.set ok.nd y p hm with ⟨rfl, rfl⟩ | ⟨_, hm'⟩
    · obtain ⟨v, q, rr⟩ := ok.vars y _ hx
      exact ⟨v, q, a, o, vs, rr, FH.set_at .., lo, rv.mono sb⟩
    · obtain ⟨v, q, rr⟩ := ok.vars y p hm'; exact ⟨v, q, p.mono sb rr⟩
  · exact (ne _ fun q => notR (by have h3 : b = a := q; rw [← h3]; exact Res.has_of hm)).trans (old.res.off b c hm)
  · obtain ⟨p1, p2, p3, p4, p5⟩ := old.priv b ob hm
    exact ⟨p1, (ne b fun q => (ok.priv b ob hm).2.2.1 (by rw [q]; exact ha)).trans p2, p3, p4, p5⟩
theorem Exs.freeze {x : PySem.Str} {a : Addr} {ps : List VP} {R' : Res} {l : List (PySem.Str × VP)} {ss : List Stmt} (hx : (x, vVal (.ref a)) ∈ σ.vars) (r : RDel a (.lst ps) σ.res R') (hl : Rep x (vList ps) σ.vars l) (h0 : cx.s0.heap.get? a = none)
    (h : Exs cx { vars := l, res := R' } ss P) : Exs cx σ ss P := fun F s ok Q E k => by
  obtain ⟨F', sb, ok'⟩ := ok.freeze hx r hl h0
  exact h F' s ok' Q E fun f F₂ s₂ o sb₂ => k f F₂ s₂ o (sb.trans sb₂)
/-- op-assignment to a name -/
theorem Exs.aug {x : PySem.Str} {np : Pos} {e : Expr} {op : Operator} {p q r : VP} {l : List (PySem.Str × VP)} {rest : List Stmt} (hx : (x, p) ∈ σ.vars) (he : Ev cx σ e q σ₁)
    (hop : ∀ F s v u, StOK cx F s σ₁ → p.rd F v → q.rd F u → Gv cx (inplaceOp op v u) F s r.rd) (hp : Put cx σ₁ x r l) (h : Exs cx { vars := l, res := σ₁.res } rest P) :
    Exs cx σ (.AugAssign (.Name x np) op e pos :: rest) P := .cons fun F s ok Q E k => by
  obtain ⟨v, av, rv⟩ := ok.vars x p hx
  refine wpAny_AugAssign_Name (load_at (h := s.heap) av ok.kind (he.run F s ok _ _ fun u F₁ s₁ st₁ ok₁ r₁ => ?_))
  refine hop F₁ s₁ v u ok₁ (p.mono st₁.sub rv) r₁ _ _ fun z F₂ s₂ st₂ r₂ => ?_
  exact hp.run (ok₁.pure st₂) r₂ fun s' ok' => k .next F₂ s' (.nx _) (st₁.sub.trans st₂.sub) ok' h
theorem Exs.augAddI {x : PySem.Str} {np : Pos} {e : Expr} {i j : Int} {l : List (PySem.Str × VP)} {rest : List Stmt} (hx : (x, vInt i) ∈ σ.vars) (he : Ev cx σ e (vInt j) σ₁) (hp : Put cx σ₁ x (vInt (i + j)) l) (h : Exs cx { vars := l, res := σ₁.res } rest P) :
    Exs cx σ (.AugAssign (.Name x np) .Add e pos :: rest) P :=
  .aug hx he (fun F s v u ok ⟨t, r1⟩ ⟨t', r2⟩ => by subst r1; subst r2; exact fun Q E k => PySem.P.iadd_int (k _ F _ (.toks ok.inh) ⟨_, rfl⟩)) hp h
theorem Exs.augSubI {x : PySem.Str} {np : Pos} {e : Expr} {i j : Int} {l : List (PySem.Str × VP)} {rest : List Stmt} (hx : (x, vInt i) ∈ σ.vars) (he : Ev cx σ e (vInt j) σ₁) (hp : Put cx σ₁ x (vInt (i - j)) l) (h : Exs cx { vars := l, res := σ₁.res } rest P) :
    Exs cx σ (.AugAssign (.Name x np) .Sub e pos :: rest) P :=
  .aug hx he (fun F s v u ok ⟨t, r1⟩ ⟨t', r2⟩ => by subst r1; subst r2; exact fun Q E k => PySem.P.isub_int (k _ F _ (.toks ok.inh) ⟨_, rfl⟩)) hp h
theorem Exs.augAddS {x : PySem.Str} {np : Pos} {e : Expr} {y z : List Nat} {l : List (PySem.Str × VP)} {rest : List Stmt} (hx : (x, vStr y) ∈ σ.vars) (he : Ev cx σ e (vStr z) σ₁) (hsz : y.length + z.length ≤ sizeLine) (hp : Put cx σ₁ x (vStr (y ++ z)) l) (h : Exs cx { vars := l, res := σ₁.res } rest P) :
    Exs cx σ (.AugAssign (.Name x np) .Add e pos :: rest) P :=
  .aug hx he (fun F s v u ok ⟨t, r1⟩ ⟨t', r2⟩ => by
    subst r1; subst r2
    exact fun Q E k => SB.iadd (fun t' kk => k _ F _ (.toks ok.inh) ⟨_, by rw [L2S_append]⟩) (by rw [L2S_len, L2S_len]; exact hsz)) hp h
/-- one value for several targets -/
theorem Exs.assign2 {t₁ t₂ e : Expr} {p : VP} {rest : List Stmt} (he : Ev cx σ e p σ₁) (h1 : As cx σ₁ t₁ p σ₂) (h2 : As cx σ₂ t₂ p σ₃) (h : Exs cx σ₃ rest P)
    (ha : (assignEach [t₁, t₂] cx.env).map (·.2) = [PySem.assign t₁ cx.env, PySem.assign t₂ cx.env] := by with_unfolding_all rfl) (hw : swappedStores [t₁, t₂] e cx.env = pure none := by with_unfolding_all rfl) :
    Exs cx σ (.Assign [t₁, t₂] e pos :: rest) P := .cons fun F s ok Q E k =>
  wpAny_Assign_two (he.run F s ok _ _ fun v F₁ s₁ st₁ ok₁ r₁ => h1.run F₁ s₁ v ok₁ r₁ _ _ fun s₂ ok₂ => h2.run F₁ s₂ v ok₂ r₁ _ _ fun s₃ ok₃ => k .next F₁ s₃ (.nx σ₃) st₁.sub ok₃ h) ha hw
theorem Exs.assign3 {t₁ t₂ t₃ e : Expr} {p : VP} {σ₄ : St} {rest : List Stmt} (he : Ev cx σ e p σ₁) (h1 : As cx σ₁ t₁ p σ₂) (h2 : As cx σ₂ t₂ p σ₃) (h3 : As cx σ₃ t₃ p σ₄) (h : Exs cx σ₄ rest P)
    (hs : swapsWithSole [t₁, t₂, t₃] e pos.line cx.env = pure false := by with_unfolding_all rfl) (ha : (assignEach [t₁, t₂, t₃] cx.env).map (·.2) = [PySem.assign t₁ cx.env, PySem.assign t₂ cx.env, PySem.assign t₃ cx.env] := by with_unfolding_all rfl) (hw : swappedStores [t₁, t₂, t₃] e cx.env = pure none := by with_unfolding_all rfl) :
    Exs cx σ (.Assign [t₁, t₂, t₃] e pos :: rest) P := .cons fun F s ok Q E k =>
  wpAny_Assign_stores (he.run F s ok _ _ fun v F₁ s₁ st₁ ok₁ r₁ => by
    rw [ha]
    refine wpAny_bind (wpAny_holding (h1.run F₁ s₁ v ok₁ r₁ _ _ fun s₂ ok₂ => ?_))
    refine wpAny_bind (wpAny_holding (h2.run F₁ s₂ v ok₂ r₁ _ _ fun s₃ ok₃ => ?_))
    exact h3.run F₁ s₃ v ok₃ r₁ _ _ fun s₄ ok₄ => k .next F₁ s₄ (.nx σ₄) st₁.sub ok₄ h) hs hw
/-- two names by a tuple display: the last is stored first -/
theorem Exs.swap {elts : List Expr} {kk : Nat} {tp : Pos} {e : Expr} {x y : PySem.Str} {p q : VP} {l₁ l₂ : List (PySem.Str × VP)} {rest : List Stmt} (he : Ev cx σ e (vTup [p, q]) σ₁) (h1 : Put cx σ₁ y q l₁) (h2 : Put cx { vars := l₁, res := σ₁.res } x p l₂)
    (h : Exs cx { vars := l₂, res := σ₁.res } rest P)
    (hs : swapsWithSole [.Tuple elts kk tp] e pos.line cx.env = pure false := by with_unfolding_all rfl) (hw : swappedStores [.Tuple elts kk tp] e cx.env = pure (some [x, y]) := by with_unfolding_all rfl) :
    Exs cx σ (.Assign [.Tuple elts kk tp] e pos :: rest) P := .cons fun F s ok Q E k =>
  Assign_Tuple_swapped (he.run F s ok _ _ fun v F₁ s₁ st₁ ok₁ ⟨a, o, vs, e1, f, ⟨n, q1⟩, r⟩ => by
    subst e1; subst q1
    obtain ⟨u, z, rfl, r1, r2⟩ := r.two
    have ht : s₁.heap.IsTuple a #[u, z] := ⟨_, ok₁.inh _ _ f, rfl, n, rfl⟩
    show wpAny _ _ (unpackItems (.ref a) (#[u, z] : Array Value).size none) _ _ _
    refine wpAny_unpackItems_tuple ok₁.hh ht fun h' hx => ?_
    show wpAny _ _ (assignInOrder [bindName cx.env y, bindName cx.env x] [z, u]) _ _ _
    have ok₂ := ok₁.keep (h' := h') (tk := s₁.toks) fun b ob e => hx b ob (fun q => by rw [q, get_size] at e; cases e) e
    refine assignInOrder_cons (wpAny_bindName (h1.run ok₂ r2 fun s₃ ok₃ => ?_))
    refine assignInOrder_cons (wpAny_bindName (h2.run ok₃ r1 fun s₄ ok₄ => wpAny_pure (k .next F₁ s₄ (.nx _) st₁.sub ok₄ h)))) hs hw
/-- in and not in a list of texts -/
theorem strsAre : ∀ {l : List (PySem.Str × Tok)}, StrsAre (strValues l) (l.map (·.1))
  | [] => .nil
  | (x, t) :: l => .cons x t strsAre
theorem any_L2S (ls : List (List Nat)) (y : List Nat) : (ls.map L2S).any (· == L2S y) = ls.contains y := by
  induction ls with
  | nil => rfl
  | cons x ls ih =>
    rw [List.map_cons, List.any_cons, ih, List.contains_cons]
    congr 1
    have : (L2S x == L2S y) = (x == y) := by
      rw [Bool.eq_iff_iff, beq_iff_eq, beq_iff_eq]
      exact ⟨fun e => by have := congrArg S2 e; unfold S2 at this; rw [L2S_toList, L2S_toList] at this; exact this, fun e => by rw [e]⟩
    rw [this, Bool.eq_iff_iff, beq_iff_eq, beq_iff_eq]
    exact ⟨Eq.symm, Eq.symm⟩
theorem Tst.inL {a b : Expr} {y : List Nat} {ls : List (List Nat)} (ha : Ev cx σ a (vStr y) σ₁) (hb : Ev cx σ₁ b (vSrcW σ₂ (vStrs ls)) σ₂) (hm : behindInMarks .In b = false := by with_unfolding_all rfl) : Tst cx σ (.Compare a [.In] [b] pos) (ls.contains y) σ₂ :=
  .cmp ha hb hm fun F s v u ok ⟨t, e⟩ r => by
    subst e
    obtain ⟨c, vs, rfl, hL, rv⟩ := LstW.items r ok
    obtain ⟨l, rfl, el⟩ := strs_rds rv
    exact fun Q E k => in_list_strs hL strsAre (by rw [el, any_L2S]; exact k _ F _ (.refl ok.inh) rfl)
theorem Tst.ninL {a b : Expr} {y : List Nat} {ls : List (List Nat)} (ha : Ev cx σ a (vStr y) σ₁) (hb : Ev cx σ₁ b (vSrcW σ₂ (vStrs ls)) σ₂) (hm : behindInMarks .NotIn b = false := by with_unfolding_all rfl) : Tst cx σ (.Compare a [.NotIn] [b] pos) (!ls.contains y) σ₂ :=
  .cmp ha hb hm fun F s v u ok ⟨t, e⟩ r => by
    subst e
    obtain ⟨c, vs, rfl, hL, rv⟩ := LstW.items r ok
    obtain ⟨l, rfl, el⟩ := strs_rds rv
    exact fun Q E k => notin_list_strs hL strsAre (by rw [el, any_L2S]; exact k _ F _ (.refl ok.inh) rfl)
/-- truth of a list -/
theorem Tst.list {e : Expr} {ps : List VP} (ha : Ev cx σ e (vSrcW σ₁ ps) σ₁) (he : ∀ whole, isTrue e cx.env whole = (do let v ← whole; standAt e.pos; holding [v] (truthy v))) (hsz : ps.length ≤ sizeLine) : Tst cx σ e (!ps.isEmpty) σ₁ :=
  .val ha he fun F s v ok r => by
    obtain ⟨c, vs, rfl, hL, rv⟩ := LstW.items r ok
    rw [sizeLine_is] at hsz
    have hq : vs.toArray.isEmpty = ps.isEmpty := by
      have := rv.length
      cases vs <;> cases ps <;> simp_all
    exact fun Q E k => wpAny_truthy_list hL (by rw [List.size_toArray, rv.length]; first | lia | omega) (by rw [hq]; exact k _ F _ (.toks ok.inh) rfl)
/-- x or None -/
theorem Ev.orNone {a : Expr} {i : Int} {np : Pos} {kk : Nat} (ha : Ev cx σ a (vInt i) σ) : Ev cx σ (.BoolOp .Or [a, .Constant .none kk np] pos) (vPart (if i = 0 then none else some i)) σ where
  like := rfl
  vars := rfl
  run := fun F s ok Q E k => wpAny_Or2 (ha.run F s ok _ _ fun v F₁ s₁ st₁ ok₁ ⟨t, r₁⟩ => by
    subst r₁
    refine PySem.P.truthy_int ?_
    by_cases h : i = 0
    · subst h
      simp only [bne_self_eq_false, Bool.false_eq_true, if_false]
      exact (Ev.cNone (cx := cx) (σ := σ)).run F₁ s₁ ok₁ _ _ fun u F₂ s₂ st₂ ok₂ r₂ => k u F₂ s₂ (st₁.trans st₂) ok₂ r₂
    · have hb : (i != 0) = true := by simpa using h
      simp only [hb, if_true]
      exact k _ F₁ s₁ st₁ ok₁ (by rw [if_neg h]; exact ⟨_, rfl⟩))
end Mine
namespace Mine
open PySem PySem.W PySem.Calls PyProof.Rows Builtin Builtin.Str Builtin.Int
variable {cx : Cx} {σ σ₁ σ₂ σ₃ : St} {pos : Pos} {P P' : Out → Prop}
/-- a turn's ends, by an invariant -/
noncomputable def TurnI (cx : Cx) (next : St → Prop) (rest : List Stmt) (P : Out → Prop) : Out → Prop
  | .nx σ' => ∃ σ'', Wk σ' σ'' ∧ next σ''
  | .ct σ' => ∃ σ'', Wk σ' σ'' ∧ next σ''
  | .bk σ' => Exs cx σ' rest P
  | .rt p R => P (.rt p R)
theorem Exs.forI {target e : Expr} {body rest : List Stmt} {ps : List VP} (hi : EvIter cx σ e target ps [] σ₁) (Inv : Nat → St → Prop) (h0 : ∃ σ', Wk σ₁ σ' ∧ Inv 0 σ')
    (body_ : ∀ k p pv σk, ps[k]? = some p → Inv k σk → ∃ σt, As (cx.with_ pv) σk target p σt ∧ Exs (cx.with_ pv) σt body (TurnI cx (Inv (k + 1)) rest P))
    (after : ∀ σk, Inv ps.length σk → Exs cx σk rest P)
    (hs : ∀ x, foldedSetIterable e cx.env x = pure x := by intro _; with_unfolding_all rfl) : Exs cx σ (.For target e body [] pos :: rest) P := .cons fun F s ok Q E k => by
  refine wpAny_For (hi.run F s ok _ _ fun F₁ s₁ st₁ ok₁ I ms J h' tk hk hms hnd W hJ => ?_) hs
  have hFm : ∀ m ∈ ms, F₁ m = none := fun m hm => none_of_fresh ok₁.inh (hms m hm)
  obtain ⟨σ0, w0, i0⟩ := h0
  have ap0 : Apart cx σ0 ms := by
    have a := ok₁.apartOf hms
    exact ⟨a.loc, a.cell, fun x hx => a.res x (Sub.has w0.res hx), a.priv, a.s0⟩
  have ok0 : StOK cx F₁ { s₁ with heap := h', toks := tk } σ0 := (ok₁.keep (tk := tk) hk).wk w0
  refine codeAny_forLoop_any (fun n s' => ∃ i F' σi, i ≤ ps.length ∧ n = ps.length + 1 - i ∧ J i F' s'.heap ∧ StOK cx F' s' σi ∧ Inv i σi ∧ Apart cx σi ms ∧ (∀ m ∈ ms, F' m = none) ∧ Sub F F') ?_ (ps.length + 1)
    ⟨0, F₁, σ0, Nat.zero_le _, rfl, hJ, ok0, i0, ap0, hFm, st₁.sub⟩
  rintro n s' ⟨i, F', σi, hle, rfl, hJ', ok', hinv, ap, hF', hsub⟩
  by_cases hlt : i < ps.length
  · obtain ⟨p, hp⟩ : ∃ p, ps[i]? = some p := ⟨_, List.getElem?_eq_getElem hlt⟩
    refine W.item i F' s' p _ _ _ hp ok'.inh hJ' hF' fun v F₂ s₂ hr hJ₂ st₂ hF₂ => ?_
    · have ok₂ : StOK cx F₂ s₂ σi := ok'.off st₂ ap.loc ap.cell ap.res ap.priv ap.s0
      obtain ⟨pv, hpv1, hpv2⟩ := exists_pv (W.at_ _ _ _ hJ₂)
      obtain ⟨σt, ht, hb⟩ := body_ i p pv σi hp hinv
      refine ht.run F₂ s₂ v (ok₂.inTurn ap hF₂ hpv1) hr _ _ fun s₃ ok₃ => ?_
      refine hb F₂ s₃ ok₃ _ _ fun f F₄ s₄ o sb oo po => ?_
      have back : ∀ σ', StOK (cx.with_ pv) F₄ s₄ σ' → (∃ σ'', Wk σ' σ'' ∧ Inv (i + 1) σ'') → ∃ m, m < ps.length + 1 - i ∧ ∃ i F' σi, i ≤ ps.length ∧ m = ps.length + 1 - i ∧ J i F' s₄.heap ∧ StOK cx F' s₄ σi ∧ Inv i σi ∧ Apart cx σi ms ∧ (∀ m ∈ ms, F' m = none) ∧ Sub F F' := fun σ' ok₄ ⟨σ'', w, iv⟩ => by
        have pz : ∀ m ∈ ms, ∃ o, s₂.heap.get? m = some o ∧ s₄.heap.get? m = some o ∧ F₄ m = none ∧ ¬ σ'.res.has m := fun m hm => by
          obtain ⟨o, ho⟩ := hpv2 m hm
          obtain ⟨q1, q2, q3, _⟩ := ok₄.priv m o (List.mem_append_left _ ho)
          exact ⟨o, (hpv1 m o ho).2, q1, q2, q3⟩
        refine ⟨ps.length + 1 - (i + 1), by first | lia | omega, i + 1, F₄, σ'', hlt, rfl, ?_, (ok₄.wk w).outTurn, iv, ⟨ap.loc, ap.cell, fun x hx hm => ?_, ap.priv, ap.s0⟩, fun m hm => (pz m hm).choose_spec.2.2.1, (hsub.trans st₂.sub).trans sb⟩
        · refine W.frame (i + 1) F₂ s₂.heap F₄ s₄.heap hJ₂ sb ok₄.inh (fun m hm => (pz m hm).choose_spec.2.2.1) (fun _ _ h => (List.not_mem_nil h).elim) fun m hm o e => ?_
          obtain ⟨o', e1, e2, _⟩ := pz m hm
          rw [e] at e1; cases e1; exact e2
        · exact (pz x hm).choose_spec.2.2.2 (Sub.has w.res hx)
      cases f with
      | next => cases o with
        | nx σ' => exact back σ' oo po
        | _ => exact oo.elim
      | cont => cases o with
        | ct σ' => exact back σ' oo po
        | _ => exact oo.elim
      | brk => cases o with
        | bk σ' => exact k .next F₄ s₄ (.nx σ') ((hsub.trans st₂.sub).trans sb) (StOK.outTurn oo) po
        | _ => exact oo.elim
      | ret v => cases o with
        | rt p R => exact k (.ret v) F₄ s₄ (.rt p R) ((hsub.trans st₂.sub).trans sb) oo po
        | _ => exact oo.elim
  · have hie : i = ps.length := by first | lia | omega
    subst hie
    refine W.done F' s' _ _ hJ' ok'.inh hF' fun s₂ st₂ => ?_
    exact wpAny_execs_nil (k .next F' s₂ (.nx _) hsub (ok'.off st₂ ap.loc ap.cell ap.res ap.priv ap.s0) (after _ hinv))
/-- a while by an invariant and a measure -/
theorem Exs.whlI {t : Expr} {body rest : List Stmt} (Inv : Nat → St → Prop) (n₀ : Nat) (h0 : ∃ σ', Wk σ σ' ∧ Inv n₀ σ')
    (turn : ∀ n σn, Inv n σn → ∃ b σt, Tst cx σn t b σt ∧ (b = true → Exs cx σt body (TurnI cx (fun σ' => ∃ m, m < n ∧ Inv m σ') rest P)) ∧ (b = false → Exs cx σt rest P)) : Exs cx σ (.While t body [] pos :: rest) P := .cons fun F s ok Q E k => by
  obtain ⟨σ0, w0, i0⟩ := h0
  refine wpAny_While (codeAny_whileLoop (fun n s' => ∃ F' σn, Inv n σn ∧ StOK cx F' s' σn ∧ Sub F F') ?_ n₀ ⟨F, σ0, i0, ok.wk w0, .refl F⟩)
  rintro n s' ⟨F', σn, hinv, ok', sb⟩
  obtain ⟨b, σt, ht, hb, hn⟩ := turn n σn hinv
  refine ht.run F' s' ok' _ _ fun F₂ s₂ st₂ ok₂ => ?_
  cases b with
  | false =>
    simp only [Bool.false_eq_true, if_false]
    exact wpAny_execs_nil (k .next F₂ s₂ (.nx σt) (sb.trans st₂.sub) ok₂ (hn rfl))
  | true =>
    simp only [if_true]
    refine hb rfl F₂ s₂ ok₂ _ _ fun f F₃ s₃ o sb₃ oo po => ?_
    have sb' := (sb.trans st₂.sub).trans sb₃
    cases f with
    | next => cases o with
      | nx σ' => obtain ⟨σ'', w, m, hm, iv⟩ := po; exact ⟨m, hm, F₃, σ'', iv, StOK.wk oo w, sb'⟩
      | _ => exact oo.elim
    | cont => cases o with
      | ct σ' => obtain ⟨σ'', w, m, hm, iv⟩ := po; exact ⟨m, hm, F₃, σ'', iv, StOK.wk oo w, sb'⟩
      | _ => exact oo.elim
    | brk => cases o with
      | bk σ' => exact k .next F₃ s₃ (.nx σ') sb' oo po
      | _ => exact oo.elim
    | ret v => cases o with
      | rt p R => exact k (.ret v) F₃ s₃ (.rt p R) sb' oo po
      | _ => exact oo.elim
/-- a tuple of which its kind alone is known -/
noncomputable def vTupW (ps : List VP) : VP := ⟨fun F v => ∃ (a : Addr) (o : Obj) (vs : List Value) (n : Nat), v = .ref a ∧ F a = some o ∧ o.cls = .type "tuple" ∧ o.data = .seq vs.toArray n ∧ Rds F ps vs,
  fun h ⟨a, o, vs, n, e, f, c, d, r⟩ => ⟨a, o, vs, n, e, h _ _ f, c, d, r.mono h⟩⟩
theorem As.tupW {ts : List Expr} {k : Nat} {ps : List VP} (h : AsAll cx σ ts ps σ₁) : As cx σ (.Tuple ts k pos) (vTupW ps) σ₁ :=
  ⟨fun F s v ok ⟨a, o, vs, n, e, f, c, d, r⟩ Q E k => by
    subst e
    have ht : s.heap.IsTuple a vs.toArray := ⟨o, ok.inh _ _ f, c, n, d⟩
    refine wpAny_assign_Tuple ok.hh ht (by rw [h.len, List.size_toArray, r.length]) h.star fun h' hx => ?_
    exact h.run F _ vs (ok.keep (tk := s.toks) fun b ob e => hx b ob (fun q => by rw [q, get_size] at e; cases e) e) r Q E k⟩
/-- zip of two lists that stand -/
theorem EvIter.zip {x : PySem.Str} {np : Pos} {ea eb : Expr} {elts : List Expr} {kk : Nat} {tp : Pos} {ps qs : List VP} (hf : Ev cx σ (.Name x np) (vVal (.type "zip")) σ) (h : EvAll cx σ pos [ea, eb] [vList ps, vList qs] σ)
    (he : starEach [ea, eb] cx.env = (false, eval ea cx.env) :: starEach [eb] cx.env := by with_unfolding_all rfl) (hp : (backTo pos (starEach [eb] cx.env)).any (·.1) = false := by with_unfolding_all rfl) :
    EvIter cx σ (.Call (.Name x np) [ea, eb] [] pos) (.Tuple elts kk tp) (List.zipWith (fun p q => vTupW [p, q]) ps qs) [] σ where
  like := rfl
  vars := rfl
  sub := fun _ hm => (List.not_mem_nil hm).elim
  run := fun F s ok Q E k => wpAny_Call_Name_kw (hf.run F s ok _ _ fun v F₀ s₀ st₀ ok₀ r₀ => by
    cases r₀
    show wpAny _ _ (callWith pos (.type "zip") [] (backTo pos (starEach [ea, eb] cx.env)) []) _ _ s₀
    refine PyProof.Rows.callWith_type1 (h.run F₀ s₀ ok₀ _ _ fun args F₁ s₁ st₀₁ ok₁ rargs => ?_) he hp
    obtain ⟨v, u, rfl, ⟨a, o, vs, e1, f1, l1, r1⟩, ⟨b, o', us, e2, f2, l2, r2⟩⟩ := rargs.two
    have st₁ := st₀.trans st₀₁
    subst e1; subst e2
    have g1 := l1.isList (ok₁.inh _ _ f1)
    have g2 := l2.isList (ok₁.inh _ _ f2)
    refine call_zip_2 g1 g2 fun h' hz hTI hTO hi1 hi2 hsz hkeep => ?_
    generalize hm : s₁.heap.objs.size = m at *
    have la : @LT.lt Nat _ a m := hm ▸ Heap.lt_size (ok₁.inh _ _ f1)
    have lb : @LT.lt Nat _ b m := hm ▸ Heap.lt_size (ok₁.inh _ _ f2)
    have W := WalksT.zip2 (prog := cx.prog) (w := cx.w) (A := cx.A) ok₁.hh (m + 4) (m + 2) (m + 3) m (m + 1) a b (by constructor <;> (show (_ : Nat) ≠ _; first | lia | omega)) vs.toArray us.toArray
    have hlen : (List.zipWith (fun p q => vTupW [p, q]) ps qs).length = min vs.toArray.size us.toArray.size := by rw [List.length_zipWith, List.size_toArray, List.size_toArray, r1.length, r2.length]
    have J0 : (fun i h => IsZip h (m + 4) (m + 2) (m + 3) .none ∧ IsPair h (m + 2) (.ref m) (.ref (m + 1)) ∧ (∃ a b, IsPair h (m + 3) a b) ∧ h.IsListIter m a i ∧ h.IsListIter (m + 1) b i ∧ h.IsList a vs.toArray ∧ h.IsList b us.toArray) 0 h' := by
      refine ⟨hz, hTI, ⟨_, _, hTO⟩, hi1, hi2, ?_, ?_⟩
      · obtain ⟨n, rfl⟩ := l1; exact ⟨_, hkeep _ _ (ok₁.inh _ _ f1), rfl, n, rfl⟩
      · obtain ⟨n, rfl⟩ := l2; exact ⟨_, hkeep _ _ (ok₁.inh _ _ f2), rfl, n, rfl⟩
    generalize hS : (fun i h => IsZip h (m + 4) (m + 2) (m + 3) .none ∧ IsPair h (m + 2) (.ref m) (.ref (m + 1)) ∧ (∃ a b, IsPair h (m + 3) a b) ∧ h.IsListIter m a i ∧ h.IsListIter (m + 1) b i ∧ h.IsList a vs.toArray ∧ h.IsList b us.toArray) = Sw at *
    have hat : ∀ i h, Sw i h → ∀ c ∈ [m, m + 1, m + 2, m + 3, m + 4], ∃ o, h.get? c = some o := fun i h hsw c hc => by
      subst hS
      obtain ⟨z1, z2, ⟨_, _, z3⟩, ⟨_, z4, _⟩, ⟨_, z5, _⟩, _⟩ := hsw
      simp only [List.mem_cons, List.not_mem_nil, or_false] at hc
      rcases hc with rfl | rfl | rfl | rfl | rfl
      · exact ⟨_, z4⟩
      · exact ⟨_, z5⟩
      · exact ⟨_, z2⟩
      · exact ⟨_, z3⟩
      · exact ⟨_, z1⟩
    have J1 : Sw 0 h' := by rw [← hS]; exact J0
    refine W.self 0 _ _ _ J1 ?_
    refine k F₁ s₁ st₁ ok₁ (m + 4) [m, m + 1, m + 2, m + 3, m + 4] (fun i F h => Sw i h ∧ Sub F₁ F ∧ Inh F h) h' s₁.toks hkeep (fun c hc => by
        simp only [List.mem_cons, List.not_mem_nil, or_false] at hc
        rcases hc with h | h | h | h | h <;> (rw [h]; apply get_ge; show @LE.le Nat _ _ _; first | lia | omega)) (by simp) ?_ ⟨J1, .refl _, fun c o e => hkeep _ _ (ok₁.inh _ _ e)⟩
    have hsubs : ∀ c : Nat, c ∈ [m + 4, m + 3, m, m + 1] → c ∈ [m, m + 1, m + 2, m + 3, m + 4] := fun c q => by
      simp only [List.mem_cons, List.not_mem_nil, or_false] at q ⊢; first | lia | omega
    refine ⟨?_, fun i F h ⟨z, _⟩ c hc => hat i h z c hc, ?_, ?_, ?_⟩
    · rintro i F h F' h2 ⟨x1, x2, x3⟩ hs hi hn _ hmm
      refine ⟨W.frame i h h2 x1 fun c hc o e => ?_, x2.trans hs, hi⟩
      simp only [List.mem_cons, List.not_mem_nil, or_false] at hc
      rcases hc with rfl | rfl | rfl | rfl | rfl | rfl | rfl
      · exact hmm _ (by simp) o e
      · exact hmm _ (by simp) o e
      · exact hmm _ (by simp) o e
      · exact hmm _ (by simp) o e
      · exact hmm _ (by simp) o e
      · have h1 := x3 _ _ (x2 _ _ f1); rw [e] at h1; cases h1; exact hi _ _ (hs _ _ (x2 _ _ f1))
      · have h1 := x3 _ _ (x2 _ _ f2); rw [e] at h1; cases h1; exact hi _ _ (hs _ _ (x2 _ _ f2))
    · rintro i F s p N Q' E' hp hin ⟨x1, x2, x3⟩ hF kk2
      have hlt : i < min vs.toArray.size us.toArray.size := by rw [← hlen]; exact (List.getElem?_eq_some_iff.mp hp).1
      refine W.item i s _ E' hlt x1 fun T vals h₂ tk hv hT hTup hMid hk2 => ?_
      refine W.go _ _ _ i T _ _ E' hMid fun h₃ hS3 hk3 => ?_
      obtain ⟨x', y', e1, e2, rfl⟩ := hv
      obtain ⟨oT, gT, cT, nT, dT⟩ := hTup
      have apT : T ∉ [m + 4, m + 3, m, m + 1] := W.apart _ _ _ hMid
      have gT3 : h₃.get? T = some oT := hk3 _ _ apT gT
      have nT0 : s.heap.get? T = none := get_ge hT
      have keepAll : ∀ c o, c ∉ [m, m + 1, m + 2, m + 3, m + 4] → s.heap.get? c = some o → h₃.get? c = some o := fun c o hc e => by
        have hc' : c ∉ [m + 4, m + 3, m, m + 1] := fun q => hc (hsubs c q)
        exact hk3 _ _ hc' (hk2 _ _ hc' e)
      have hFT : F T = none := by cases q : F T with | none => rfl | some o => rw [hin _ _ q] at nT0; cases nT0
      have sb := FH.set_sub (o := oT) hFT
      have inh3 : Inh (F.set T oT) h₃ := fun c o q => by
        unfold FH.set at q
        by_cases z : c = T
        · subst z; simp at q; subst q; exact gT3
        · simp [z] at q
          exact keepAll c o (fun hm' => by rw [hF c hm'] at q; cases q) (hin _ _ q)
      have pnth : p = vTupW [ps[i]'(by have := r1.length; simp at hlt; first | lia | omega), qs[i]'(by have := r2.length; simp at hlt; first | lia | omega)] := by
        have hi1 : i < ps.length := by have := r1.length; simp at hlt; first | lia | omega
        have hi2 : i < qs.length := by have := r2.length; simp at hlt; first | lia | omega
        rw [List.getElem?_zipWith, List.getElem?_eq_getElem hi1, List.getElem?_eq_getElem hi2] at hp
        simpa using hp.symm
      have hi1 : i < ps.length := by have := r1.length; simp at hlt; first | lia | omega
      have hi2 : i < qs.length := by have := r2.length; simp at hlt; first | lia | omega
      obtain ⟨w1, hw1, rw1⟩ := r1.get (List.getElem?_eq_getElem hi1)
      obtain ⟨w2, hw2, rw2⟩ := r2.get (List.getElem?_eq_getElem hi2)
      have ex : w1 = x' := by have : vs[i]? = some x' := by simpa using e1
                              rw [hw1] at this; exact Option.some.inj this
      have ey : w2 = y' := by have : us[i]? = some y' := by simpa using e2
                              rw [hw2] at this; exact Option.some.inj this
      subst ex; subst ey
      refine kk2 (.ref T) (F.set T oT) _ ?_ ⟨hS3, x2.trans sb, inh3⟩ ⟨sb, inh3, fun c o e n => ?_, fun c o hc e => keepAll c o hc e, rfl, rfl⟩ fun c hc => ?_
      · rw [pnth]
        exact ⟨T, oT, [w1, w2], nT, rfl, FH.set_at .., cT, dT, .cons (VP.mono _ (x2.trans sb) rw1) (.cons (VP.mono _ (x2.trans sb) rw2) .nil)⟩
      · rw [FH.set_ne fun q => by rw [q, nT0] at e; cases e]; exact n
      · obtain ⟨o, e⟩ := hat i s.heap x1 c hc
        rw [FH.set_ne fun q => by rw [q, nT0] at e; cases e]; exact hF c hc
    · rintro F s Q' E' ⟨x1, x2, x3⟩ hin hF kk2
      rw [hlen] at x1
      exact W.done s Q' E' x1 fun h₂ tk hk2 => kk2 _ (.heap hin hF fun c o hc e => hk2 c o (fun q => hc (hsubs c q)) e)
    · rintro i F s Q' E' ⟨x1, _⟩ q
      exact W.self i s Q' E' x1 q)
/-- a comprehension by a pure function -/
noncomputable def nth {α : Type} (xs : List α) (d : β) (f : α → β) (k : Nat) : β := match xs[k]? with | some x => f x | none => d
theorem take_filter_map {α : Type} (xs : List α) (pb : α → Bool) (f : α → VP) (d : VP) (k : Nat) (hk : k < xs.length) :
    ((xs.take (k + 1)).filter pb).map f = if nth xs false pb k then ((xs.take k).filter pb).map f ++ [nth xs d f k] else ((xs.take k).filter pb).map f := by
  have e : xs[k]? = some xs[k] := List.getElem?_eq_getElem hk
  unfold nth
  rw [List.take_add_one, e]
  simp only [Option.toList, List.filter_append, List.map_append]
  cases h : pb xs[k] <;> simp [h]
section pureComp
variable {elt target iter : Expr} {ifs : List Expr} {scope : Scope} {cl : List (PySem.Str × Addr)} {cv : List (PySem.Str × VP)} {R0 : Res}
/-- one turn, by a pure function -/
noncomputable def PTurn (cx : Cx) (σ : St) (target elt : Expr) (ifs : List Expr) (p : VP) (b : Bool) (q : VP) : Prop :=
  ∃ σt, As cx σ target p σt ∧ σt.res = σ.res ∧ Ifs cx σt ifs b σt ∧ (b = true → Ev cx σt elt q σt)
theorem Ev.compP {α : Type} {lp : Pos} (xs : List α) (τ : α → VP) (pb : α → Bool) (f : α → VP) (hi : EvIter cx σ iter target (xs.map τ) R0 σ) (hseen : Seen cx σ scope cl cv) (hl : xs.length ≤ sizeLine)
    (turn : ∀ C F0 s0 W pv x, x ∈ xs → PTurn (cx.comp scope cl C F0 s0 W pv) { vars := cv, res := σ.res } target elt ifs (τ x) (pb x) (f x))
    (hs : ∀ x, foldedSetIterable iter cx.env x = pure x := by intro _; with_unfolding_all rfl) :
    Ev cx σ (.ListComp elt [⟨target, iter, ifs, 0⟩] scope lp) (vList ((xs.filter pb).map f)) σ := by
  have := Ev.comp (elt := elt) (ifs := ifs) (lp := lp) hi hseen (fun _ => σ.res) rfl (fun _ => rfl) (fun _ x hx => hi.sub x hx) (fun k => ((xs.take k).filter pb).map f) rfl (nth xs false pb) (nth xs vAny f)
    (fun k hk => take_filter_map xs pb f vAny k (by simpa using hk)) (fun k hk => ?_) (fun C F0 s0 W pv k p hp => ?_) hs
  · simpa using this
  · rw [List.length_map]
    exact Nat.le_trans (List.length_filter_le ..) (Nat.le_trans (List.length_take_le' ..) hl)
  · rw [List.getElem?_map] at hp
    obtain ⟨x, hx, rfl⟩ := Option.map_eq_some_iff.mp hp
    obtain ⟨σt, h1, h2, h3, h4⟩ := turn C F0 s0 W pv x (List.mem_of_getElem? hx)
    have e1 : nth xs false pb k = pb x := by unfold nth; rw [hx]
    have e2 : nth xs vAny f k = f x := by unfold nth; rw [hx]
    rw [e1, e2]
    exact ⟨σt, σt, h1, h2, h3, fun _ => h2, fun hb => ⟨σt, h4 hb, h2⟩⟩
theorem Exs.assignCompP {α : Type} {x : PySem.Str} {np lp : Pos} {rest : List Stmt} {vars' : List (PySem.Str × VP)} (xs : List α) (τ : α → VP) (pb : α → Bool) (f : α → VP) (hi : EvIter cx σ iter target (xs.map τ) R0 σ) (hseen : Seen cx σ scope cl cv) (hl : xs.length ≤ sizeLine)
    (turn : ∀ C F0 s0 W pv x, x ∈ xs → PTurn (cx.comp scope cl C F0 s0 W pv) { vars := cv, res := σ.res } target elt ifs (τ x) (pb x) (f x))
    (hput : Put cx σ x (vList ((xs.filter pb).map f)) vars') (h : Exs cx { vars := vars', res := σ.res } rest P)
    (hsw : swapsWith (.ListComp elt [⟨target, iter, ifs, 0⟩] scope lp) (some (.Name x np)) pos.line cx.env = pure true := by with_unfolding_all rfl)
    (hs : ∀ x, foldedSetIterable iter cx.env x = pure x := by intro _; with_unfolding_all rfl) :
    Exs cx σ (.Assign [.Name x np] (.ListComp elt [⟨target, iter, ifs, 0⟩] scope lp) pos :: rest) P := by
  refine Exs.assignComp (elt := elt) (ifs := ifs) (lp := lp) hi hseen (fun _ => σ.res) rfl (fun _ => rfl) (fun _ x hx => hi.sub x hx) (fun k => ((xs.take k).filter pb).map f) rfl (nth xs false pb) (nth xs vAny f)
    (fun k hk => take_filter_map xs pb f vAny k (by simpa using hk)) (fun k hk => ?_) (fun C F0 s0 W pv k p hp => ?_) ?_ h hsw hs
  · rw [List.length_map]
    exact Nat.le_trans (List.length_filter_le ..) (Nat.le_trans (List.length_take_le' ..) hl)
  · rw [List.getElem?_map] at hp
    obtain ⟨x, hx, rfl⟩ := Option.map_eq_some_iff.mp hp
    obtain ⟨σt, h1, h2, h3, h4⟩ := turn C F0 s0 W pv x (List.mem_of_getElem? hx)
    have e1 : nth xs false pb k = pb x := by unfold nth; rw [hx]
    have e2 : nth xs vAny f k = f x := by unfold nth; rw [hx]
    rw [e1, e2]
    exact ⟨σt, σt, h1, h2, h3, fun _ => h2, fun hb => ⟨σt, h4 hb, h2⟩⟩
  · simpa using hput
end pureComp
end Mine
namespace Mine
open PySem PySem.W PySem.Calls PyProof.Rows Builtin Builtin.Str Builtin.Int
variable {cx : Cx} {σ σ₁ σ₂ σ₃ : St} {pos : Pos} {P P' : Out → Prop}
/-- every second from k on -/
noncomputable def sl2 {α : Type} (l : List α) (k : Nat) : List α := (List.range ((l.length + 1 - k) / 2)).filterMap fun i => l[k + 2 * i]?
theorem sl2_map {α β : Type} (f : α → β) (l : List α) (k : Nat) : sl2 (l.map f) k = (sl2 l k).map f := by
  unfold sl2
  rw [List.length_map, List.map_filterMap]
  congr 1
  funext i
  rw [List.getElem?_map]
theorem Rds.picks {F : FH} {ps : List VP} {vs : List Value} (h : Rds F ps vs) (g : Nat → Nat) : ∀ is : List Nat, Rds F (is.filterMap fun i => ps[g i]?) (is.filterMap fun i => vs[g i]?)
  | [] => .nil
  | i :: is => by
    cases e : ps[g i]? with
    | none =>
      have e' : vs[g i]? = none := by
        rw [List.getElem?_eq_none_iff] at e ⊢
        rw [h.length]; exact e
      simp only [List.filterMap_cons, e, e']; exact h.picks g is
    | some p =>
      obtain ⟨v, e', r⟩ := h.get e
      simp only [List.filterMap_cons, e, e']; exact .cons r (h.picks g is)
theorem Rds.sl2 {F : FH} {ps : List VP} {vs : List Value} (h : Rds F ps vs) (k : Nat) : Rds F (sl2 ps k) (sl2 vs k) := by
  unfold Mine.sl2
  rw [h.length]; exact h.picks _ _
theorem pick2 (vs : List Value) (k : Nat) (hk : k ≤ vs.length) (hz : vs.length ≤ sizeLine) : slicePick vs.toArray (some (k : Int)) none (some 2) = (sl2 vs k).toArray := by
  have hb : sliceBounds (some (k : Int)) none (some 2) vs.length = ((k : Int), (vs.length : Int), 2) := by
    unfold sliceBounds
    have e1 : ¬ (k : Int) < 0 := by first | lia | omega
    have e2 : max 0 (min (k : Int) (vs.length : Int)) = k := by first | lia | omega
    simp only [Option.getD_some, e1, if_false, show ((2 : Int) > 0) = True from eq_true (by decide), if_true, e2]
  unfold slicePick
  rw [List.size_toArray, hb]
  have hr : sliceRange (k : Int) (vs.length : Int) 2 = (List.range ((vs.length + 1 - k) / 2)).map fun i => k + 2 * i := by
    unfold sliceRange
    simp only [show ((2 : Int) > 0) = True from eq_true (by decide), if_true]
    have e3 : (if (k : Int) < (vs.length : Int) then ((vs.length : Int) - k + 2 - 1) / 2 else 0).toNat = (vs.length + 1 - k) / 2 := by
      split <;> first | lia | omega
    rw [e3]
    apply List.map_congr_left
    intro i _
    first | lia | omega
  show ((sliceRange (k : Int) (vs.length : Int) 2).filterMap (vs.toArray[·]?)).toArray = _
  rw [hr, List.filterMap_map]
  unfold sl2
  congr 1
  congr 1
  funext i
  simp
theorem EvN.slStep {value : Expr} {p : Pos} {lo st : Expr} {k : Nat} {ps : List VP} (hv : Ev cx σ value (vSrcW σ ps) σ) (hlo : EvPt cx σ (some lo) (some (k : Int))) (hst : EvPt cx σ (some st) (some 2)) (hk : k ≤ ps.length) (hsz : ps.length ≤ sizeLine) :
    EvN cx σ (.Subscript value (.Slice (some lo) none (some st) p) pos) (sl2 ps k) σ where
  like := rfl
  vars := rfl
  run := fun F s ok Q E kk => Subscript_ (hv.run F s ok _ _ fun v F₁ s₁ st₁ ok₁ r₁ => wpAny_Slice (hlo.run F₁ s₁ ok₁ _ _ fun vl F₂ s₂ st₂ ok₂ r₂ => by
    rw [evalPart_none]
    refine wpAny_pure ?_
    refine hst.run F₂ s₂ ok₂ _ _ fun vu F₃ s₃ st₃ ok₃ r₃ => ?_
    obtain ⟨a, vs, rfl, hL, rv⟩ := LstW.items ((vSrcW σ ps).mono (st₂.sub.trans st₃.sub) r₁) ok₃
    refine slice_tail (hL.push _).typeIs list_getitem_lookup (wpAny_getItem_list_slice (hL.push _) (.new ..) (vPart.is r₂) .none (vPart.is r₃) (by decide) ?_ (by rw [List.size_toArray, rv.length]; exact hsz)) ⟨_, rfl⟩
    refine kk F₃ s₃ (st₁.trans (st₂.trans st₃)) ok₃ _ _ (sl2 vs k) _ _ (fun b ob e => Heap.get?_push_of_some _ (Heap.get?_push_of_some _ e)) ?_ (Heap.get?_push_size _ rfl) ⟨0, ?_⟩ (rv.sl2 k)
    · exact get_ge (by rw [Heap.size_push]; exact Nat.le_succ _)
    · rw [pick2 vs k (by rw [rv.length]; exact hk) (by rw [rv.length]; exact hsz)]))
/-- values that are data -/
structure VD (p : VP) (d : PyData) : Prop where
  reads : ∀ F v h, p.rd F v → Inh F h → ∃ as, Reads h v d as
theorem vd_int (i : Int) : VD (vInt i) (.int i) := ⟨fun F v h ⟨t, e⟩ _ => ⟨[], by rw [e]; exact .int i t⟩⟩
theorem vd_bool (b : Bool) : VD (vBool b) (.bool b) := ⟨fun F v h e _ => ⟨[], by rw [show v = Value.bool b from e]; exact .bool b⟩⟩
theorem vd_str (x : List Nat) : VD (vStr x) (.str (L2S x)) := ⟨fun F v h ⟨t, e⟩ _ => ⟨[], by rw [e]; exact .str _ t⟩⟩
inductive VDs : List VP → List PyData → Prop
  | nil : VDs [] []
  | cons {p d ps ds} : VD p d → VDs ps ds → VDs (p :: ps) (d :: ds)
theorem VDs.reads {ps ds} (h : VDs ps ds) : ∀ {F : FH} {vs : List Value} {hp : Heap}, Rds F ps vs → Inh F hp → ∃ as, ReadsAll hp vs ds as := by
  induction h with
  | nil => intro F vs hp r hi; cases r; exact ⟨_, .nil⟩
  | cons a b ih =>
    intro F vs hp r hi
    cases r with
    | cons r1 r2 =>
      obtain ⟨as, x⟩ := a.reads _ _ _ r1 hi
      obtain ⟨bs, y⟩ := ih r2 hi
      exact ⟨_, .cons x y⟩
theorem VDs.map {α : Type} (f : α → VP) (g : α → PyData) (h : ∀ x, VD (f x) (g x)) : ∀ l : List α, VDs (l.map f) (l.map g)
  | [] => .nil
  | x :: l => .cons (h x) (VDs.map f g h l)
theorem vd_list {ps ds} (h : VDs ps ds) : VD (vList ps) (.list ds) := ⟨fun F v hp ⟨a, o, vs, e, f, ⟨n, l⟩, r⟩ hi => by
  subst e; subst l
  obtain ⟨as, x⟩ := h.reads r hi
  exact ⟨_, .list (hi _ _ f) rfl rfl (by simpa using x)⟩⟩
theorem vd_tup {ps ds} (h : VDs ps ds) : VD (vTup ps) (.tuple ds) := ⟨fun F v hp ⟨a, o, vs, e, f, ⟨n, l⟩, r⟩ hi => by
  subst e; subst l
  obtain ⟨as, x⟩ := h.reads r hi
  exact ⟨_, .tuple (hi _ _ f) rfl rfl (by simpa using x)⟩⟩
/-- data in a state -/
noncomputable def SD (cx : Cx) (σ : St) (p : VP) (d : PyData) : Prop := ∀ F s v, StOK cx F s σ → p.rd F v → ∃ as, Reads s.heap v d as
theorem VD.sd {p d} (h : VD p d) : SD cx σ p d := fun F s v ok r => h.reads F v _ r ok.inh
theorem sd_src {ps ds} (h : VDs ps ds) : SD cx σ (vSrcW σ ps) (.list ds) := fun F s v ok r => by
  obtain ⟨a, vs, rfl, ⟨o, g, c, n, d⟩, rv⟩ := LstW.items r ok
  obtain ⟨as, x⟩ := h.reads rv ok.inh
  exact ⟨_, .list g c d (by simpa using x)⟩
theorem Tst.eqD {a b : Expr} {p q : VP} {d e : PyData} (ha : Ev cx σ a p σ) (hb : Ev cx σ b q σ) (hp : SD cx σ p d) (hq : SD cx σ q e) (h1 : SeqAt.shaped d = true) (h2 : SeqAt.shaped e = true) (hu : cx.A.units + 64 < cLine) (hm : behindInMarks .Eq b = false := by with_unfolding_all rfl) :
    Tst cx σ (.Compare a [.Eq] [b] pos) (PyData.eqv d e) σ := .cmp ha hb hm fun F s v u ok r1 r2 => by
  obtain ⟨as, x⟩ := hp F s v ok r1
  obtain ⟨bs, y⟩ := hq F s u ok r2
  exact fun Q E k => eq_dataH x y h1 h2 hu (k _ F _ (.refl ok.inh) rfl)
theorem Tst.neD {a b : Expr} {p q : VP} {d e : PyData} (ha : Ev cx σ a p σ) (hb : Ev cx σ b q σ) (hp : SD cx σ p d) (hq : SD cx σ q e) (h1 : SeqAt.shaped d = true) (h2 : SeqAt.shaped e = true) (hu : cx.A.units + 64 < cLine) (hm : behindInMarks .NotEq b = false := by with_unfolding_all rfl) :
    Tst cx σ (.Compare a [.NotEq] [b] pos) (!PyData.eqv d e) σ := .cmp ha hb hm fun F s v u ok r1 r2 => by
  obtain ⟨as, x⟩ := hp F s v ok r1
  obtain ⟨bs, y⟩ := hq F s u ok r2
  exact fun Q E k => ne_dataH x y h1 h2 hu (k _ F _ (.refl ok.inh) rfl)
theorem Ev.eqD {a b : Expr} {p q : VP} {d e : PyData} (ha : Ev cx σ a p σ) (hb : Ev cx σ b q σ) (hp : SD cx σ p d) (hq : SD cx σ q e) (h1 : SeqAt.shaped d = true) (h2 : SeqAt.shaped e = true) (hu : cx.A.units + 64 < cLine) (hm : behindInMarks .Eq b = false := by with_unfolding_all rfl) :
    Ev cx σ (.Compare a [.Eq] [b] pos) (vBool (PyData.eqv d e)) σ := .cmp ha hb hm fun F s v u ok r1 r2 => by
  obtain ⟨as, x⟩ := hp F s v ok r1
  obtain ⟨bs, y⟩ := hq F s u ok r2
  exact fun Q E k => eq_dataH x y h1 h2 hu (k _ F _ (.refl ok.inh) rfl)
/-- kinds of data -/
structure DK {α : Type} [DecidableEq α] (enc : α → PyData) (n : Nat) : Prop where
  inj : ∀ a b, PyData.eqv (enc a) (enc b) = decide (a = b)
  dep : ∀ a, (enc a).depth ≤ n
theorem eqvAll_map {α : Type} [DecidableEq α] {enc : α → PyData} {n : Nat} (h : DK enc n) : ∀ xs ys : List α, PyData.eqvAll (xs.map enc) (ys.map enc) = decide (xs = ys)
  | [], [] => rfl
  | [], _ :: _ => by simp [PyData.eqvAll]
  | _ :: _, [] => by simp [PyData.eqvAll]
  | x :: xs, y :: ys => by
    simp only [List.map_cons, PyData.eqvAll, h.inj, eqvAll_map h xs ys]
    simp [Bool.decide_and]
theorem depthAll_map {α : Type} [DecidableEq α] {enc : α → PyData} {n : Nat} (h : DK enc n) : ∀ xs : List α, PyData.depthAll (xs.map enc) ≤ n
  | [] => by simp [PyData.depthAll]
  | x :: xs => by
    simp only [List.map_cons, PyData.depthAll]
    exact Nat.max_le.mpr ⟨h.dep x, depthAll_map h xs⟩
theorem dk_int : DK (fun i : Int => PyData.int i) 0 := ⟨fun a b => by simp only [PyData.eqv]; rfl, fun a => by simp [PyData.depth]⟩
theorem dk_bool : DK (fun i : Bool => PyData.bool i) 0 := ⟨fun a b => by simp only [PyData.eqv]; cases a <;> cases b <;> rfl, fun a => by simp [PyData.depth]⟩
theorem L2S_inj {x y : List Nat} : L2S x = L2S y ↔ x = y := ⟨fun e => by have := congrArg S2 e; unfold S2 at this; rw [L2S_toList, L2S_toList] at this; exact this, fun e => by rw [e]⟩
theorem dk_str : DK (fun x : List Nat => PyData.str (L2S x)) 0 := ⟨fun a b => by
  simp only [PyData.eqv]
  rw [Bool.eq_iff_iff, beq_iff_eq, decide_eq_true_iff]
  exact L2S_inj, fun a => by simp [PyData.depth]⟩
theorem dk_list {α : Type} [DecidableEq α] {enc : α → PyData} {n : Nat} (h : DK enc n) : DK (fun xs : List α => PyData.list (xs.map enc)) (n + 1) :=
  ⟨fun a b => by simp only [PyData.eqv]; exact eqvAll_map h a b, fun a => by simp only [PyData.depth]; exact Nat.succ_le_succ (depthAll_map h a)⟩
theorem canAll_map {α : Type} {enc : α → PyData} : ∀ {xs : List α}, (∀ x ∈ xs, (enc x).canLay0 = true) → PyData.canLayAll0 (xs.map enc) = true
  | [], _ => rfl
  | x :: xs, h => by
    simp only [List.map_cons, PyData.canLayAll0, Bool.and_eq_true]
    exact ⟨h x (by simp), canAll_map fun y hy => h y (List.mem_cons_of_mem _ hy)⟩
theorem shaped_list {α : Type} [DecidableEq α] {enc : α → PyData} {n : Nat} (h : DK enc n) (hn : n < 64) {xs : List α} (hx : ∀ x ∈ xs, (enc x).canLay0 = true) : SeqAt.shaped (.list (xs.map enc)) = true := by
  unfold SeqAt.shaped
  rw [Bool.and_eq_true, decide_eq_true_iff]
  refine ⟨by simp only [PyData.canLay0]; exact canAll_map hx, ?_⟩
  simp only [PyData.depth]
  have := depthAll_map h xs
  first | lia | omega
theorem shaped_of {α : Type} [DecidableEq α] {enc : α → PyData} {n : Nat} (h : DK enc n) (hn : n ≤ 64) {x : α} (hx : (enc x).canLay0 = true) : SeqAt.shaped (enc x) = true := by
  unfold SeqAt.shaped
  rw [Bool.and_eq_true, decide_eq_true_iff]
  exact ⟨hx, Nat.le_trans (h.dep x) hn⟩
/-- texts whose signs are signs -/
noncomputable def okS (x : List Nat) : Prop := ∀ c ∈ x, c < 1114112
theorem can_str {x : List Nat} (h : okS x) : (PyData.str (L2S x)).canLay0 = true := by
  simp only [PyData.canLay0, L2S]
  unfold PyData.strOk
  rw [Array.all_eq_true']
  intro c hc
  simpa using h c (by simpa using hc)
end Mine
namespace Mine
open PySem PySem.W PySem.Calls PyProof.Rows Builtin Builtin.Str Builtin.Int
variable {cx : Cx} {σ σ₁ σ₂ σ₃ : St} {pos : Pos} {P P' : Out → Prop}
/-- room for calls -/
structure Room (A : Around) (d : Nat) : Prop where
  hh : A.handled = none
  depth : A.depth + d ≤ 990
  units : A.units + 10 * d ≤ 9800
theorem Room.le {A : Around} {d e : Nat} (h : Room A d) (l : e ≤ d) : Room A e := ⟨h.hh, by have := h.depth; first | lia | omega, by have := h.units; first | lia | omega⟩
theorem Room.in_ {A : Around} {d : Nat} {env : Env} (h : Room A (d + 1)) : Room (A.deeper env) d := ⟨h.hh, by have := h.depth; show A.depth + 1 + d ≤ 990; first | lia | omega, by have := h.units; show A.units + 3 + 10 * d ≤ 9800; first | lia | omega⟩
/-- a def's contract -/
noncomputable def FnR (prog : Program) (w : World) (g : Heap) (f : Value) (d : Nat) (ps : List VP) (R : Res) (P : VP → Res → Prop) : Prop :=
  ∀ A F s vs, Room A d → (∀ b o, g.get? b = some o → F b = some o) → Inh F s.heap → ResOK F s.heap R → Rds F ps vs →
    ∀ (RR : Result → Shared → Prop), (∀ v F' s' p R', P p R' → Step R.has F s F' s' → p.rd F' v → ResOK F' s'.heap R' → (∀ a, R'.has a → R.has a ∨ s.heap.get? a = none) → RR (.ok (.ret v)) s') →
      codeAny (model prog w) A (.call f ⟨vs, []⟩) RR s
/-- a def that gives one value -/
noncomputable def FnD (prog : Program) (w : World) (g : Heap) (f : Value) (d : Nat) (ps : List VP) (R : Res) (p : VP) (R' : Res) : Prop := FnR prog w g f d ps R fun q S => q = p ∧ S = R'
theorem FnR.le {prog : Program} {w : World} {g : Heap} {f : Value} {d e : Nat} {ps : List VP} {R : Res} {P : VP → Res → Prop} (h : FnR prog w g f d ps R P) (l : d ≤ e) : FnR prog w g f e ps R P :=
  fun A F s vs r => h A F s vs (r.le l)
/-- how a body ends -/
noncomputable def FnOut (P : VP → Res → Prop) : Out → Prop
  | .rt p R => ∃ R', R'.Sublist R ∧ P p R'
  | .nx σ => ∃ R', R'.Sublist σ.res ∧ P (vVal .none) R'
  | _ => False
/-- a function of the text -/
structure IsFn (K : Frag) (a : Addr) (fd : FuncData) (body : List Stmt) : Prop where
  obj : ∃ o, K.lookup a = some o ∧ o.data = .func fd
  body : fd.body = .stmts body
  code : codeIn K fd.code fd.qualname = true
  glob : fd.globals = mainGlobals
  bltn : fd.builtins = builtinsNs
  clos : fd.closure = []
  kind : fd.scope.kind = .function
  co : fd.scope.isCoroutine = false
  gen : fd.scope.isGenerator = false
  nocell : ∀ x ∈ fd.scope.names, x.2 ≠ .cell
/-- within a function's body -/
noncomputable def fnCx (prog : Program) (w : World) (A : Around) (g : Heap) (fd : FuncData) (L a : Addr) (F : FH) (s : Shared) (R : Res) : Cx :=
  { prog := prog, w := w, A := A.deeper (callEnv fd L a), env := callEnv fd L a, g := g, F0 := F, s0 := s, W := R.has, own := true, priv := [] }
theorem mem_lookup_nodup {x : PySem.Str} {v : Value} : ∀ {l : List (PySem.Str × Value)}, (l.map (·.1)).Nodup → (x, v) ∈ l → l.lookup x = some v
  | [], _, h => by simp at h
  | (n, u) :: l, hn, h => by
    rcases List.mem_cons.mp h with e | h
    · cases e; simp [List.lookup]
    · have hne : x ≠ n := fun q => (List.nodup_cons.mp hn).1 (by have hm : x ∈ l.map (·.1) := List.mem_map.mpr ⟨_, h, rfl⟩; rw [q] at hm; exact hm)
      rw [List.lookup_cons, show (x == n) = false from by simpa using hne]
      exact mem_lookup_nodup (List.nodup_cons.mp hn).2 h
theorem zip_fst {α : Type} : ∀ {names : List PySem.Str} {vs : List α}, names.length = vs.length → (names.zip vs).map (·.1) = names
  | [], _, _ => by simp
  | n :: ns, [], h => by cases h
  | n :: ns, v :: vs, h => by
    rw [List.zip_cons_cons, List.map_cons, zip_fst (by simpa using h)]
theorem FnR.of_body {prog : Program} {w : World} {K : Frag} {g : Heap} {a : Addr} {fd : FuncData} {body : List Stmt} {names : List PySem.Str} {d : Nat} {ps : List VP} {R : Res} {P : VP → Res → Prop} (G : Grd K g) (fn : IsFn K a fd body)
    (hb : ∀ vs : List Value, vs.length = names.length → bindArgs fd ⟨vs, []⟩ = pure (names.zip vs)) (hl : ∀ x ∈ names, fd.scope.names.lookup x = some .local) (hn : names.Nodup) (hlen : names.length = ps.length)
    (h : ∀ A F s L, Room A (d + 1) → Exs (fnCx prog w A g fd L a F s R) { vars := names.zip ps, res := R } body (FnOut P)) : FnR prog w g (.ref a) (d + 1) ps R P := by
  intro A F s vs rm hg hi hR hr RR k
  obtain ⟨o, ho, hd⟩ := fn.obj
  obtain ⟨p, loose, mg, mb, T⟩ := G.T
  have hgs : ∀ b o, g.get? b = some o → s.heap.get? b = some o := fun b o e => hi _ _ (hg b o e)
  have hvl : vs.length = names.length := by rw [hr.length, hlen]
  refine codeAny_call_def (binds := names.zip vs) (by have := rm.depth; unfold recursionLimit; first | lia | omega) (hgs _ _ (G.X _ _ ho)) hd (let ⟨mc, n1, n2⟩ := T.nolimit; ⟨mc, n1.keeps hgs, n2⟩) (codeRec_of (G.X.keeps hgs) fn.code) fn.body (BindsTo.of_eq (hb vs hvl)) fn.nocell (fun x hx => hl x.1 (List.of_mem_zip hx).1) (fun h₀ hns hk => ?_) fn.co fn.gen fn.kind
  generalize hLe : s.heap.objs.size = L at hns ⊢
  have nL : s.heap.get? L = none := hLe ▸ get_size _
  have st : Step R.has F s F { s with heap := h₀, toks := s.toks + (names.zip vs).length } := .heap hi hk
  have cells0 : (callEnv fd L a).cells = [] := by show fd.closure = []; exact fn.clos
  have ok : StOK (fnCx prog w A g fd L a F s R) F { s with heap := h₀, toks := s.toks + (names.zip vs).length } { vars := names.zip ps, res := R } := by
    refine { base := st, gF := hg, hh := rm.hh, kind := fn.kind, glob := fn.glob, bltn := fn.bltn, ns := ⟨_, hns⟩, newL := nL, locF := none_of_fresh hi nL, locR := ?_, cells := fun y c hm => ?_, apart := ?_, newC := fun _ y c hm => ?_, vars := fun x p hm => ?_, res := ?_, resW := fun a ha => .inl ha, locW := ?_, cellW := fun y c hm => ?_, nd := ?_, priv := fun _ _ hm => (List.not_mem_nil hm).elim }
    · intro q
      obtain ⟨⟨b, c⟩, hm, rfl⟩ := List.mem_map.mp q
      obtain ⟨ob, e⟩ := (hR.ok b c hm).ex
      have : s.heap.get? b = none := nL
      rw [this] at e; cases e
    · have hm' : (y, c) ∈ (callEnv fd L a).cells := hm
      rw [cells0] at hm'; exact (List.not_mem_nil hm').elim
    · show (callEnv fd L a).cells.Pairwise _
      rw [cells0]; exact .nil
    · have hm' : (y, c) ∈ (callEnv fd L a).cells := hm
      rw [cells0] at hm'; exact (List.not_mem_nil hm').elim
    · have hx : x ∈ names := (List.of_mem_zip hm).1
      obtain ⟨i, hi', hv⟩ : ∃ i : Nat, names[i]? = some x ∧ ps[i]? = some p := by
        obtain ⟨i, hi'⟩ := List.getElem?_of_mem hm
        rw [List.getElem?_zip_eq_some] at hi'
        exact ⟨i, hi'⟩
      obtain ⟨v, hv2, r⟩ := hr.get hv
      refine ⟨v, .inl ⟨hl x hx, _, hns, ?_⟩, r⟩
      have hmem : (x, v) ∈ names.zip vs := List.mem_of_getElem? (i := i) (by rw [List.getElem?_zip_eq_some]; exact ⟨hi', hv2⟩)
      refine mem_lookup_nodup ?_ (List.mem_reverse.mpr hmem)
      rw [List.map_reverse, zip_fst hvl.symm]; exact List.pairwise_reverse.mpr (hn.imp fun h => Ne.symm h)
    · exact hR.step (Step.heap (W := fun _ => False) hi hk) fun _ _ q => q
    · intro q
      obtain ⟨⟨b, c⟩, hm, rfl⟩ := List.mem_map.mp q
      obtain ⟨ob, e⟩ := (hR.ok b c hm).ex
      have : s.heap.get? b = none := nL
      rw [this] at e; cases e
    · have hm' : (y, c) ∈ (callEnv fd L a).cells := hm
      rw [cells0] at hm'; exact (List.not_mem_nil hm').elim
    · show ((names.zip ps).map (·.1)).Nodup
      rw [zip_fst hlen]; exact hn
  refine h A F s L rm F _ ok _ _ fun f F' s' o sb oo po => ?_
  cases o with
  | nx σ' => cases f with
    | next =>
      obtain ⟨R', hs, hp⟩ := po
      exact k .none F' s' _ R' hp oo.base rfl (oo.res.sub hs) fun b hb => oo.resW b (Sub.has hs hb)
    | _ => exact oo.elim
  | rt p R1 => cases f with
    | ret v =>
      obtain ⟨R', hs, hp⟩ := po
      exact k v F' s' p R' hp oo.1 oo.2.1 (oo.2.2.1.sub hs) fun b hb => oo.2.2.2 b (Sub.has hs hb)
    | _ => exact oo.elim
  | bk σ' => exact po.elim
  | ct σ' => exact po.elim
/-- a part of the owned cells turned by a call -/
inductive Upd : Res → Res → Res → Res → Prop
  | nil : Upd [] [] [] []
  | skip {R R' l l' x} : Upd R R' l l' → Upd R R' (x :: l) (x :: l')
  | take {R R' l l' a c c'} : Upd R R' l l' → Upd ((a, c) :: R) ((a, c') :: R') ((a, c) :: l) ((a, c') :: l')
theorem Upd.none : ∀ l : Res, Upd [] [] l l
  | [] => .nil
  | _ :: l => .skip (Upd.none l)
theorem Upd.like {R R' l l'} (h : Upd R R' l l') : l'.map (·.1) = l.map (·.1) := by
  induction h with
  | nil => rfl
  | skip _ ih => simp [ih]
  | take _ ih => simp [ih]
theorem Upd.sub {R R' l l'} (h : Upd R R' l l') : R.Sublist l := by
  induction h with
  | nil => exact .slnil
  | skip _ ih => exact ih.cons _
  | take _ ih => exact ih.cons_cons _
theorem Upd.sub' {R R' l l'} (h : Upd R R' l l') : R'.Sublist l' := by
  induction h with
  | nil => exact .slnil
  | skip _ ih => exact ih.cons _
  | take _ ih => exact ih.cons_cons _
theorem Upd.out {R R' l l'} (h : Upd R R' l l') : (l.map (·.1)).Nodup → ∀ a c, (a, c) ∈ l' → (a, c) ∈ R' ∨ ((a, c) ∈ l ∧ ¬ R.has a) := by
  induction h with
  | nil => intro _ a c hm; exact (List.not_mem_nil hm).elim
  | skip h ih =>
    rename_i R R' l l' x
    intro hn a c hm
    rw [List.map_cons] at hn
    rcases List.mem_cons.mp hm with e | hm
    · refine .inr ⟨e ▸ List.mem_cons_self, fun q => ?_⟩
      have hq : a ∈ l.map (·.1) := (h.sub.map (·.1)).subset q
      exact (List.nodup_cons.mp hn).1 (by rw [← e]; exact hq)
    · rcases ih (List.nodup_cons.mp hn).2 a c hm with q | ⟨q1, q2⟩
      · exact .inl q
      · exact .inr ⟨List.mem_cons_of_mem _ q1, q2⟩
  | take h ih =>
    rename_i R R' l l' b d d'
    intro hn a c hm
    rw [List.map_cons] at hn
    rcases List.mem_cons.mp hm with e | hm
    · cases e; exact .inl List.mem_cons_self
    · rcases ih (List.nodup_cons.mp hn).2 a c hm with q | ⟨q1, q2⟩
      · exact .inl (List.mem_cons_of_mem _ q)
      · refine .inr ⟨List.mem_cons_of_mem _ q1, fun q => ?_⟩
        unfold Res.has at q
        rw [List.map_cons] at q
        rcases List.mem_cons.mp q with e | q
        · exact (List.nodup_cons.mp hn).1 (by rw [← show a = b from e]; exact List.mem_map.mpr ⟨_, q1, rfl⟩)
        · exact q2 q
/-- the state behind a call -/
theorem StOK.called {F s F' s'} (ok : StOK cx F s σ) {R R' res' : Res} (up : Upd R R' σ.res res') (st : Step R.has F s F' s') (hr : ResOK F' s'.heap R') : Step σ.res.has F s F' s' ∧ StOK cx F' s' { vars := σ.vars, res := res' } := by
  have st' : Step σ.res.has F s F' s' := st.weaken fun a q => Sub.has up.sub q
  refine ⟨st', ok.step (σ' := { vars := σ.vars, res := res' }) st' rfl ⟨fun a c hm => ?_, fun a c hm => ?_, ?_⟩ up.like⟩
  · rcases up.out ok.res.nodup a c hm with q | ⟨q1, q2⟩
    · exact hr.ok a c q
    · exact CellOK.mono st.sub ((ok.res.ok a c q1).at fun o e => st.keep a o q2 e)
  · rcases up.out ok.res.nodup a c hm with q | ⟨q1, q2⟩
    · exact hr.off a c q
    · obtain ⟨o, e⟩ := (ok.res.ok a c q1).ex
      exact st.fresh a o e (ok.res.off a c q1)
  · show (res'.map (·.1)).Nodup
    rw [up.like]; exact ok.res.nodup
theorem evalArgs_all {e : Expr} {rest : List Expr} {env : Env} {f : Value} {M : Model} {A : Around} {E : Value → Shared → Prop} {s : Shared} {Q : Args → Shared → Prop} (h : wpAny M A (spliced (backTo pos (starEach (e :: rest) env))) (fun vs s' => Q ⟨vs, []⟩ s') E s)
    (he : starEach (e :: rest) env = (false, eval e env) :: starEach rest env) : wpAny M A (evalArgs f true (backTo pos (starEach (e :: rest) env)) []) Q E s := by
  rw [he] at h ⊢
  exact evalArgs_plain h
/-- a call of a def by its name -/
theorem Ev.callF {x : PySem.Str} {np : Pos} {a : Addr} {e : Expr} {rest : List Expr} {K : Frag} {fd : FuncData} {body : List Stmt} {d : Nat} {ps : List VP} {R R' res' : Res} {p : VP} (G : Grd K cx.g) (fn : IsFn K a fd body) (hf : Ev cx σ (.Name x np) (vVal (.ref a)) σ)
    (ha : EvAll cx σ pos (e :: rest) ps σ₁) (hc : FnD cx.prog cx.w cx.g (.ref a) d ps R p R') (rm : Room cx.A d) (up : Upd R R' σ₁.res res')
    (he : starEach (e :: rest) cx.env = (false, eval e cx.env) :: starEach rest cx.env := by with_unfolding_all rfl) :
    Ev cx σ (.Call (.Name x np) (e :: rest) [] pos) p { vars := σ₁.vars, res := res' } where
  like := up.like.trans ha.like
  vars := ha.vars
  run := fun F s ok Q E k => wpAny_Call_Name_kw (hf.run F s ok _ _ fun v F₁ s₁ st₁ ok₁ r₁ => by
    cases r₁
    show wpAny _ _ (callWith pos (.ref a) [] (backTo pos (starEach (e :: rest) cx.env)) []) Q E s₁
    obtain ⟨o, ho, hd⟩ := fn.obj
    refine callWith_function (o := o) (fd := fd) ?_
    refine evalArgs_all (ha.run F₁ s₁ ok₁ _ _ fun vs F₂ s₂ st₂ ok₂ r₂ => ?_) he
    refine ⟨⟨ok₂.g _ _ (G.X _ _ ho), hd⟩, wpAny_call (hc cx.A F₂ s₂ vs rm ok₂.gF ok₂.inh (ok₂.res.sub up.sub) r₂ _ fun v F₃ s₃ q S ⟨e1, e2⟩ st₃ r₃ hr₃ _ => ?_)⟩
    subst e1; subst e2
    obtain ⟨st', ok₃⟩ := ok₂.called up st₃ hr₃
    exact k v F₃ s₃ (st₁.trans (st₂.trans (has_like ha.like ▸ st'))) ok₃ r₃)
end Mine
namespace Mine
open PySem PySem.W PySem.Calls PyProof.Rows Builtin Builtin.Str Builtin.Int
variable {cx : Cx} {σ σ₁ σ₂ σ₃ : St} {pos : Pos} {P P' : Out → Prop}
inductive At (x : PySem.Str) (p : VP) : List (PySem.Str × VP) → Prop
  | here {l} : At x p ((x, p) :: l)
  | there {y q l} : At x p l → At x p ((y, q) :: l)
theorem At.hereE {x : PySem.Str} {p q : VP} {l : List (PySem.Str × VP)} (h : p = q) : At x p ((x, q) :: l) := h ▸ .here
theorem At.mem {x p} : ∀ {l}, At x p l → (x, p) ∈ l
  | _, .here => by simp
  | _, .there h => List.mem_cons_of_mem _ h.mem
theorem Ev.nm {x : PySem.Str} {p : VP} (hm : At x p σ.vars) (hd : (x == (PySem.Str.ofString "__debug__")) = false := by decide) : Ev cx σ (.Name x pos) p σ := Ev.name hm.mem hd
theorem Put.oldL {x : PySem.Str} {p : VP} {l : List (PySem.Str × VP)} (hk : cx.env.kindOf x = some .local) (r : Rep x p σ.vars l) : Put cx σ x p l :=
  .old (.loc hk) (fun h => by rw [hk] at h; cases h) r
theorem Put.newL {x : PySem.Str} {p : VP} (hk : cx.env.kindOf x = some .local) (hn : (σ.vars.map (·.1)).all (fun y => !(y == x)) = true) : Put cx σ x p ((x, p) :: σ.vars) :=
  .new (.loc hk) (fun h => by rw [hk] at h; cases h) hn
theorem Put.oldC {x : PySem.Str} {p : VP} {l : List (PySem.Str × VP)} {c : Addr} (hk : cx.env.kindOf x = some .cell) (hc : cx.env.cells.lookup x = some c) (ho : cx.own = true) (r : Rep x p σ.vars l) : Put cx σ x p l :=
  .old (.cell hk c hc) (fun _ => ho) r
theorem Put.newC {x : PySem.Str} {p : VP} {c : Addr} (hk : cx.env.kindOf x = some .cell) (hc : cx.env.cells.lookup x = some c) (ho : cx.own = true) (hn : (σ.vars.map (·.1)).all (fun y => !(y == x)) = true) : Put cx σ x p ((x, p) :: σ.vars) :=
  .new (.cell hk c hc) (fun _ => ho) hn
theorem Ev.gInt {K : Frag} {x : PySem.Str} {i : Int} {t : Tok} (G : Grd K cx.g) (e : nsIn K mainGlobals x = some (some (.int i t))) (hx : cx.env.kindOf x = some .globalImplicit)
    (hd : (x == (PySem.Str.ofString "__debug__")) = false := by decide) : Ev cx σ (.Name x pos) (vInt i) σ := (Ev.gname G e hx hd).conv fun F v r => ⟨t, r⟩
/-- a function's contract, its names given -/
theorem FnR.of_vars {prog : Program} {w : World} {K : Frag} {g : Heap} {a : Addr} {fd : FuncData} {body : List Stmt} {d : Nat} {ps : List VP} {R : Res} {P : VP → Res → Prop} (G : Grd K g) (fn : IsFn K a fd body) (vars : List (PySem.Str × VP)) (hps : vars.map (·.2) = ps)
    (hb : ∀ vs : List Value, vs.length = (vars.map (·.1)).length → bindArgs fd ⟨vs, []⟩ = pure ((vars.map (·.1)).zip vs)) (hl : ((vars.map (·.1)).all fun x => fd.scope.names.lookup x == some .local) = true) (hn : decide (vars.map (·.1)).Nodup = true)
    (h : ∀ A F s L, Room A (d + 1) → Exs (fnCx prog w A g fd L a F s R) { vars := vars, res := R } body (FnOut P)) : FnR prog w g (.ref a) (d + 1) ps R P := by
  subst hps
  have hz : (vars.map (·.1)).zip (vars.map (·.2)) = vars := by
    rw [List.zip_map']
    simp
  refine FnR.of_body (names := vars.map (·.1)) G fn hb (fun x hx => ?_) ?_ (by simp) fun A F s L rm => ?_
  · simpa using List.all_eq_true.mp hl x hx
  · exact of_decide_eq_true hn
  · rw [hz]; exact h A F s L rm
theorem kindOf_comp {scope : Scope} {cl : List (PySem.Str × Addr)} {C : Addr} {F0 : FH} {s0 : Shared} {W : Addr → Prop} {pv : List (Addr × Obj)} {x : PySem.Str} : (cx.comp scope cl C F0 s0 W pv).env.kindOf x = (relabel scope cx.env).names.lookup x := rfl
inductive VS : List (PySem.Str × VP) → List (PySem.Str × VP) → Prop
  | nil {l} : VS [] l
  | cons {x p l' l} : At x p l → VS l' l → VS ((x, p) :: l') l
theorem VS.sub : ∀ {l' l}, VS l' l → ∀ x p, (x, p) ∈ l' → (x, p) ∈ l
  | _, _, .nil, _, _, h => (List.not_mem_nil h).elim
  | _, _, .cons a b, x, p, h => by
    rcases List.mem_cons.mp h with e | h
    · cases e; exact a.mem
    · exact b.sub x p h
inductive RSub : Res → Res → Prop
  | nil {l} : RSub [] l
  | take {x l l'} : RSub l l' → RSub (x :: l) (x :: l')
  | skip {x l l'} : RSub l l' → RSub l (x :: l')
theorem RSub.takeE {a : Addr} {c c' : Cell} {l l' : Res} (h : c = c') (r : RSub l l') : RSub ((a, c) :: l) ((a, c') :: l') := h ▸ .take r
theorem RSub.sub {l l' : Res} (h : RSub l l') : l.Sublist l' := by
  induction h with
  | nil => exact List.nil_sublist _
  | take _ ih => exact ih.cons_cons _
  | skip _ ih => exact ih.cons _
theorem Wk.of (hv : VS σ₁.vars σ.vars) (hn : decide (σ₁.vars.map (·.1)).Nodup = true) (hr : RSub σ₁.res σ.res) : Wk σ σ₁ := ⟨hv.sub, of_decide_eq_true hn, hr.sub⟩
theorem Exs.exp {e : Expr} {rest : List Stmt} (he : Ev cx σ e (vVal .none) σ₁) (h : Exs cx σ₁ rest P)
    (hi : interactive cx.env = false := by with_unfolding_all rfl) (hs : swapsWith e none pos.line cx.env = pure false := by with_unfolding_all rfl) : Exs cx σ (.Expr e pos :: rest) P := .expr he (fun _ _ r => r) h hi hs
theorem Ev.app {o e : Expr} {ap : Pos} {a : Addr} {p : VP} {ps : List VP} {R' : Res} (qs : List VP) (ho : Ev cx σ o (vVal (.ref a)) σ) (he : Ev cx σ e p σ) (r : RSet a (.lst ps) (.lst qs) σ.res R') (hq : ps ++ [p] = qs) (hsz : ps.length ≤ sizeLine)
    (hs : starEach [e] cx.env = [(false, PySem.eval e cx.env)] := by with_unfolding_all rfl)
    (hb : attributeBase o (PySem.Str.ofString "append") cx.env (PySem.eval o cx.env) = PySem.eval o cx.env := by with_unfolding_all rfl) (hl : (ap.endLine == pos.line) = true := by with_unfolding_all rfl) :
    Ev cx σ (.Call (.Attribute o (PySem.Str.ofString "append") ap) [e] [] pos) (vVal .none) { vars := σ.vars, res := R' } := .append ho he (hq ▸ r) hsz hs hb hl
theorem Ev.isName {x : PySem.Str} {p : VP} (h : Ev cx σ (.Name x pos) p σ₁) : Ev cx σ (.Name x pos) p σ₁ := h
theorem Ev.isAdd {a b : Expr} {p : VP} (h : Ev cx σ (.BinOp a .Add b pos) p σ₁) : Ev cx σ (.BinOp a .Add b pos) p σ₁ := h
theorem Ev.isSub {a b : Expr} {p : VP} (h : Ev cx σ (.BinOp a .Sub b pos) p σ₁) : Ev cx σ (.BinOp a .Sub b pos) p σ₁ := h
theorem Ev.isNeg {a : Expr} {p : VP} (h : Ev cx σ (.UnaryOp .USub a pos) p σ₁) : Ev cx σ (.UnaryOp .USub a pos) p σ₁ := h
theorem Ev.isConst {c : Const} {k : Nat} {p : VP} (h : Ev cx σ (.Constant c k pos) p σ₁) : Ev cx σ (.Constant c k pos) p σ₁ := h
theorem Tst.isCmp {a b : Expr} {op : CmpOp} {c : Bool} (h : Tst cx σ (.Compare a [op] [b] pos) c σ₁) : Tst cx σ (.Compare a [op] [b] pos) c σ₁ := h
theorem Tst.isEq {a b : Expr} {c : Bool} (h : Tst cx σ (.Compare a [.Eq] [b] pos) c σ₁) : Tst cx σ (.Compare a [.Eq] [b] pos) c σ₁ := h
theorem Tst.isNe {a b : Expr} {c : Bool} (h : Tst cx σ (.Compare a [.NotEq] [b] pos) c σ₁) : Tst cx σ (.Compare a [.NotEq] [b] pos) c σ₁ := h
theorem Tst.isIn {a b : Expr} {c : Bool} (h : Tst cx σ (.Compare a [.In] [b] pos) c σ₁) : Tst cx σ (.Compare a [.In] [b] pos) c σ₁ := h
theorem Tst.isLt {a b : Expr} {c : Bool} (h : Tst cx σ (.Compare a [.Lt] [b] pos) c σ₁) : Tst cx σ (.Compare a [.Lt] [b] pos) c σ₁ := h
theorem Tst.isLe {a b : Expr} {c : Bool} (h : Tst cx σ (.Compare a [.LtE] [b] pos) c σ₁) : Tst cx σ (.Compare a [.LtE] [b] pos) c σ₁ := h
theorem Tst.isGt {a b : Expr} {c : Bool} (h : Tst cx σ (.Compare a [.Gt] [b] pos) c σ₁) : Tst cx σ (.Compare a [.Gt] [b] pos) c σ₁ := h
theorem Tst.isGe {a b : Expr} {c : Bool} (h : Tst cx σ (.Compare a [.GtE] [b] pos) c σ₁) : Tst cx σ (.Compare a [.GtE] [b] pos) c σ₁ := h
inductive RAt (a : Addr) (c : Cell) : Res → Prop
  | here {l} : RAt a c ((a, c) :: l)
  | there {x l} : RAt a c l → RAt a c (x :: l)
theorem RAt.mem {a c} : ∀ {l}, RAt a c l → (a, c) ∈ l
  | _, .here => by simp
  | _, .there h => List.mem_cons_of_mem _ h.mem
theorem Ev.srcL {e : Expr} {ps : List VP} (h : Ev cx σ e (vList ps) σ₁) : Ev cx σ e (vSrcW σ₁ ps) σ₁ := h.conv fun _ _ r => .inr (.inl r)
theorem Ev.srcG {e : Expr} {ps : List VP} (h : Ev cx σ e (vListW ps) σ₁) : Ev cx σ e (vSrcW σ₁ ps) σ₁ := h.conv fun _ _ r => .inl r
theorem Ev.srcO {e : Expr} {ps : List VP} {a : Addr} (h : Ev cx σ e (vVal (.ref a)) σ₁) (hm : RAt a (.lst ps) σ₁.res) : Ev cx σ e (vSrcW σ₁ ps) σ₁ := h.conv fun _ _ r => .inr (.inr ⟨a, r, hm.mem⟩)
theorem Ev.listW {e : Expr} {ps : List VP} (h : Ev cx σ e (vList ps) σ₁) : Ev cx σ e (vListW ps) σ₁ := h.conv fun F v ⟨a, o, vs, e, f, ⟨n, l⟩, r⟩ => ⟨a, o, vs, n, e, f, by rw [l], by rw [l], r⟩
theorem EvIter.listL {e target : Expr} {ps : List VP} (h : Ev cx σ e (vList ps) σ₁) (ht : Calm target) : EvIter cx σ e target ps [] σ₁ := .list h.listW (.inl ht)
theorem EvIter.listT {e : Expr} {ts : List Expr} {kk : Nat} {tp : Pos} {ps : List VP} (h : Ev cx σ e (vList ps) σ₁) (ht : ∀ q ∈ ps, ∃ qs, q = vTup qs) : EvIter cx σ e (.Tuple ts kk tp) ps [] σ₁ := .list h.listW (.inr ⟨ts, kk, tp, rfl, ht⟩)
theorem EvN.butlast {value hi : Expr} {p : Pos} {ps : List VP} (hv : Ev cx σ value (vSrcW σ ps) σ) (hh : Ev cx σ hi (vInt (-1)) σ) (hsz : ps.length ≤ sizeLine) : EvN cx σ (.Subscript value (.Slice none (some hi) none p) pos) ps.dropLast σ :=
  (EvN.slice hv .no (.int hh) hsz).eq (sl_butlast ps)
theorem EvN.upto {value hi : Expr} {p : Pos} {ps : List VP} {k : Nat} (hv : Ev cx σ value (vSrcW σ ps) σ) (hh : Ev cx σ hi (vInt (k : Int)) σ) (hsz : ps.length ≤ sizeLine) : EvN cx σ (.Subscript value (.Slice none (some hi) none p) pos) (ps.take k) σ :=
  (EvN.slice hv .no (.int hh) hsz).eq (sl_upto ps k)
theorem EvN.from_ {value lo : Expr} {p : Pos} {ps : List VP} {k : Nat} (hv : Ev cx σ value (vSrcW σ ps) σ) (hh : Ev cx σ lo (vInt (k : Int)) σ) (hsz : ps.length ≤ sizeLine) : EvN cx σ (.Subscript value (.Slice (some lo) none none p) pos) (ps.drop k) σ :=
  (EvN.slice hv (.int hh) .no hsz).eq (sl_from ps k)
theorem EvN.lastOf {value lo : Expr} {p : Pos} {ps : List VP} (hv : Ev cx σ value (vSrcW σ ps) σ) (hh : Ev cx σ lo (vInt (-1)) σ) (hsz : ps.length ≤ sizeLine) : EvN cx σ (.Subscript value (.Slice (some lo) none none p) pos) (ps.drop (ps.length - 1)) σ :=
  (EvN.slice hv (.int hh) .no hsz).eq (sl_last ps)
theorem getLast_at {α : Type} {l : List α} (d : α) (h : 1 ≤ l.length) : l[l.length - 1]? = some (l.getLastD d) := by
  cases l with
  | nil => simp at h
  | cons x l => rw [List.getLastD_cons, ← List.getLast?_eq_getElem?, List.getLast?_cons, List.getLastD_eq_getLast?]
theorem idx_last {n : Nat} (h : 1 ≤ n) : seqIndex? (-1) n = some (n - 1) := by
  have e : ((-1 : Int) + (n : Int)).toNat = n - 1 := by first | lia | omega
  unfold seqIndex?
  simp only [show ((-1 : Int) < 0) = True from eq_true (by decide), if_true]
  have h2 : (decide (0 ≤ (-1 : Int) + (n : Int)) && decide ((-1 : Int) + (n : Int) < (n : Int))) = true := by simp; first | lia | omega
  simp only [e]
  first | rw [if_pos h2] | simp [h2] | (split <;> simp_all <;> first | lia | omega)
theorem idx_nat {n k : Nat} (h : k < n) : seqIndex? (k : Int) n = some k := by
  rw [seqIndex_of (by first | lia | omega) (by first | lia | omega)]; simp
/-- an item of a list of texts -/
theorem Ev.lastS {value idx : Expr} {ls : List (List Nat)} (hv : Ev cx σ value (vSrcW σ (vStrs ls)) σ) (hi : Ev cx σ idx (vInt (-1)) σ) (h : 1 ≤ ls.length) (hsz : ls.length ≤ sizeLine) (hx : IsIdx idx := by exact fun _ _ => rfl) : Ev cx σ (.Subscript value idx pos) (vStr (ls.getLastD [])) σ :=
  .itemL hv hi hx (by unfold vStrs; rw [List.length_map]; exact idx_last h) (by unfold vStrs; rw [List.getElem?_map, getLast_at [] h]; rfl) (by unfold vStrs; rw [List.length_map]; exact hsz)
/-- an item by its place -/
theorem Ev.atL {value idx : Expr} {ps : List VP} {k : Nat} {p : VP} (hv : Ev cx σ value (vSrcW σ ps) σ) (hi : Ev cx σ idx (vInt (k : Int)) σ) (hp : ps[k]? = some p) (hsz : ps.length ≤ sizeLine) (hx : IsIdx idx := by exact fun _ _ => rfl) : Ev cx σ (.Subscript value idx pos) p σ :=
  .itemL hv hi hx (idx_nat (List.getElem?_eq_some_iff.mp hp).1) hp hsz
theorem Ev.atT {value idx : Expr} {ps : List VP} {k : Nat} {p : VP} (hv : Ev cx σ value (vTup ps) σ₁) (hi : Ev cx σ₁ idx (vInt (k : Int)) σ₂) (hp : ps[k]? = some p) (hsz : ps.length ≤ 1000 := by decide) (hx : IsIdx idx := by exact fun _ _ => rfl) : Ev cx σ (.Subscript value idx pos) p σ₂ :=
  .itemT hv hi hx (idx_nat (List.getElem?_eq_some_iff.mp hp).1) hp hsz
theorem Ev.atS {value idx : Expr} {x : List Nat} {k c : Nat} (hv : Ev cx σ value (vStr x) σ₁) (hi : Ev cx σ₁ idx (vInt (k : Int)) σ₂) (hp : x[k]? = some c) (hsz : x.length ≤ sizeLine) (hx : IsIdx idx := by exact fun _ _ => rfl) : Ev cx σ (.Subscript value idx pos) (vStr [c]) σ₂ :=
  .itemS hv hi hx (idx_nat (List.getElem?_eq_some_iff.mp hp).1) hp hsz
theorem vals1 {Q : List Value → Prop} (h : ∀ a, Q [a]) : ∀ vs : List Value, vs.length = 1 → Q vs
  | [a], _ => h a
theorem vals2 {Q : List Value → Prop} (h : ∀ a b, Q [a, b]) : ∀ vs : List Value, vs.length = 2 → Q vs
  | [a, b], _ => h a b
theorem vals3 {Q : List Value → Prop} (h : ∀ a b c, Q [a, b, c]) : ∀ vs : List Value, vs.length = 3 → Q vs
  | [a, b, c], _ => h a b c
theorem vals4 {Q : List Value → Prop} (h : ∀ a b c d, Q [a, b, c, d]) : ∀ vs : List Value, vs.length = 4 → Q vs
  | [a, b, c, d], _ => h a b c d
end Mine
namespace Mine
open PySem PySem.W PySem.Calls PyProof.Rows Builtin Builtin.Str Builtin.Int
variable {cx : Cx} {σ σ₁ σ₂ σ₃ : St} {pos : Pos} {P P' : Out → Prop} {K : Frag}
/-- looking into an instance's dict -/
theorem getL_of {es : List DictEntry} {name : PySem.Str} {r : Option Value} (hk : StrKeys es.toArray) (hf : nsFind es.toArray name = r) : getL name es = some r := by
  unfold getL
  have h1 : nsFind es.toArray name = (es.find? (·.key.isStr name)).map (·.val) := by
    unfold nsFind findBy
    rw [List.find?_toArray]
  rw [h1] at hf
  cases q : es.find? (·.key.isStr name) with
  | some e => rw [q] at hf; rw [← hf]; rfl
  | none =>
    rw [q] at hf
    have hn : es.any (·.refKey) = false := by
      rw [List.any_eq_false]
      intro e he
      obtain ⟨n, t, hkey⟩ := hk e (by simpa using he)
      unfold DictEntry.refKey
      rw [hkey]; simp
    simp only [hn]
    rw [← hf]; rfl
theorem putL_keys {name : PySem.Str} {h : Int} {t : Tok} {v : Value} : ∀ {es : List DictEntry}, StrKeys es.toArray → StrKeys (putL name h (.str name t) v es).toArray
  | [], _ => fun e he => by simp [putL] at he; exact ⟨name, t, by rw [he]⟩
  | e :: r, hk => by
    have hr : StrKeys r.toArray := fun x hx => hk x (by simp at hx ⊢; exact .inr hx)
    have ih := putL_keys (name := name) (h := h) (t := t) (v := v) hr
    unfold putL
    split
    · intro x hx
      simp at hx
      rcases hx with rfl | hx
      · exact hk e (by simp)
      · exact hr x (by simpa using hx)
    · intro x hx
      simp at hx
      rcases hx with rfl | hx
      · exact hk x (by simp)
      · exact ih x (by simpa using hx)
theorem find_L (es : List DictEntry) (name : PySem.Str) : nsFind es.toArray name = (es.find? (·.key.isStr name)).map (·.val) := by
  unfold nsFind findBy
  rw [List.find?_toArray]
theorem putL_find_same {name : PySem.Str} {h : Int} {t : Tok} {v : Value} : ∀ {es : List DictEntry}, ((putL name h (.str name t) v es).find? (·.key.isStr name)).map (·.val) = some v
  | [] => by simp [putL, Value.isStr]
  | e :: r => by
    unfold putL
    cases q : e.key.isStr name with
    | true => simp [q]
    | false => simp only [Bool.false_eq_true, if_false, List.find?_cons, q]; exact putL_find_same
theorem isStr_eq {v : Value} {x y : PySem.Str} (h1 : v.isStr x = true) (h2 : v.isStr y = true) : x = y := by
  cases v <;> simp [Value.isStr] at h1 h2
  rw [← h1, ← h2]
theorem putL_find_ne {name x : PySem.Str} (hne : x ≠ name) {h : Int} {t : Tok} {v : Value} : ∀ {es : List DictEntry}, ((putL name h (.str name t) v es).find? (·.key.isStr x)).map (·.val) = (es.find? (·.key.isStr x)).map (·.val)
  | [] => by
    have : (Value.str name t).isStr x = false := by
      cases q : (Value.str name t).isStr x with
      | false => rfl
      | true => exact absurd (isStr_eq q (y := name) (by simp [Value.isStr])) hne
    simp [putL, this]
  | e :: r => by
    unfold putL
    cases q : e.key.isStr name with
    | true =>
      have : e.key.isStr x = false := by
        cases q2 : e.key.isStr x with
        | false => rfl
        | true => exact absurd (isStr_eq q2 q) hne
      simp [this]
    | false =>
      simp only [Bool.false_eq_true, if_false, List.find?_cons]
      cases e.key.isStr x with
      | true => rfl
      | false => exact putL_find_ne hne
theorem putL_len {name : PySem.Str} {h : Int} {k v : Value} : ∀ {es : List DictEntry}, (putL name h k v es).length ≤ es.length + 1 ∧ ((es.find? (·.key.isStr name)).isSome = true → (putL name h k v es).length = es.length)
  | [] => by simp [putL]
  | e :: r => by
    unfold putL
    cases q : e.key.isStr name with
    | true => simp
    | false =>
      have ih := putL_len (name := name) (h := h) (k := k) (v := v) (es := r)
      simp only [Bool.false_eq_true, if_false, List.length_cons, List.find?_cons, q]
      exact ⟨Nat.succ_le_succ ih.1, fun z => by rw [ih.2 z]⟩
theorem dictObj_put {N N' : Nat} {m : PySem.Str → Option Value} {o : Obj} (d : DictObj N m o) (name : PySem.Str) (h : Int) (t : Tok) (v : Value) (hN : N' = N + 1 ∨ (N' = N ∧ m name ≠ none)) : DictObj N' (fun y => if y = name then some v else m y) (Obj.putName name h (.str name t) v o) := by
  obtain ⟨es, n, rfl, hl, hk, hf⟩ := d
  rw [putName_dict]
  refine ⟨_, _, rfl, ?_, putL_keys hk, fun y => ?_⟩
  · obtain ⟨l1, l2⟩ := putL_len (name := name) (h := h) (k := .str name t) (v := v) (es := es)
    rcases hN with rfl | ⟨rfl, hm⟩
    · first | lia | omega
    · have hs : (es.find? (·.key.isStr name)).isSome = true := by
        have := hf name
        rw [find_L] at this
        cases q : es.find? (·.key.isStr name) with
        | some e => rfl
        | none => rw [q] at this; exact absurd this.symm hm
      rw [l2 hs]; exact hl
  · rw [find_L]
    by_cases hy : y = name
    · subst hy; simp only [if_true]; exact putL_find_same
    · simp only [if_neg hy]; rw [putL_find_ne hy, ← find_L]; exact hf y
/-- a field's place -/
theorem FieldsAre.get {F : FH} {fs : List (PySem.Str × VP)} {m : PySem.Str → Option Value} (x : FieldsAre F fs m) {name : PySem.Str} {p : VP} (h : At name p fs) : ∃ v, m name = some v ∧ p.rd F v := x.1 name p h.mem
/-- an instance in a heap -/
theorem instAt_of {h : Heap} {x d C : Addr} {od : Obj} (hx : h.get? x = some (instObj C d)) (hd : h.get? d = some od) : InstAt h x (instObj C d) C (some od) := ⟨hx, rfl, rfl, hd⟩
/-- what must hold of a class for its instances' own fields -/
structure OwnAttr (K : Frag) (C : Addr) (name : PySem.Str) : Prop where
  get : plainGet K C name = true
  dict : hasDictIn K C = true
  find : ∃ attr, findIn K (.ref C) name = some attr ∧ noGet K attr = true
theorem getAttr_own {prog : Program} {w : World} {A : Around} {E : Value → Shared → Prop} {s : Shared} {x d C : Addr} {od : Obj} {name : PySem.Str} {v : Value} {m : PySem.Str → Option Value} {expr : Bool} {Q : Value → Shared → Prop} (X : K.In s.heap) (O : OwnAttr K C name)
    (hx : s.heap.get? x = some (instObj C d)) (hd : s.heap.get? d = some od) {N : Nat} (dd : DictObj N m od) (hm : m name = some v) (hh : handedIn v = true) (h : Q v { s with toks := s.toks + 1 }) : wpAny (model prog w) A (getAttr (.ref x) name expr) Q E s := by
  obtain ⟨attr, ha, hn⟩ := O.find
  obtain ⟨es, n, rfl, _, hk, hf⟩ := dd
  exact get_value X (instAt_of hx hd) (plainGet_of O.get).1 (findObj_own O.dict ha hn (by rw [lookIn_dict]; exact getL_of hk ((hf name).trans hm))) hh h
/-- values that are handed on as they are -/
noncomputable def Handed (p : VP) : Prop := ∀ F v, p.rd F v → handedIn v = true
theorem handed_int {i : Int} : Handed (vInt i) := fun F v ⟨t, e⟩ => by rw [e]; rfl
theorem handed_str {x : List Nat} : Handed (vStr x) := fun F v ⟨t, e⟩ => by rw [e]; rfl
theorem handed_bool {b : Bool} : Handed (vBool b) := fun F v e => by rw [show v = _ from e]; rfl
theorem handed_ref {a : Addr} : Handed (vVal (.ref a)) := fun F v e => by rw [show v = _ from e]; rfl
theorem handed_list {ps : List VP} : Handed (vList ps) := fun F v ⟨a, o, vs, e, _⟩ => by rw [e]; rfl
theorem handed_tup {ps : List VP} : Handed (vTup ps) := fun F v ⟨a, o, vs, e, _⟩ => by rw [e]; rfl
theorem handed_inst {C : Addr} {fs : List (PySem.Str × VP)} : Handed (vInst C fs) := fun F v ⟨a, d, od, m, e, _⟩ => by rw [e]; rfl
/-- a field of an owned instance -/
theorem Ev.attrO {o : Expr} {name : PySem.Str} {x d C : Addr} {fs : List (PySem.Str × VP)} {p : VP} (G : Grd K cx.g) (O : OwnAttr K C name) (ho : Ev cx σ o (vVal (.ref x)) σ₁) (hm : RAt d (.inst x C fs) σ₁.res) (hf : At name p fs) (hh : Handed p)
    (he : eval (.Attribute o name pos) cx.env = (do
      let ov ← eval o cx.env
      standAt pos.atName
      let r ← holding [ov] (getAttr ov name true)
      letTemporaryGo o ov r
      pure r) := by with_unfolding_all rfl) : Ev cx σ (.Attribute o name pos) p σ₁ where
  like := ho.like
  vars := ho.vars
  run := fun F s ok Q E k => Attribute_any_ (ho.run F s ok _ _ fun v F₁ s₁ st₁ ok₁ r₁ => by
    cases r₁
    obtain ⟨fx, od, m, gd, dd, fa⟩ := ok₁.res.ok d _ hm.mem
    obtain ⟨u, hu, ru⟩ := fa.get hf
    exact getAttr_own (G.X.keeps ok₁.g) O (ok₁.inh _ _ fx) gd dd hu (hh _ _ ru) (k u F₁ _ (st₁.trans (.toks ok₁.inh)) (ok₁.pure (.toks ok₁.inh)) ru)) he
/-- a field of a frozen instance -/
theorem Ev.attrF {o : Expr} {name : PySem.Str} {C : Addr} {fs : List (PySem.Str × VP)} {p : VP} (G : Grd K cx.g) (O : OwnAttr K C name) (ho : Ev cx σ o (vInst C fs) σ₁) (hf : At name p fs) (hh : Handed p)
    (he : eval (.Attribute o name pos) cx.env = (do
      let ov ← eval o cx.env
      standAt pos.atName
      let r ← holding [ov] (getAttr ov name true)
      letTemporaryGo o ov r
      pure r) := by with_unfolding_all rfl) : Ev cx σ (.Attribute o name pos) p σ₁ where
  like := ho.like
  vars := ho.vars
  run := fun F s ok Q E k => Attribute_any_ (ho.run F s ok _ _ fun v F₁ s₁ st₁ ok₁ ⟨x, d, od, m, e, f1, f2, dd, fa⟩ => by
    subst e
    obtain ⟨u, hu, ru⟩ := fa.get hf
    exact getAttr_own (G.X.keeps ok₁.g) O (ok₁.inh _ _ f1) (ok₁.inh _ _ f2) dd hu (hh _ _ ru) (k u F₁ _ (st₁.trans (.toks ok₁.inh)) (ok₁.pure (.toks ok₁.inh)) ru)) he
/-- a class's value -/
theorem Ev.attrC {o : Expr} {name : PySem.Str} {C : Addr} {mc v : Value} (G : Grd K cx.g) (hr : readsIn K C mc = true) (hf : findCls K (.ref C) mc name = some (.val v)) (hh : handedIn v = true) (ho : Ev cx σ o (vVal (.ref C)) σ₁)
    (he : eval (.Attribute o name pos) cx.env = (do
      let ov ← eval o cx.env
      standAt pos.atName
      let r ← holding [ov] (getAttr ov name true)
      letTemporaryGo o ov r
      pure r) := by with_unfolding_all rfl) : Ev cx σ (.Attribute o name pos) (vVal v) σ₁ where
  like := ho.like
  vars := ho.vars
  run := fun F s ok Q E k => Attribute_any_ (ho.run F s ok _ _ fun u F₁ s₁ st₁ ok₁ r₁ => by
    cases r₁
    exact cls_value (G.X.keeps ok₁.g) hr hf hh (k v F₁ _ (st₁.trans (.toks ok₁.inh)) (ok₁.pure (.toks ok₁.inh)) rfl)) he
/-- a field stored, old or new -/
structure FPut (name : PySem.Str) (p : VP) (fs fs' : List (PySem.Str × VP)) : Prop where
  mem : ∀ y q, (y, q) ∈ fs' → (y = name ∧ q = p) ∨ (y ≠ name ∧ (y, q) ∈ fs)
  all : ∀ y, y ∉ fs'.map (·.1) → y ≠ name ∧ y ∉ fs.map (·.1)
  len : fs'.length = fs.length + 1 ∨ (fs'.length = fs.length ∧ name ∈ fs.map (·.1))
theorem FPut.old {name : PySem.Str} {p : VP} {fs fs' : List (PySem.Str × VP)} (r : Rep name p fs fs') (hn : decide (fs.map (·.1)).Nodup = true) : FPut name p fs fs' :=
  ⟨r.set (of_decide_eq_true hn), fun y hy => by rw [r.names] at hy; exact ⟨fun e => hy (e ▸ r.mem), hy⟩, .inr ⟨by have := congrArg List.length r.names; simpa using this, r.mem⟩⟩
theorem FPut.new {name : PySem.Str} {p : VP} {fs : List (PySem.Str × VP)} (hn : (fs.map (·.1)).all (fun y => !(y == name)) = true) : FPut name p fs ((name, p) :: fs) := by
  have hne : name ∉ fs.map (·.1) := fun hm => by
    have := List.all_eq_true.mp hn name hm
    simp at this
  refine ⟨fun y q hm => ?_, fun y hy => ?_, .inl rfl⟩
  · rcases List.mem_cons.mp hm with e | hm
    · cases e; exact .inl ⟨rfl, rfl⟩
    · exact .inr ⟨fun e => hne (e ▸ List.mem_map_of_mem (f := fun z : PySem.Str × VP => z.1) hm), hm⟩
  · rw [List.map_cons] at hy
    exact ⟨fun e => hy (e ▸ List.mem_cons_self), fun h => hy (List.mem_cons_of_mem _ h)⟩
theorem FieldsAre.put {F : FH} {fs fs' : List (PySem.Str × VP)} {m : PySem.Str → Option Value} {name : PySem.Str} {p : VP} {v : Value} (x : FieldsAre F fs m) (h : FPut name p fs fs') (hr : p.rd F v) : FieldsAre F fs' (fun y => if y = name then some v else m y) := by
  refine ⟨fun y q hm => ?_, fun y hy => ?_⟩
  · rcases h.mem y q hm with ⟨rfl, rfl⟩ | ⟨hne, hm⟩
    · exact ⟨v, if_pos rfl, hr⟩
    · obtain ⟨u, e, r⟩ := x.1 y q hm
      exact ⟨u, by simp only; rw [if_neg hne]; exact e, r⟩
  · obtain ⟨h1, h2⟩ := h.all y hy
    simp only; rw [if_neg h1]; exact x.2 y h2
/-- what must hold of a class for stores into its instances -/
structure OwnSet (K : Frag) (C : Addr) (name : PySem.Str) : Prop where
  set : findIn K (.ref C) "__setattr__" = some (some (.builtin "object.__setattr__"))
  over : plainOver K C = true
  taker : takerIn K C name = some none
  dict : (clsIn K C).any (·.hasDict) = true
theorem setAttr_own {prog : Program} {w : World} {A : Around} {E : Value → Shared → Prop} {s : Shared} {x d C : Addr} {od : Obj} {name : PySem.Str} {v : Value} {m : PySem.Str → Option Value} {N N' : Nat} {Q : Unit → Shared → Prop} (X : K.In s.heap) (O : OwnSet K C name)
    (hx : s.heap.get? x = some (instObj C d)) (hd : s.heap.get? d = some od) (dd : DictObj N m od) (hN : N' = N + 1 ∨ (N' = N ∧ m name ≠ none)) (hsz : N' ≤ 1000)
    (h : ∀ h' od' tk, h'.get? d = some od' → DictObj N' (fun y => if y = name then some v else m y) od' → (∀ b, b ≠ d → h'.get? b = s.heap.get? b) → Q () { s with heap := h', toks := tk }) : wpAny (model prog w) A (setAttr (.ref x) name v) Q E s := by
  have I := instAt_of hx hd
  refine set_plain X I O.set (osa_open (s := { s with toks := s.toks + 1 }) X I O.over O.taker fun b => ?_)
  obtain ⟨cd, hc, hd'⟩ := any_some O.dict
  obtain ⟨es, n, rfl, hl, hk, hf⟩ := id dd
  refine wpAny_bind (wpAny_pure (wpAny_bind (wpAny_bind (wpAny_loadPart hx (wpAny_bind ((looks_clsIn (M := model prog w) X hc) _ _ _ _ (fun _ _ e => e) ?_))))))
  rw [hd']
  refine wpAny_pure (a := some d) (wpAny_bind (wpAny_pure (wpAny_bind ?_)))
  unfold nsSet
  refine wpAny_bind (wpAny_bind (wpAny_askSetting (wpAny_pure (wpAny_bind (wpAny_mkText (wpAny_bind (wpAny_loadPart hd ?_)))))))
  have c : (!es.toArray.any (·.key.isStr name) && es.toArray.any (·.refKey)) = false := by
    have : es.any (·.refKey) = false := by
      rw [List.any_eq_false]
      intro e he
      obtain ⟨n, t, hkey⟩ := hk e (by simpa using he)
      unfold DictEntry.refKey
      rw [hkey]; simp
    rw [← Array.any_toList, ← Array.any_toList]
    show (_ && es.any (·.refKey)) = false
    rw [this, Bool.and_false]
  have d2 := fun hz : Int => dictObj_put dd name hz (s.toks + 1) v hN
  have hg : ∀ hz : Int, (s.heap.update d (Obj.putName name hz (.str name (s.toks + 1)) v)).get? d = some (Obj.putName name hz (.str name (s.toks + 1)) v (dictOf es n)) := fun hz => by
    obtain ⟨es2, n2, e2, _⟩ := d2 hz
    exact Heap.get?_update_self _ hd (by rw [e2]; rfl)
  dsimp only [dictOf]
  rw [aRefKeyMayBeTheName_at, c]
  refine wpAny_updatePart hd ?_
  generalize (if name.cps.isEmpty = true then (0 : Int) else _) = hz
  obtain ⟨es2, n2, e2, hl2, _, _⟩ := id (d2 hz)
  refine wpAny_bind (wpAny_lookBehind ((hg hz).trans (congrArg some e2)) (by exact pastItsLine_dict (by rw [List.size_toArray, sizeLine_is]; first | lia | omega)) ?_)
  exact wpAny_pure (h _ _ _ (hg hz) (d2 hz) fun b hb => (Heap.SameBut.update ..).2 b hb)
end Mine
namespace Mine
open PySem PySem.W PySem.Calls PyProof.Rows Builtin Builtin.Str Builtin.Int
variable {cx : Cx} {σ σ₁ σ₂ σ₃ : St} {pos : Pos} {P P' : Out → Prop} {K : Frag}
/-- a store into an owned instance -/
theorem StOK.setAttr {F s} {x d C : Addr} {fs fs' : List (PySem.Str × VP)} {R' : Res} {name : PySem.Str} {p : VP} {v : Value} (G : Grd K cx.g) (O : OwnSet K C name) (ok : StOK cx F s σ) (r : RSet d (.inst x C fs) (.inst x C fs') σ.res R') (fp : FPut name p fs fs') (hsz : fs'.length ≤ 1000) (hr : p.rd F v)
    {Q : Unit → Shared → Prop} {E : Value → Shared → Prop} (k : ∀ s', Step σ.res.has F s F s' → StOK cx F s' { vars := σ.vars, res := R' } → Q () s') : wpAny (model cx.prog cx.w) cx.A (setAttr (.ref x) name v) Q E s := by
  obtain ⟨fx, od, m, gd, dd, fa⟩ := ok.res.ok d _ r.mem
  have hN : fs'.length = fs.length + 1 ∨ (fs'.length = fs.length ∧ m name ≠ none) := fp.len.imp id fun ⟨h1, h2⟩ => ⟨h1, fun hn => by
    obtain ⟨⟨y, q⟩, hy, e0⟩ := List.mem_map.mp h2
    obtain ⟨u, e, _⟩ := fa.1 y q hy
    rw [show y = name from e0, hn] at e; cases e⟩
  refine setAttr_own (G.X.keeps ok.g) O (ok.inh _ _ fx) gd dd hN hsz fun h' od' tk g' d' hs => ?_
  · obtain ⟨st, ok'⟩ := ok.turn (tk := tk) r hs (c' := .inst x C fs') ⟨fx, od', _, g', d', fa.put fp hr⟩
    exact k _ st ok'
theorem Exs.setAttr {o value : Expr} {pp : Pos} {name : PySem.Str} {x d C : Addr} {fs fs' : List (PySem.Str × VP)} {R' : Res} {p : VP} {rest : List Stmt} (G : Grd K cx.g) (O : OwnSet K C name) (hv : Ev cx σ value p σ₁) (ho : Ev cx σ₁ o (vVal (.ref x)) σ₂)
    (r : RSet d (.inst x C fs) (.inst x C fs') σ₂.res R') (fp : FPut name p fs fs') (hsz : fs'.length ≤ 1000) (h : Exs cx { vars := σ₂.vars, res := R' } rest P)
    (hs : swapsWith value (some (.Attribute o name pp)) pos.line cx.env = pure false := by with_unfolding_all rfl) : Exs cx σ (.Assign [.Attribute o name pp] value pos :: rest) P := .cons fun F s ok Q E k =>
  plainObj_wpAny_Assign_Attribute (hv.run F s ok _ _ fun v F₁ s₁ st₁ ok₁ r₁ => ho.run F₁ s₁ ok₁ _ _ fun u F₂ s₂ st₂ ok₂ r₂ => by
    cases r₂
    exact ok₂.setAttr G O r fp hsz (p.mono st₂.sub r₁) fun s' st' ok' => k .next F₂ s' (.nx _) (st₁.sub.trans st₂.sub) ok' h) hs
theorem Exs.setAttrN {o value : Expr} {pp : Pos} {name : PySem.Str} {x d C : Addr} {fs : List (PySem.Str × VP)} {fs' : Addr → List (PySem.Str × VP)} {ps : List VP} {rest : List Stmt} (G : Grd K cx.g) (O : OwnSet K C name) (hv : EvN cx σ value ps σ₁)
    (h : ∀ a : Addr, cx.s0.heap.get? a = none → ∃ R', Ev cx { vars := σ₁.vars, res := (a, .lst ps) :: σ₁.res } o (vVal (.ref x)) { vars := σ₁.vars, res := (a, .lst ps) :: σ₁.res } ∧ RSet d (.inst x C fs) (.inst x C (fs' a)) ((a, .lst ps) :: σ₁.res) R' ∧ FPut name (vVal (.ref a)) fs (fs' a) ∧ (fs' a).length ≤ 1000 ∧ Exs cx { vars := σ₁.vars, res := R' } rest P)
    (hs : swapsWith value (some (.Attribute o name pp)) pos.line cx.env = pure false := by with_unfolding_all rfl) : Exs cx σ (.Assign [.Attribute o name pp] value pos :: rest) P := .cons fun F s ok Q E k =>
  plainObj_wpAny_Assign_Attribute (hv.run F s ok _ _ fun F₁ s₁ st₁ ok₁ a ob vs h' tk hk hn hg hl hr => by
    have h0 : cx.s0.heap.get? a = none := by
      cases q : cx.s0.heap.get? a with
      | none => rfl
      | some ob => obtain ⟨o', e⟩ := ok₁.base.live a ob q; rw [hn] at e; cases e
    obtain ⟨R', ho, r, fp, hsz, hx⟩ := h a h0
    refine ho.run F₁ _ (ok₁.own hk hn hg hl hr) _ _ fun u F₂ s₂ st₂ ok₂ r₂ => ?_
    cases r₂
    exact ok₂.setAttr G O r fp hsz rfl fun s' st' ok' => k .next F₂ s' (.nx _) (st₁.sub.trans st₂.sub) ok' hx) hs
/-- an op-assignment to a field -/
theorem Exs.augAttr {o e : Expr} {pp : Pos} {op : Operator} {name : PySem.Str} {x d C : Addr} {fs fs' : List (PySem.Str × VP)} {R' : Res} {p q r : VP} {rest : List Stmt} (G : Grd K cx.g) (O : OwnAttr K C name) (OS : OwnSet K C name) (ho : Ev cx σ o (vVal (.ref x)) σ) (hm : RAt d (.inst x C fs) σ.res) (hf : At name p fs) (hh : Handed p)
    (he : Ev cx σ e q σ) (hop : ∀ F s v u, StOK cx F s σ → p.rd F v → q.rd F u → Gv cx (inplaceOp op v u) F s r.rd) (rs : RSet d (.inst x C fs) (.inst x C fs') σ.res R') (fp : FPut name r fs fs') (hsz : fs'.length ≤ 1000) (h : Exs cx { vars := σ.vars, res := R' } rest P) :
    Exs cx σ (.AugAssign (.Attribute o name pp) op e pos :: rest) P := .cons fun F s ok Q E k =>
  wpAny_AugAssign_AttributeAny (ho.run F s ok _ _ fun v F₁ s₁ st₁ ok₁ r₁ => by
    cases r₁
    obtain ⟨fx, od, m, gd, dd, fa⟩ := ok₁.res.ok d _ hm.mem
    obtain ⟨u, hu, ru⟩ := fa.get hf
    have okt : StOK cx F₁ { s₁ with toks := s₁.toks + 1 } σ := ok₁.pure (.toks ok₁.inh)
    refine getAttr_own (G.X.keeps ok₁.g) O (ok₁.inh _ _ fx) gd dd hu (hh _ _ ru) (he.run F₁ _ okt _ _ fun z F₂ s₂ st₂ ok₂ r₂ => ?_)
    refine hop F₂ s₂ u z ok₂ (p.mono st₂.sub ru) r₂ _ _ fun nw F₃ s₃ st₃ r₃ => ?_
    exact (ok₂.pure st₃).setAttr G OS rs fp hsz r₃ fun s' st' ok' => k .next F₃ s' (.nx _) ((st₁.sub.trans st₂.sub).trans st₃.sub) ok' h)
/-- a method of a class -/
structure MethOf (K : Frag) (C : Addr) (name : PySem.Str) (f : Addr) : Prop where
  get : plainGet K C name = true
  find : findIn K (.ref C) name = some (some (.ref f))
  fn : typeIn K (.ref f) = some (.type "function")
theorem getMethod_own {prog : Program} {w : World} {A : Around} {E : Value → Shared → Prop} {s : Shared} {x d C f : Addr} {od : Obj} {name : PySem.Str} {m : PySem.Str → Option Value} {N : Nat} {pl : Sem Bool} {Q : Value × List Value → Shared → Prop} (X : K.In s.heap) (M : MethOf K C name f)
    (hx : s.heap.get? x = some (instObj C d)) (hd : s.heap.get? d = some od) (dd : DictObj N m od) (hm : m name = none) (h : Q (.ref f, [.ref x]) s) : wpAny (model prog w) A (getMethod (.ref x) name pl) Q E s := by
  obtain ⟨es, n, rfl, _, hk, hf⟩ := dd
  exact method_fn X (instAt_of hx hd) (plainGet_of M.get).1 (plainGet_of M.get).2 M.find M.fn (by unfold shadowIn; dsimp only; rw [lookIn_dict, getL_of hk ((hf name).trans hm)]; rfl) h
/-- what a value's method is -/
noncomputable def HasMeth (cx : Cx) (σ : St) (p : VP) (name : PySem.Str) (f : Addr) : Prop :=
  ∀ F s v, StOK cx F s σ → p.rd F v → ∀ (pl : Sem Bool) (Q : Value × List Value → Shared → Prop) (E : Value → Shared → Prop), Q (.ref f, [v]) s → wpAny (model cx.prog cx.w) cx.A (getMethod v name pl) Q E s
theorem HasMeth.owned {x d C f : Addr} {fs : List (PySem.Str × VP)} {name : PySem.Str} (G : Grd K cx.g) (M : MethOf K C name f) (hm : RAt d (.inst x C fs) σ.res) (hn : (fs.map (·.1)).all (fun y => !(y == name)) = true) : HasMeth cx σ (vVal (.ref x)) name f := fun F s v ok r pl Q E h => by
  cases r
  obtain ⟨fx, od, m, gd, dd, fa⟩ := ok.res.ok d _ hm.mem
  refine getMethod_own (G.X.keeps ok.g) M (ok.inh _ _ fx) gd dd (fa.2 name fun q => ?_) h
  have := List.all_eq_true.mp hn name q
  simp at this
theorem HasMeth.frozen {C f : Addr} {fs : List (PySem.Str × VP)} {name : PySem.Str} (G : Grd K cx.g) (M : MethOf K C name f) (hn : (fs.map (·.1)).all (fun y => !(y == name)) = true) : HasMeth cx σ (vInst C fs) name f := fun F s v ok ⟨x, d, od, m, e, f1, f2, dd, fa⟩ pl Q E h => by
  subst e
  refine getMethod_own (G.X.keeps ok.g) M (ok.inh _ _ f1) (ok.inh _ _ f2) dd (fa.2 name fun q => ?_) h
  have := List.all_eq_true.mp hn name q
  simp at this
/-- is a def of the text -/
noncomputable def IsF (K : Frag) (a : Addr) : Prop := ∃ o fd, K.lookup a = some o ∧ o.data = .func fd
/-- a call of a method -/
theorem Ev.callM {o : Expr} {name : PySem.Str} {ap : Pos} {e : Expr} {rest : List Expr} {f : Addr} {d : Nat} {ps : List VP} {R R' res' : Res} {p q : VP} (G : Grd K cx.g) (fo : IsF K f) (ho : Ev cx σ o p σ₁) (hm : HasMeth cx σ₁ p name f)
    (ha : EvAll cx σ₁ pos (e :: rest) ps σ₂) (hc : FnD cx.prog cx.w cx.g (.ref f) d (p :: ps) R q R') (rm : Room cx.A d) (up : Upd R R' σ₂.res res')
    (he : starEach (e :: rest) cx.env = (false, eval e cx.env) :: starEach rest cx.env := by with_unfolding_all rfl)
    (hk : ∃ pl, eval (.Call (.Attribute o name ap) (e :: rest) [] pos) cx.env = (do
      let ov ← eval o cx.env
      standAt ap.atName
      let (f, first) ← holding [ov] (getMethod ov name pl)
      callWith pos f first (backTo pos (starEach (e :: rest) cx.env)) (backToKw pos (keywordEach [] cx.env))) := by exact ⟨_, by with_unfolding_all rfl⟩) :
    Ev cx σ (.Call (.Attribute o name ap) (e :: rest) [] pos) q { vars := σ₂.vars, res := res' } where
  like := up.like.trans (ha.like.trans ho.like)
  vars := ha.vars.trans ho.vars
  run := fun F s ok Q E k => by
    obtain ⟨pl, hk⟩ := hk
    refine methodCall_KW (pl := pl) (ho.run F s ok _ _ fun v F₁ s₁ st₁ ok₁ r₁ => hm F₁ s₁ v ok₁ r₁ _ _ _ ?_) hk
    obtain ⟨ob, fd, hob, hfd⟩ := fo
    refine callWith_function (o := ob) (fd := fd) ?_
    refine evalArgs_all (ha.run F₁ s₁ ok₁ _ _ fun vs F₂ s₂ st₂ ok₂ r₂ => ?_) he
    refine ⟨⟨ok₂.g _ _ (G.X _ _ hob), hfd⟩, wpAny_call (hc cx.A F₂ s₂ (v :: vs) rm ok₂.gF ok₂.inh (ok₂.res.sub up.sub) (.cons (p.mono st₂.sub r₁) r₂) _ fun u F₃ s₃ q' S ⟨e1, e2⟩ st₃ r₃ hr₃ _ => ?_)⟩
    subst e1; subst e2
    obtain ⟨st', ok₃⟩ := ok₂.called up st₃ hr₃
    exact k u F₃ s₃ (st₁.trans ((has_like ho.like ▸ st₂).trans (has_like (ha.like.trans ho.like) ▸ st'))) ok₃ r₃
theorem Ev.callM0 {o : Expr} {name : PySem.Str} {ap : Pos} {f : Addr} {d : Nat} {R R' res' : Res} {p q : VP} (G : Grd K cx.g) (fo : IsF K f) (ho : Ev cx σ o p σ₁) (hm : HasMeth cx σ₁ p name f)
    (hc : FnD cx.prog cx.w cx.g (.ref f) d [p] R q R') (rm : Room cx.A d) (up : Upd R R' σ₁.res res')
    (hk : ∃ pl, eval (.Call (.Attribute o name ap) [] [] pos) cx.env = (do
      let ov ← eval o cx.env
      standAt ap.atName
      let (f, first) ← holding [ov] (getMethod ov name pl)
      callWith pos f first (backTo pos (starEach [] cx.env)) (backToKw pos (keywordEach [] cx.env))) := by exact ⟨_, by with_unfolding_all rfl⟩) :
    Ev cx σ (.Call (.Attribute o name ap) [] [] pos) q { vars := σ₁.vars, res := res' } where
  like := up.like.trans ho.like
  vars := ho.vars
  run := fun F s ok Q E k => by
    obtain ⟨pl, hk⟩ := hk
    refine methodCall_KW (pl := pl) (ho.run F s ok _ _ fun v F₁ s₁ st₁ ok₁ r₁ => hm F₁ s₁ v ok₁ r₁ _ _ _ ?_) hk
    obtain ⟨ob, fd, hob, hfd⟩ := fo
    refine callWith_function (o := ob) (fd := fd) ?_
    refine PySem.evalArgs_none ?_
    refine ⟨⟨ok₁.g _ _ (G.X _ _ hob), hfd⟩, wpAny_call (hc cx.A F₁ s₁ [v] rm ok₁.gF ok₁.inh (ok₁.res.sub up.sub) (.cons r₁ .nil) _ fun u F₃ s₃ q' S ⟨e1, e2⟩ st₃ r₃ hr₃ _ => ?_)⟩
    subst e1; subst e2
    obtain ⟨st', ok₃⟩ := ok₁.called up st₃ hr₃
    exact k u F₃ s₃ (st₁.trans (has_like ho.like ▸ st')) ok₃ r₃
end Mine
namespace Mine
open PySem PySem.W PySem.Calls PyProof.Rows Builtin Builtin.Str Builtin.Int
variable {cx : Cx} {σ σ₁ σ₂ σ₃ : St} {pos : Pos} {P P' : Out → Prop} {K : Frag}
/-- a class of the text, its __init__ -/
structure IsCls (K : Frag) (C fI : Addr) : Prop where
  makes : makesIn K C = true
  init : findIn K (.ref C) "__init__" = some (some (.ref fI))
  fn : typeIn K (.ref fI) = some (.type "function")
theorem room_under {A : Around} {d : Nat} {C : Addr} {vs : List Value} (h : Room A (d + 2)) : Room (A.under (.builtin "type.__call__" ⟨.ref C :: vs, []⟩)) d := by
  have w : (Code.builtin "type.__call__" ⟨.ref C :: vs, []⟩).weight ≤ 2 := by
    have : (Code.builtin "type.__call__" ⟨.ref C :: vs, []⟩).weight = (Code.builtin "type.__call__" ⟨[.ref 0], []⟩).weight := by rfl
    rw [this]; decide
  have u : (Code.builtin "type.__call__" ⟨.ref C :: vs, []⟩).cUnits ≤ 20 := by
    have : (Code.builtin "type.__call__" ⟨.ref C :: vs, []⟩).cUnits = (Code.builtin "type.__call__" ⟨[.ref 0], []⟩).cUnits := by rfl
    rw [this]; decide
  refine ⟨h.hh, ?_, ?_⟩
  · have := h.depth; show A.depth + _ + d ≤ 990; first | lia | omega
  · have := h.units; show A.units + _ + 10 * d ≤ 9800; first | lia | omega
theorem cls_core {prog : Program} {w : World} {g : Heap} {C fI : Addr} {d : Nat} {ps : List VP} {R : Res} {P' : Addr → Addr → Res → Prop} (G : Grd K g) (c : IsCls K C fI)
    (h : ∀ x dx : Addr, FnR prog w g (.ref fI) d (vVal (.ref x) :: ps) ((dx, .inst x C []) :: R) fun q S => q = vVal .none ∧ P' x dx S)
    (A : Around) (F : FH) (s : Shared) (vs : List Value) (rm : Room A (d + 2)) (hg : ∀ b o, g.get? b = some o → F b = some o) (hi : Inh F s.heap) (hR : ResOK F s.heap R) (hr : Rds F ps vs) (RR : Result → Shared → Prop)
    (k : ∀ F' s' x dx S, s.heap.get? dx = none → P' x dx S → Step R.has F s F' s' → ResOK F' s'.heap S → (∀ a, S.has a → R.has a ∨ s.heap.get? a = none) → RR (.ok (.ret (.ref x))) s') :
    codeAny (model prog w) A (.call (.ref C) ⟨vs, []⟩) RR s := by
  have hgs : ∀ b o, g.get? b = some o → s.heap.get? b = some o := fun b o e => hi _ _ (hg b o e)
  have X := G.X.keeps hgs
  obtain ⟨hh, g', d', t, os⟩ := s
  refine make_core (makes_of X c.makes) (looks_findIn X c.init) (fun self => bind_fn X self c.fn) (.inl rfl) ?_
  have nD : hh.get? hh.objs.size = none := get_size _
  have nX : hh.get? (hh.objs.size + 1) = none := get_ge (Nat.le_succ _)
  have kp : ∀ b o, hh.get? b = some o → ((hh.push emptyDict).push (instObj C hh.objs.size)).get? b = some o := fun b o e => Heap.get?_push_of_some _ (Heap.get?_push_of_some _ e)
  have gD : ((hh.push emptyDict).push (instObj C hh.objs.size)).get? hh.objs.size = some emptyDict := Heap.get?_push_of_some _ (Heap.get?_push_size _ rfl)
  have gX : ((hh.push emptyDict).push (instObj C hh.objs.size)).get? (hh.objs.size + 1) = some (instObj C hh.objs.size) := by
    have := Heap.get?_push_size (hh.push emptyDict) (o := instObj C hh.objs.size) rfl
    rw [Heap.size_push] at this; exact this
  generalize hDe : hh.objs.size = D at *
  have fmn : ∀ {a : Addr}, hh.get? a = none → F a = none := fun z => none_of_fresh hi z
  have st : Step (fun _ => False) F ⟨hh, g', d', t, os⟩ (F.set (D + 1) (instObj C D)) ⟨(hh.push emptyDict).push (instObj C D), g', d', t, os⟩ := Step.freeze (s := ⟨hh, g', d', t, os⟩) hi kp nX gX
  have hR' : ResOK (F.set (D + 1) (instObj C D)) ((hh.push emptyDict).push (instObj C D)) ((D, .inst (D + 1) C []) :: R) := by
    have h0 := hR.step st fun _ _ q => q
    refine ⟨fun a ce hm => ?_, fun a ce hm => ?_, ?_⟩
    · rcases List.mem_cons.mp hm with e | hm
      · cases e
        exact ⟨FH.set_at .., emptyDict, fun _ => none, gD, ⟨[], 0, rfl, Nat.le_refl _, (fun e he => by simp at he), fun _ => rfl⟩, ⟨fun _ _ h => (List.not_mem_nil h).elim, fun _ _ => rfl⟩⟩
      · exact h0.ok a ce hm
    · rcases List.mem_cons.mp hm with e | hm
      · cases e
        rw [FH.set_ne (by show (D : Nat) ≠ D + 1; first | lia | omega)]; exact fmn nD
      · exact h0.off a ce hm
    · refine List.nodup_cons.mpr ⟨fun hm => ?_, h0.nodup⟩
      obtain ⟨⟨b, ce⟩, hm', e⟩ := List.mem_map.mp hm
      obtain ⟨o, ho⟩ := (hR.ok b ce hm').ex
      rw [show b = D from e] at ho
      have : hh.get? D = some o := ho
      rw [nD] at this; cases this
  refine h (D + 1) D _ _ _ (.ref (D + 1) :: vs) (room_under rm) (fun b o e => st.sub _ _ (hg b o e)) st.inh hR' (.cons rfl (hr.mono st.sub)) _ fun v F2 s2 q S ⟨hq, hP⟩ st2 r2 res2 fr2 => ?_
  subst hq
  cases r2
  refine ⟨rfl, k F2 s2 (D + 1) D S nD hP ?_ res2 fun a ha => ?_⟩
  · refine ⟨st.sub.trans st2.sub, st2.inh, fun a o e n => ?_, fun a o wn e => ?_, fun a o e => ?_, st2.gens, st2.os⟩
    · exact st2.fresh a o (kp a o e) (st.fresh a o e n)
    · refine st2.keep a o (fun q => ?_) (kp a o e)
      unfold Res.has at q
      rw [List.map_cons] at q
      rcases List.mem_cons.mp q with z | z
      · rw [show a = D from z] at e
        have : hh.get? D = some o := e
        rw [nD] at this; cases this
      · exact wn z
    · exact st2.live a o (kp a o e)
  · rcases fr2 a ha with z | z
    · unfold Res.has at z
      rw [List.map_cons] at z
      rcases List.mem_cons.mp z with e | z
      · exact .inr (by rw [show a = D from e]; exact nD)
      · exact .inl z
    · refine .inr ?_
      cases q : hh.get? a with
      | none => rfl
      | some o =>
        have := kp a o q
        have z' : ((hh.push emptyDict).push (instObj C D)).get? a = none := z
        rw [z'] at this; cases this
theorem FnR.cls {prog : Program} {w : World} {g : Heap} {C fI : Addr} {d : Nat} {ps : List VP} {R : Res} {P' : Addr → Addr → Res → Prop} (G : Grd K g) (c : IsCls K C fI)
    (h : ∀ x dx : Addr, FnR prog w g (.ref fI) d (vVal (.ref x) :: ps) ((dx, .inst x C []) :: R) fun q S => q = vVal .none ∧ P' x dx S) : FnR prog w g (.ref C) (d + 2) ps R fun q S => ∃ x dx, q = vVal (.ref x) ∧ P' x dx S :=
  fun A F s vs rm hg hi hR hr RR k => cls_core G c h A F s vs rm hg hi hR hr RR fun F' s' x dx S _ hP st hr' fr => k (.ref x) F' s' _ S ⟨x, dx, rfl, hP⟩ st rfl hr' fr
/-- an instance frozen as soon as it is made -/
theorem FnR.clsF {prog : Program} {w : World} {g : Heap} {C fI : Addr} {d : Nat} {ps : List VP} {R R' : Res} {fs : List (PySem.Str × VP)} (G : Grd K g) (c : IsCls K C fI)
    (h : ∀ x dx : Addr, FnR prog w g (.ref fI) d (vVal (.ref x) :: ps) ((dx, .inst x C []) :: R) fun q S => q = vVal .none ∧ S = (dx, .inst x C fs) :: R') : FnD prog w g (.ref C) (d + 2) ps R (vInst C fs) R' :=
  fun A F s vs rm hg hi hR hr RR k => cls_core (P' := fun x dx S => S = (dx, .inst x C fs) :: R') G c h A F s vs rm hg hi hR hr RR fun F2 s2 x dx S nD hS st2 res2 fr2 => by
    subst hS
    obtain ⟨fx, od, m, gd, dd, fa⟩ := res2.ok dx _ List.mem_cons_self
    have hF := res2.off dx _ List.mem_cons_self
    have sb := FH.set_sub (o := od) hF
    have hnd := res2.nodup
    rw [List.map_cons] at hnd
    refine k (.ref x) (F2.set dx od) s2 _ R' ⟨rfl, rfl⟩ (st2.thaw nD hF gd) ⟨x, dx, od, m, rfl, sb _ _ fx, FH.set_at .., dd, fa.mono sb⟩ ⟨fun a ce hm => CellOK.mono sb (res2.ok a ce (List.mem_cons_of_mem _ hm)), fun a ce hm => ?_, (List.nodup_cons.mp hnd).2⟩ fun a ha => fr2 a (by unfold Res.has; rw [List.map_cons]; exact List.mem_cons_of_mem _ ha)
    rw [FH.set_ne fun q => (List.nodup_cons.mp hnd).1 (by rw [← q]; exact List.mem_map.mpr ⟨_, hm, rfl⟩)]
    exact res2.off a ce (List.mem_cons_of_mem _ hm)
/-- a call of a class by its name -/
theorem Ev.callC {x : PySem.Str} {np : Pos} {C : Addr} {e : Expr} {rest : List Expr} {d : Nat} {ps : List VP} {R R' res' : Res} {p : VP} (G : Grd K cx.g) (hk : keepIn K (.ref C) = true) (hf : Ev cx σ (.Name x np) (vVal (.ref C)) σ)
    (ha : EvAll cx σ pos (e :: rest) ps σ₁) (hc : FnD cx.prog cx.w cx.g (.ref C) d ps R p R') (rm : Room cx.A d) (up : Upd R R' σ₁.res res')
    (he : starEach (e :: rest) cx.env = (false, eval e cx.env) :: starEach rest cx.env := by with_unfolding_all rfl) (hp : (backTo pos (starEach (e :: rest) cx.env)).any (·.1) = false := by with_unfolding_all rfl) :
    Ev cx σ (.Call (.Name x np) (e :: rest) [] pos) p { vars := σ₁.vars, res := res' } where
  like := up.like.trans ha.like
  vars := ha.vars
  run := fun F s ok Q E k => wpAny_Call_Name_kw (hf.run F s ok _ _ fun v F₁ s₁ st₁ ok₁ r₁ => by
    cases r₁
    refine callWith_KW (kws := []) (h₀ := cx.g) G.X hk rfl (ha.run F₁ s₁ ok₁ _ _ fun vs F₂ s₂ st₂ ok₂ r₂ => ?_) (by rw [hp]; rfl) he
    refine wpAny_pure ⟨G.X.keeps ok₂.g, ?_⟩
    refine wpAny_call (hc cx.A F₂ s₂ vs rm ok₂.gF ok₂.inh (ok₂.res.sub up.sub) r₂ _ fun v F₃ s₃ q S ⟨e1, e2⟩ st₃ r₃ hr₃ _ => ?_)
    subst e1; subst e2
    obtain ⟨st', ok₃⟩ := ok₂.called up st₃ hr₃
    exact k v F₃ s₃ (st₁.trans (st₂.trans (has_like ha.like ▸ st'))) ok₃ r₃)
end Mine
namespace Mine
open PySem PySem.W PySem.Calls PyProof.Rows Builtin Builtin.Str Builtin.Int
variable {cx : Cx} {σ σ₁ σ₂ σ₃ : St} {pos : Pos} {P P' : Out → Prop} {K : Frag}
/-- branches that meet -/
noncomputable def Meet (M : St → Prop) (P : Out → Prop) : Out → Prop
  | .nx σ' => ∃ σ'', Wk σ' σ'' ∧ M σ''
  | o => P o
theorem Exs.iffM {t : Expr} {b o rest : List Stmt} {c : Bool} (M : St → Prop) (ht : Tst cx σ t c σ₁) (hb : c = true → Exs cx σ₁ b (Meet M P)) (ho : c = false → Exs cx σ₁ o (Meet M P)) (hr : ∀ σ', M σ' → Exs cx σ' rest P) :
    Exs cx σ (.If t b o pos :: rest) P := by
  have conv : ∀ o, Meet M P o → Then cx rest P o := fun o h => by
    cases o with
    | nx σ' => obtain ⟨σ'', w, m⟩ := h; exact Exs.wk w (hr σ'' m)
    | _ => exact h
  exact .iff ht (fun h => (hb h).mono conv) fun h => (ho h).mono conv
/-- sums of lists, products -/
theorem EvN.addL {a b : Expr} {ps qs : List VP} (ha : Ev cx σ a (vSrc σ ps) σ) (hb : EvN cx σ b qs σ) (hsz : ps.length + qs.length ≤ sizeLine) : EvN cx σ (.BinOp a .Add b pos) (ps ++ qs) σ := .add ha hb.ev.src hsz
theorem Ev.srcRL {e : Expr} {a : Addr} {ps : List VP} (h : Ev cx σ e (vVal (.ref a)) σ₁) (hm : RAt a (.lst ps) σ₁.res) : Ev cx σ e (vSrc σ₁ ps) σ₁ := .srcR h hm.mem
theorem Ev.attrCS {o : Expr} {name : PySem.Str} {C : Addr} {mc : Value} {y : PySem.Str} {tk : Tok} {l : List Nat} (G : Grd K cx.g) (hr : readsIn K C mc = true) (hf : findCls K (.ref C) mc name = some (.val (.str y tk))) (hl : y.cps.toList = l) (ho : Ev cx σ o (vVal (.ref C)) σ₁)
    (he : eval (.Attribute o name pos) cx.env = (do
      let ov ← eval o cx.env
      standAt pos.atName
      let r ← holding [ov] (getAttr ov name true)
      letTemporaryGo o ov r
      pure r) := by with_unfolding_all rfl) : Ev cx σ (.Attribute o name pos) (vStr l) σ₁ :=
  (Ev.attrC G hr hf rfl ho he).conv fun F v r => ⟨tk, by rw [show v = _ from r, ← hl]; exact congrArg (Value.str · tk) (S2L y).symm⟩
/-- a for whose break and whose end meet -/
noncomputable def TurnB (next done : St → Prop) (P : Out → Prop) : Out → Prop
  | .nx σ' => ∃ σ'', Wk σ' σ'' ∧ next σ''
  | .ct σ' => ∃ σ'', Wk σ' σ'' ∧ next σ''
  | .bk σ' => ∃ σ'', Wk σ' σ'' ∧ done σ''
  | .rt p R => P (.rt p R)
theorem Exs.forB {target e : Expr} {body rest : List Stmt} {ps : List VP} (hi : EvIter cx σ e target ps [] σ₁) (Inv : Nat → St → Prop) (Done : St → Prop) (h0 : ∃ σ', Wk σ₁ σ' ∧ Inv 0 σ')
    (body_ : ∀ k p pv σk, ps[k]? = some p → Inv k σk → ∃ σt, As (cx.with_ pv) σk target p σt ∧ Exs (cx.with_ pv) σt body (TurnB (Inv (k + 1)) Done P))
    (fin : ∀ σk, Inv ps.length σk → ∃ σ'', Wk σk σ'' ∧ Done σ'') (after : ∀ σd, Done σd → Exs cx σd rest P)
    (hs : ∀ x, foldedSetIterable e cx.env x = pure x := by intro _; with_unfolding_all rfl) : Exs cx σ (.For target e body [] pos :: rest) P :=
  .forI hi Inv h0 (fun k p pv σk hp hk => by
    obtain ⟨σt, a, b⟩ := body_ k p pv σk hp hk
    refine ⟨σt, a, b.mono fun o h => ?_⟩
    cases o with
    | bk σ' => obtain ⟨σ'', w, d⟩ := h; exact Exs.wk w (after σ'' d)
    | _ => exact h) (fun σk hk => by obtain ⟨σ'', w, d⟩ := fin σk hk; exact Exs.wk w (after σ'' d)) hs
theorem Exs.putItem {o i value : Expr} {pp : Pos} {a : Addr} {ps : List VP} {p : VP} {k : Nat} {R' : Res} {rest : List Stmt} (qs : List VP) (hv : Ev cx σ value p σ) (ho : Ev cx σ o (vVal (.ref a)) σ) (hi : Ev cx σ i (vInt (k : Int)) σ)
    (r : RSet a (.lst ps) (.lst qs) σ.res R') (hk : k < ps.length) (hq : ps.set k p = qs) (hsz : ps.length ≤ sizeLine) (h : Exs cx { vars := σ.vars, res := R' } rest P)
    (hs : swapsWith value (some (.Subscript o i pp)) pos.line cx.env = pure false := by with_unfolding_all rfl) : Exs cx σ (.Assign [.Subscript o i pp] value pos :: rest) P := .setItem hv ho hi hk (hq ▸ r) hsz h hs
theorem strs_at {x : List Nat} {k : Nat} {p : VP} (h : (vStrs (x.map fun c => [c]))[k]? = some p) : ∃ c, x[k]? = some c ∧ p = vStr [c] := by
  unfold vStrs at h
  rw [List.map_map, List.getElem?_map] at h
  obtain ⟨c, hc, rfl⟩ := Option.map_eq_some_iff.mp h
  exact ⟨c, hc, rfl⟩
theorem strs_len {x : List Nat} : (vStrs (x.map fun c => [c])).length = x.length := by simp [vStrs]
theorem drop_at {α : Type} {x : List α} {k : Nat} {c : α} (h : x[k]? = some c) : x.drop k = c :: x.drop (k + 1) := by
  obtain ⟨hk, rfl⟩ := List.getElem?_eq_some_iff.mp h
  exact List.drop_eq_getElem_cons hk
theorem Ev.lenT {x : PySem.Str} {np : Pos} {e : Expr} {ps : List VP} (hf : Ev cx σ (.Name x np) (vVal (.builtin "len")) σ) (h : Ev cx σ e (vTup ps) σ) (hsz : ps.length ≤ sizeLine)
    (he : starEach [e] cx.env = [(false, PySem.eval e cx.env)] := by with_unfolding_all rfl) : Ev cx σ (.Call (.Name x np) [e] [] pos) (vInt ps.length) σ :=
  .callB hf (.cons h .nil he) (fun F s vs ok r => by
    obtain ⟨v, rfl, a, o, us, rfl, f, ⟨n, rfl⟩, rv⟩ := r.one
    rw [sizeLine_is] at hsz
    exact fun Q E k => PyProof.Rows.len_tuple ⟨_, ok.inh _ _ f, rfl, n, rfl⟩ (by rw [List.size_toArray, rv.length]; first | lia | omega) (k _ F _ (.toks ok.inh) ⟨_, by rw [List.size_toArray, rv.length]⟩)) he rfl
/-- a range of naturals -/
theorem EvIter.rangeN {e target : Expr} {a b : Nat} (h : Ev cx σ e (vRange (a : Int) (b : Int) 1) σ₁) (ht : Calm target) (ha : a < 2 ^ 30) (hb : b < 2 ^ 30) : EvIter cx σ e target ((List.range (b - a)).map fun (i : Nat) => vInt ((a + i : Nat) : Int)) [] σ₁ := by
  have := EvIter.range (n := b - a) h ht (small_one (by first | lia | omega) (by first | lia | omega) (by first | lia | omega) (by first | lia | omega)) (by rw [rangeSize_nat]; first | lia | omega)
  have e1 : ((List.range (b - a)).map fun (i : Nat) => vInt ((a : Int) + (i : Int) * 1)) = (List.range (b - a)).map fun (i : Nat) => vInt ((a + i : Nat) : Int) := by
    apply List.map_congr_left
    intro i _
    congr 1
    push_cast; first | lia | omega
  rw [e1] at this; exact this
theorem rangeN_at {a n k : Nat} {p : VP} (h : ((List.range n).map fun (i : Nat) => vInt ((a + i : Nat) : Int))[k]? = some p) : k < n ∧ p = vInt ((a + k : Nat) : Int) := by
  rw [List.getElem?_map] at h
  obtain ⟨z, hz, rfl⟩ := Option.map_eq_some_iff.mp h
  have hk : k < n := by simpa using (List.getElem?_eq_some_iff.mp hz).1
  rw [List.getElem?_range hk] at hz
  cases hz; exact ⟨hk, rfl⟩
theorem mulOk {a b : Int} (h : a.natAbs < 2 ^ 64 ∨ b.natAbs < 2 ^ 64) : IntMulOk a b := by
  rcases h with h | h
  · exact .of_left (intBits_le_64 (by omega) (by omega))
  · exact .of_right (intBits_le_64 (by omega) (by omega))
theorem Ev.meths {e : Expr} {p : VP} (h : Ev cx σ e p σ₁) : Ev cx σ e p σ₁ := h
end Mine
namespace Mine
open PySem PySem.W PySem.Calls PyProof.Rows Builtin
open Sem (wp)
/-! the iterator that calls -/
theorem slot_cin : Slot "callable_iterator" "__next__" "callable_iterator.__next__" :=
  .of (owner := "callable_iterator") (n := "__next__") (by rw [typeLookup_type, builtinLookup_eq_fast]; kernel_rfl) (by decide +kernel) (by decide +kernel) (by decide +kernel)
    (by first | exact .inl (by decide +kernel) | exact .inr (by decide +kernel)) (by rw [isSubtype_type]; kernel_rfl)
theorem entry_cin : entryFor table "callable_iterator.__next__" = some Builtin.«callable_iterator.__next__» := entryFor_of_tree (by kernel_rfl)
theorem owner_cin : Manifest.owners.lookup (String.ofList "callable_iterator".toList.reverse.reverse) = some Manifest.sig_callable_iterator ∨ True := .inr trivial
theorem args_cin (a : Value) : argsOk "callable_iterator.__next__" ⟨[a], []⟩ := by
  unfold argsOk; kernel_rfl
theorem slot_cii : Slot "callable_iterator" "__iter__" "callable_iterator.__iter__" :=
  .of (owner := "callable_iterator") (n := "__iter__") (by rw [typeLookup_type, builtinLookup_eq_fast]; kernel_rfl) (by decide +kernel) (by decide +kernel) (by decide +kernel)
    (by first | exact .inl (by decide +kernel) | exact .inr (by decide +kernel)) (by rw [isSubtype_type]; kernel_rfl)
theorem entry_iter2 : entryFor table "iter" = some Builtin.«iter» := entryFor_of_tree (by kernel_rfl)
theorem kind_iter2 : builtinKind "iter" = none := by decide +kernel
theorem plain_iter2 : plainId "iter" = true := by decide +kernel
theorem args_iter2 (a b : Value) : argsOk "iter" ⟨[a, b], []⟩ := by
  unfold argsOk; kernel_rfl
theorem method_call_lookup : typeLookup (.type "method") "__call__" = pure (some (.builtin "method.__call__")) := by rw [typeLookup_type, builtinLookup_eq_fast]; kernel_rfl
variable {M : Model} {A : Around} {E : Value → Shared → Prop} {s : Shared} {prog : Program} {w : World}
theorem wpAny_callBorrowed {f : Value} {pos : List Value} {Q : Value → Shared → Prop}
    (hc : codeAny M A (.call f ⟨pos, []⟩) (fun r s' => match r with | .ok (.ret v) => Q v s' | .ok _ => False | .error e => E e s') s) : wpAny M A (callBorrowed f pos) Q E s := fun Γ p hΓ => by
  unfold callBorrowed
  rw [Sem.wp_call]
  have h := hc _ p rfl (hΓ.enter (.call f ⟨pos, []⟩) none p (by intro x; cases x))
  refine wpCode_mono ?_ h
  intro r s' z
  cases r with
  | error e => exact z
  | ok f => cases f <;> exact z
/-- the iterator over a bound method, with a text as its end -/
noncomputable def CallIter (h : Heap) (I p : Addr) (t : Tok) (ended : Bool) : Prop := h.get? I = some { cls := .type "callable_iterator", data := .fields #[if ended then .none else .ref p, if ended then .none else .str ⟨#[]⟩ t, .bool ended] }
theorem call_iter2 {p : Addr} {f self : Value} {v : Value} {Q : Value → Shared → Prop} (hm : s.heap.get? p = some (methodObj f self))
    (h : Q (.ref s.heap.objs.size) { s with heap := s.heap.push { cls := .type "callable_iterator", data := .fields #[.ref p, v, .bool false] } }) : wpAny (model prog w) A (call (.builtin "iter") [.ref p, v]) Q E s := by
  refine Calls.call_function_entry kind_iter2 plain_iter2 entry_iter2 (args_iter2 _ _) ?_
  unfold Builtin.«iter»
  refine wpAny_bind (m := someArgs "iter" 1 2 _) (wpAny_pure ?_)
  dsimp only
  have hT : Looks (model prog w) s.heap (specialOf (.ref p) "__call__") (some (.builtin "method.__call__")) := by
    refine Looks.andThen (a := .type "method") ((Looks.ld (part := none) hm).andThen .now) ?_
    rw [method_call_lookup]; exact .now
  refine wpAny_bind (hT.here ?_)
  simp only [Option.isNone_some, Bool.false_eq_true, if_false]
  refine wpAny_bind (wpAny_rule ?_)
  unfold newFields
  exact wpAny_bind (wpAny_newObj_type (wpAny_pure ⟨_, rfl, h⟩))
theorem borrows {p f : Addr} {self : Value} {of_ : Obj} {fd : FuncData} (hm : s.heap.get? p = some (methodObj (.ref f) self)) (hf : s.heap.get? f = some of_) (hd : of_.data = .func fd) : Looks (model prog w) s.heap (borrowsExactly (.ref p)) true := by
  unfold borrowsExactly
  refine (Looks.ld (part := none) hm).andThen ?_
  dsimp only [methodObj]
  rw [if_pos (by decide)]
  show Looks _ _ (do match (← PySem.load f).data with | .func _ => pure true | _ => pure false) true
  refine (Looks.ld (part := none) hf).andThen ?_
  rw [hd]; exact .now
theorem cin_item {I p f : Addr} {t : Tok} {self : Value} {of_ : Obj} {fd : FuncData} {Q : Value → Shared → Prop} (hI : CallIter s.heap I p t false) (hm : s.heap.get? p = some (methodObj (.ref f) self)) (hf : s.heap.get? f = some of_) (hd : of_.data = .func fd)
    (h : codeAny (model prog w) A (.call (.ref f) ⟨[self], []⟩) (fun r s' => ∃ v, r = .ok (.ret v) ∧ CallIter s'.heap I p t false ∧ ∃ x tk, v = .str (L2S x) tk ∧ x ≠ [] ∧ Q v s') s) :
    wpAny (model prog w) A (Builtin.«callable_iterator.__next__» ⟨[.ref I], []⟩) (fun fin s' => ∃ v, fin = .done (.ret v) ∧ Q v s') E s := by
  show wpAny _ _ (field (.ref I) 2 >>= _) _ _ _
  refine wpAny_bind (wpAny_field hI rfl (x := .bool false) rfl ?_)
  show wpAny _ _ (field (.ref I) 0 >>= _) _ _ _
  refine wpAny_bind (wpAny_field hI rfl (x := .ref p) rfl ?_)
  refine wpAny_bind (wpAny_attempt (wpAny_bind ((borrows hm hf hd).here ?_)))
  simp only [if_true]
  refine wpAny_callBorrowed (method_call hm (codeAny_mono h fun r s' z => ?_))
  obtain ⟨v, rfl, hI', x, tk, rfl, hne, q⟩ := z
  show wpAny _ _ (field (.ref I) 2 >>= _) _ _ _
  refine wpAny_bind (wpAny_field hI' rfl (x := .bool false) rfl ?_)
  show wpAny _ _ (field (.ref I) 1 >>= _) _ _ _
  refine wpAny_bind (wpAny_field hI' rfl (x := .str ⟨#[]⟩ t) rfl ?_)
  refine wpAny_bind (wpAny_holding (eqBool_str ?_))
  have hb : ((⟨#[]⟩ : PySem.Str) == L2S x) = false := by
    cases x with
    | nil => exact absurd rfl hne
    | cons c r => exact beq_false_of_ne fun e => by have := congrArg S2 e; unfold S2 at this; rw [L2S_toList] at this; cases this
  rw [hb]
  exact wpAny_bind (wpAny_pure (wpAny_pure ⟨_, rfl, q⟩))
theorem cin_end {I p f : Addr} {t : Tok} {self : Value} {of_ : Obj} {fd : FuncData} {Q : Value → Shared → Prop} (hh : A.handled = none) (hI : CallIter s.heap I p t false) (hm : s.heap.get? p = some (methodObj (.ref f) self)) (hf : s.heap.get? f = some of_) (hd : of_.data = .func fd)
    (h : codeAny (model prog w) A (.call (.ref f) ⟨[self], []⟩) (fun r s' => ∃ tk, r = .ok (.ret (.str ⟨#[]⟩ tk)) ∧ CallIter s'.heap I p t false ∧ s'.heap.get? p = some (methodObj (.ref f) self) ∧ s'.heap.get? f = some of_ ∧
      ∀ h' e, (∀ b o, b ≠ I → s'.heap.get? b = some o → h'.get? b = some o) → CallIter h' I p t true → (∃ o, h'.get? e = some o ∧ o.cls = .type "StopIteration") → E (.ref e) { s' with heap := h' }) s) :
    wpAny (model prog w) A (Builtin.«callable_iterator.__next__» ⟨[.ref I], []⟩) (fun fin s' => ∃ v, fin = .done (.ret v) ∧ Q v s') E s := by
  show wpAny _ _ (field (.ref I) 2 >>= _) _ _ _
  refine wpAny_bind (wpAny_field hI rfl (x := .bool false) rfl ?_)
  show wpAny _ _ (field (.ref I) 0 >>= _) _ _ _
  refine wpAny_bind (wpAny_field hI rfl (x := .ref p) rfl ?_)
  refine wpAny_bind (wpAny_attempt (wpAny_bind ((borrows hm hf hd).here ?_)))
  simp only [if_true]
  refine wpAny_callBorrowed (method_call hm (codeAny_mono h fun r s' z => ?_))
  obtain ⟨tk, rfl, hI', hm', hf', k⟩ := z
  show wpAny _ _ (field (.ref I) 2 >>= _) _ _ _
  refine wpAny_bind (wpAny_field hI' rfl (x := .bool false) rfl ?_)
  show wpAny _ _ (field (.ref I) 1 >>= _) _ _ _
  refine wpAny_bind (wpAny_field hI' rfl (x := .str ⟨#[]⟩ t) rfl ?_)
  refine wpAny_bind (wpAny_holding (eqBool_str ?_))
  rw [show ((⟨#[]⟩ : PySem.Str) == ⟨#[]⟩) = true from rfl]
  simp only [Bool.not_true, Bool.false_eq_true, if_false]
  refine wpAny_bind (wpAny_rule (wpAny_bind ?_))
  show wpAny _ _ (field (.ref I) 0 >>= _) _ _ _
  refine wpAny_bind (wpAny_field hI' rfl (x := .ref p) rfl ?_)
  refine wpAny_bind (m := slotLetsGo _ _ _) ?_
  unfold slotLetsGo
  refine wpAny_bind ((borrows hm' hf' hd).here ?_)
  simp only [if_true]
  refine wpAny_pure ?_
  refine wpAny_bind (wpAny_setField_rec hI' (by simp) fun h₁ g₁ s₁ => ?_)
  refine wpAny_bind (wpAny_setField_rec g₁ (by simp) fun h₂ g₂ s₂ => ?_)
  refine wpAny_setField_rec g₂ (by simp) fun h₃ g₃ s₃ => ?_
  have hI₃ : CallIter h₃ I p t true := g₃
  show wpAny _ _ (newExc (.type "StopIteration") [] >>= _) _ _ _
  refine wpAny_bind ?_
  simp only [newExc, newTuple]
  refine wpAny_bind (wpAny_newObj_type ?_ (by size_fits))
  refine wpAny_bind (m := firstArgMember _ _) (wpAny_of_eq (a := Value.none) (by first | rfl | (simp only [firstArgMember]; rfl)) ?_)
  refine wpAny_newObj_type ?_ (by size_fits)
  refine wpAny_raiseNew_none hh ?_
  refine k _ _ (fun b o hb e => ?_) ?_ ⟨_, Heap.get?_push_size _ rfl, rfl⟩
  · exact Heap.get?_push_of_some _ (Heap.get?_push_of_some _ ((s₃.2 b hb).trans ((s₂.2 b hb).trans ((s₁.2 b hb).trans e))))
  · exact Heap.get?_push_of_some _ (Heap.get?_push_of_some _ hI₃)
end Mine
namespace Mine
open PySem PySem.W PySem.Calls PyProof.Rows Builtin
variable {cx : Cx} {σ σ₁ σ₂ σ₃ : St} {pos : Pos} {P P' : Out → Prop} {K : Frag}
noncomputable abbrev ciObj (p : Addr) (t : Tok) (ended : Bool) : Obj := { cls := .type "callable_iterator", data := .fields #[if ended then .none else .ref p, if ended then .none else .str ⟨#[]⟩ t, .bool ended] }
theorem Room.in1 {A : Around} {d : Nat} (h : Room A (d + 1)) : Room A.in1 d := ⟨h.hh, by have := h.depth; show A.depth + d ≤ 990; first | lia | omega, by have := h.units; show A.units + 1 + 10 * d ≤ 9800; first | lia | omega⟩
theorem upd_raw {R R' l l' : Res} {I : Addr} {c : Cell} (up : Upd R R' l l') (hn : (l.map (·.1)).Nodup) (h : (I, c) ∈ l) (hR : ¬ R.has I) : (I, c) ∈ l' := by
  induction up with
  | nil => exact h
  | skip u ih =>
    rw [List.map_cons] at hn
    rcases List.mem_cons.mp h with e | h
    · exact e ▸ List.mem_cons_self
    · exact List.mem_cons_of_mem _ (ih (List.nodup_cons.mp hn).2 h hR)
  | take u ih =>
    rename_i R R' l l' a c1 c2
    rw [List.map_cons] at hn
    rcases List.mem_cons.mp h with e | h
    · cases e
      exact absurd (by unfold Res.has; simp) hR
    · exact List.mem_cons_of_mem _ (ih (List.nodup_cons.mp hn).2 h fun q => hR (by unfold Res.has at q ⊢; rw [List.map_cons]; exact List.mem_cons_of_mem _ q))
theorem StOK.turnW {F s h' tk a c c' R'} (ok : StOK cx F s σ) (r : RSet a c c' σ.res R') (hs : ∀ b o, b ≠ a → s.heap.get? b = some o → h'.get? b = some o) (hc : CellOK F h' a c') :
    Step σ.res.has F s F { s with heap := h', toks := tk } ∧ StOK cx F { s with heap := h', toks := tk } { vars := σ.vars, res := R' } := by
  have hF : F a = none := ok.res.off a c r.mem
  have st : Step σ.res.has F s F { s with heap := h', toks := tk } := by
    refine ⟨.refl F, fun b o e => ?_, fun _ _ _ n => n, fun b o w e => ?_, fun b o e => ?_, rfl, rfl⟩
    · exact hs b o (fun q => by rw [q, hF] at e; cases e) (ok.inh b o e)
    · exact hs b o (fun q => w (q ▸ Res.has_of r.mem)) e
    · by_cases q : b = a
      · subst q; exact hc.ex
      · exact ⟨o, hs b o q e⟩
  refine ⟨st, ok.step (σ' := { vars := σ.vars, res := R' }) st rfl ⟨fun b d hm => ?_, fun b d hm => ?_, ?_⟩ r.names⟩
  · rcases r.set ok.res.nodup b d hm with ⟨rfl, rfl⟩ | ⟨hne, hm'⟩
    · exact hc
    · exact (ok.res.ok b d hm').at fun o e => hs b o hne e
  · rcases r.set ok.res.nodup b d hm with ⟨rfl, rfl⟩ | ⟨hne, hm'⟩
    · exact hF
    · exact ok.res.off b d hm'
  · show (R'.map (·.1)).Nodup
    rw [r.names]; exact ok.res.nodup
/-- the next sign of an iterator that calls -/
theorem next_item {F s} {I p f : Addr} {t : Tok} {self : Value} {d : Nat} {R R' res' : Res} {x : List Nat} (ok : StOK cx F s σ) (G : Grd K cx.g) (fo : IsF K f) (hI : (I, Cell.raw (ciObj p t false) [(p, methodObj (.ref f) self)]) ∈ σ.res) (hIR : ¬ R.has I)
    (hc : FnD cx.prog cx.w cx.g (.ref f) d [vVal self] R (vStr x) R') (rm : Room cx.A (d + 1)) (up : Upd R R' σ.res res') (hx : x ≠ []) {Q : Option Value → Shared → Prop} {E : Value → Shared → Prop}
    (k : ∀ v F' s', Step σ.res.has F s F' s' → StOK cx F' s' { vars := σ.vars, res := res' } → (vStr x).rd F' v → Q (some v) s') : wpAny (model cx.prog cx.w) cx.A (pyNext (.ref I)) Q E s := by
  obtain ⟨gI0, fz⟩ := ok.res.ok I _ hI
  have gI : CallIter s.heap I p t false := gI0
  have hp : F p = some (methodObj (.ref f) self) := fz _ _ List.mem_cons_self
  have hT : s.TypeIs (.ref I) "callable_iterator" := ⟨_, gI, rfl⟩
  obtain ⟨of_, fd, hof, hfd⟩ := fo
  unfold pyNext
  refine wpAny_bind (wpAny_attempt (wpAny_callSpecial?_slot (name := PySem.Str.ofString "__next__") hT slot_cin
    (wpAny_call_entry slot_cin hT entry_cin (cin_item (Q := fun v s' => wpAny (model cx.prog cx.w) cx.A (pure (some v)) Q E s') gI (ok.inh _ _ hp) (ok.g _ _ (G.X _ _ hof)) hfd ?_) (args_cin _))))
  refine hc cx.A.in1 F s [self] rm.in1 ok.gF ok.inh (ok.res.sub up.sub) (.cons rfl .nil) _ fun v F₃ s₃ q' S ⟨e1, e2⟩ st₃ r₃ hr₃ _ => ?_
  subst e1; subst e2
  obtain ⟨st', ok₃⟩ := ok.called up st₃ hr₃
  obtain ⟨tk, rfl⟩ := r₃
  exact ⟨_, rfl, (ok₃.res.ok I _ (upd_raw up ok.res.nodup hI hIR)).1, x, tk, rfl, hx, wpAny_pure (k _ F₃ s₃ st' ok₃ ⟨tk, rfl⟩)⟩
theorem next_end {F s} {I p f : Addr} {t : Tok} {self : Value} {d : Nat} {R R' res' res'' : Res} (ok : StOK cx F s σ) (G : Grd K cx.g) (fo : IsF K f) (hI : (I, Cell.raw (ciObj p t false) [(p, methodObj (.ref f) self)]) ∈ σ.res) (hIR : ¬ R.has I)
    (hc : FnD cx.prog cx.w cx.g (.ref f) d [vVal self] R (vStr []) R') (rm : Room cx.A (d + 1)) (up : Upd R R' σ.res res') (rs : RSet I (.raw (ciObj p t false) [(p, methodObj (.ref f) self)]) (.raw (ciObj p t true) []) res' res'') {Q : Option Value → Shared → Prop} {E : Value → Shared → Prop}
    (k : ∀ F' s', Step σ.res.has F s F' s' → StOK cx F' s' { vars := σ.vars, res := res'' } → Q none s') : wpAny (model cx.prog cx.w) cx.A (pyNext (.ref I)) Q E s := by
  obtain ⟨gI0, fz⟩ := ok.res.ok I _ hI
  have gI : CallIter s.heap I p t false := gI0
  have hp : F p = some (methodObj (.ref f) self) := fz _ _ List.mem_cons_self
  have hT : s.TypeIs (.ref I) "callable_iterator" := ⟨_, gI, rfl⟩
  obtain ⟨of_, fd, hof, hfd⟩ := fo
  unfold pyNext
  refine wpAny_bind (wpAny_attempt (wpAny_callSpecial?_slot (name := PySem.Str.ofString "__next__") hT slot_cin
    (wpAny_call_entry slot_cin hT entry_cin (cin_end rm.hh gI (ok.inh _ _ hp) (ok.g _ _ (G.X _ _ hof)) hfd ?_) (args_cin _))))
  refine hc cx.A.in1 F s [self] rm.in1 ok.gF ok.inh (ok.res.sub up.sub) (.cons rfl .nil) _ fun v F₃ s₃ q' S ⟨e1, e2⟩ st₃ r₃ hr₃ _ => ?_
  subst e1; subst e2
  obtain ⟨st', ok₃⟩ := ok.called up st₃ hr₃
  obtain ⟨tk, rfl⟩ := r₃
  have hF3 : F₃ p = some (methodObj (.ref f) self) := st₃.sub _ _ hp
  refine ⟨tk, rfl, (ok₃.res.ok I _ (upd_raw up ok.res.nodup hI hIR)).1, ok₃.inh _ _ hF3, ok₃.g _ _ (G.X _ _ hof), fun h' e hk hci he => ?_⟩
  obtain ⟨o, ho, hcl⟩ := he
  refine wpAny_bind (wpAny_isInstance (T := "StopIteration") (b := true) ⟨o, ho, hcl⟩ isSubtype_stop ?_)
  refine wpAny_pure ?_
  obtain ⟨st₄, ok₄⟩ := ok₃.turnW (tk := s₃.toks) rs (fun b o hb e => hk b o hb e) (c' := .raw (ciObj p t true) []) ⟨hci, fun _ _ h => (List.not_mem_nil h).elim⟩
  exact k F₃ _ (st'.trans (has_like (σ := σ) (σ' := { vars := σ.vars, res := res' }) up.like ▸ st₄)) ok₄
theorem entry_cii : entryFor table "callable_iterator.__iter__" = some Builtin.«dict_keyiterator.__iter__» :=
  entryFor_alias (id' := "dict_keyiterator.__iter__") (by kernel_rfl) (by first | rfl | decide +kernel | (unfold String.splitOn; simp +decide [String.splitOnAux])) (by decide +kernel) (by kernel_rfl)
theorem args_cii (a : Value) : argsOk "callable_iterator.__iter__" ⟨[a], []⟩ := by unfold argsOk; kernel_rfl
theorem iter_ci {prog : Program} {w : World} {A : Around} {E : Value → Shared → Prop} {s : Shared} {I p : Addr} {t : Tok} {b : Bool} {Q : Value → Shared → Prop} (hI : s.heap.get? I = some (ciObj p t b)) (h : Q (.ref I) s) : wpAny (model prog w) A (pyIter (.ref I)) Q E s := by
  have hT : s.TypeIs (.ref I) "callable_iterator" := ⟨_, hI, rfl⟩
  refine wpAny_pyIter_slot hT slot_cii (wpAny_call_entry slot_cii hT entry_cii ?_ (args_cii _))
  show wpAny _ _ (ret (.ref I)) _ _ s
  exact wpAny_pure ⟨_, rfl, "callable_iterator", _, hT, slot_cin.lookup, h⟩
/-- one turn of a for over an iterator that calls -/
structure CallTurn (cx : Cx) (K : Frag) (σ : St) (I : Addr) (x : List Nat) (res' : Res) : Prop where
  ex : ∃ p f t self d R R', (I, Cell.raw (ciObj p t false) [(p, methodObj (.ref f) self)]) ∈ σ.res ∧ ¬ Res.has R I ∧ IsF K f ∧ Room cx.A (d + 1) ∧ FnD cx.prog cx.w cx.g (.ref f) d [vVal self] R (vStr x) R' ∧
    (x ≠ [] → Upd R R' σ.res res') ∧ (x = [] → ∃ res1, Upd R R' σ.res res1 ∧ RSet I (.raw (ciObj p t false) [(p, methodObj (.ref f) self)]) (.raw (ciObj p t true) []) res1 res')
/-- a for over it, by an invariant and a measure -/
theorem Exs.forCall {tx x : PySem.Str} {tp np : Pos} {body rest : List Stmt} {I : Addr} (G : Grd K cx.g)
    (Inv : Nat → St → Prop) (n₀ : Nat) (he : Ev cx σ (.Name x np) (vVal (.ref I)) σ) (hraw : ∃ p t fz, (I, Cell.raw (ciObj p t false) fz) ∈ σ.res) (h0 : ∃ σ', Wk σ σ' ∧ Inv n₀ σ')
    (turn : ∀ n σn, Inv n σn → ∃ y res', CallTurn cx K σn I y res' ∧
      (y ≠ [] → ∃ σt, As cx { vars := σn.vars, res := res' } (.Name tx tp) (vStr y) σt ∧ Exs cx σt body (TurnI cx (fun σ' => ∃ m, m < n ∧ Inv m σ') rest P)) ∧
      (y = [] → Exs cx { vars := σn.vars, res := res' } rest P))
    (hs : ∀ z, foldedSetIterable (.Name x np) cx.env z = pure z := by intro _; with_unfolding_all rfl) : Exs cx σ (.For (.Name tx tp) (.Name x np) body [] pos :: rest) P := .cons fun F s ok Q E k => by
  refine wpAny_For (he.run F s ok _ _ fun v F₁ s₁ st₁ ok₁ r₁ => ?_) hs
  cases r₁
  obtain ⟨p0, t0, fz0, hr0⟩ := hraw
  refine iter_ci (p := p0) (t := t0) (b := false) (ok₁.res.ok I _ hr0).1 ?_
  obtain ⟨σ0, w0, i0⟩ := h0
  refine codeAny_forLoop_any (fun n s' => ∃ F' σn, StOK cx F' s' σn ∧ Inv n σn ∧ Sub F F') ?_ n₀ ⟨F₁, σ0, ok₁.wk w0, i0, st₁.sub⟩
  rintro n s' ⟨F', σn, ok', hinv, hsub⟩
  obtain ⟨y, res', ⟨p, f, t, self, d, R, R', hI, hIR, fo, rm, hc, hu1, hu2⟩, hb, hend⟩ := turn n σn hinv
  by_cases hy : y = []
  · subst hy
    obtain ⟨res1, up, rs⟩ := hu2 rfl
    refine next_end ok' G fo hI hIR hc rm up rs fun F₂ s₂ st₂ ok₂ => ?_
    exact wpAny_execs_nil (k .next F₂ s₂ (.nx _) (hsub.trans st₂.sub) ok₂ (hend rfl))
  · refine next_item ok' G fo hI hIR hc rm (hu1 hy) hy fun v F₂ s₂ st₂ ok₂ rv => ?_
    obtain ⟨σt, ht, hbody⟩ := hb hy
    refine wpAny_of_eq (calm_name _ _) ?_
    refine ht.run F₂ s₂ v ok₂ rv _ _ fun s₃ ok₃ => ?_
    refine hbody F₂ s₃ ok₃ _ _ fun fl F₄ s₄ o sb oo po => ?_
    have sb' := (hsub.trans st₂.sub).trans sb
    cases fl with
    | next => cases o with
      | nx σ' => obtain ⟨σ'', w, m, hm, iv⟩ := po; exact ⟨m, hm, F₄, σ'', StOK.wk oo w, iv, sb'⟩
      | _ => exact oo.elim
    | cont => cases o with
      | ct σ' => obtain ⟨σ'', w, m, hm, iv⟩ := po; exact ⟨m, hm, F₄, σ'', StOK.wk oo w, iv, sb'⟩
      | _ => exact oo.elim
    | brk => cases o with
      | bk σ' => exact k .next F₄ s₄ (.nx σ') sb' oo po
      | _ => exact oo.elim
    | ret v => cases o with
      | rt p R => exact k (.ret v) F₄ s₄ (.rt p R) sb' oo po
      | _ => exact oo.elim
end Mine
namespace Mine
open PySem PySem.W PySem.Calls PyProof.Rows Builtin
variable {cx : Cx} {σ σ₁ σ₂ σ₃ : St} {pos : Pos} {P P' : Out → Prop} {K : Frag}
/-- a bound method -/
noncomputable def vMeth (f : Addr) (self : Value) : VP := ⟨fun F v => ∃ p, v = .ref p ∧ F p = some (methodObj (.ref f) self), fun h ⟨p, e, q⟩ => ⟨p, e, h _ _ q⟩⟩
structure BoundOf (K : Frag) (C : Addr) (name : PySem.Str) (f : Addr) : Prop where
  cls : ∃ cd, clsIn K C = some cd ∧ cd.hasDict = true
  meth : MethOf K C name f
  get : specialIn K (.ref f) "__get__" = some (some (.builtin "function.__get__"))
  takes : takesIn K (.ref f) = some false
  copied : copiedNames.contains name = false
theorem BoundOf.find {C f : Addr} {name : PySem.Str} (B : BoundOf K C name f) {od : Obj} (h : lookIn name od = some none) : findObj K C (some od) name = some (.bind (.builtin "function.__get__") (.ref f)) := by
  obtain ⟨cd, hc, hd⟩ := B.cls
  unfold findObj
  rw [hc, Option.bind_some, B.meth.find, Option.bind_some]
  dsimp only
  rw [B.get, Option.bind_some]
  dsimp only
  rw [B.takes, Option.bind_some]
  dsimp only
  have ho : W.ownOf cd (some od) name = some none := by unfold W.ownOf; rw [if_pos hd]; exact h
  rw [ho, Option.bind_some]
  dsimp only
  rw [B.copied]
  rfl
theorem Ev.bound {o : Expr} {name : PySem.Str} {x d C f : Addr} {fs : List (PySem.Str × VP)} (G : Grd K cx.g) (B : BoundOf K C name f) (ho : Ev cx σ o (vVal (.ref x)) σ₁) (hm : RAt d (.inst x C fs) σ₁.res) (hn : (fs.map (·.1)).all (fun y => !(y == name)) = true)
    (he : eval (.Attribute o name pos) cx.env = (do
      let ov ← eval o cx.env
      standAt pos.atName
      let r ← holding [ov] (getAttr ov name true)
      letTemporaryGo o ov r
      pure r) := by with_unfolding_all rfl) : Ev cx σ (.Attribute o name pos) (vMeth f (.ref x)) σ₁ where
  like := ho.like
  vars := ho.vars
  run := fun F s ok Q E k => Attribute_any_ (ho.run F s ok _ _ fun v F₁ s₁ st₁ ok₁ r₁ => by
    cases r₁
    obtain ⟨fx, od, m, gd, ⟨es, n, rfl, hl, hk, hf⟩, fa⟩ := ok₁.res.ok d _ hm.mem
    have hno : m name = none := fa.2 name fun q => by
      have := List.all_eq_true.mp hn name q
      simp at this
    have X := G.X.keeps ok₁.g
    refine get_bind X (instAt_of (ok₁.inh _ _ fx) gd) (plainGet_of B.meth.get).1 (B.find (by rw [lookIn_dict]; exact getL_of hk ((hf name).trans hno))) (plainGet_of B.meth.get).2 ?_
    refine wpAny_call (fn_get (s := { s₁ with toks := s₁.toks + 1 }) X B.meth.fn ?_)
    refine handed_on rfl ?_
    have st2 : Step (fun _ => False) F₁ s₁ (F₁.set s₁.heap.objs.size (methodObj (.ref f) (.ref x))) { s₁ with heap := s₁.heap.push (methodObj (.ref f) (.ref x)), toks := s₁.toks + 1 } := .push ok₁.inh rfl
    exact k _ _ _ (st₁.trans (st2.weaken fun _ h => h.elim)) (ok₁.pure st2) ⟨_, rfl, FH.set_at ..⟩) he
/-- a new raw cell -/
theorem StOK.ownRaw {F s h' tk a o fz} (ok : StOK cx F s σ) (hk : ∀ b ob, s.heap.get? b = some ob → h'.get? b = some ob) (hn : s.heap.get? a = none) (ha : h'.get? a = some o) (hf : ∀ b ob, (b, ob) ∈ fz → F b = some ob) :
    StOK cx F { s with heap := h', toks := tk } { vars := σ.vars, res := (a, .raw o fz) :: σ.res } := by
  have ok' : StOK cx F { s with heap := h', toks := tk } σ := ok.keep hk
  have hnot : ∀ b, σ.res.has b → b ≠ a := fun b hb q => by
    obtain ⟨⟨b', c⟩, hm, rfl⟩ := List.mem_map.mp hb
    obtain ⟨ob, e⟩ := (ok.res.ok b' c hm).ex
    rw [show b' = a from q, hn] at e; cases e
  have hF : F a = none := none_of_fresh ok.inh hn
  have ap := ok.apartOf (ms := [a]) fun m hm => by rw [List.mem_singleton.mp hm]; exact hn
  have ha' : a ∈ [a] := List.mem_singleton.mpr rfl
  have has : ∀ b, Res.has ((a, Cell.raw o fz) :: σ.res) b → b = a ∨ σ.res.has b := fun b hb => by
    unfold Res.has at hb; rw [List.map_cons] at hb; exact List.mem_cons.mp hb
  refine { ok' with locR := fun q => ?_, cells := fun y c hm => ⟨(ok'.cells y c hm).1, (ok'.cells y c hm).2.1, fun q => ?_⟩, res := ⟨?_, ?_, ?_⟩, resW := fun b hb => ?_, priv := fun b ob hm => ?_ }
  · rcases has _ q with h | h
    · exact ap.loc (by rw [h]; exact ha')
    · exact ok.locR h
  · rcases has _ q with h | h
    · exact ap.cell y c hm (by rw [h]; exact ha')
    · exact (ok.cells y c hm).2.2 h
  · intro b c hm
    rcases List.mem_cons.mp hm with e | hm
    · cases e; exact ⟨ha, hf⟩
    · exact ok'.res.ok b c hm
  · intro b c hm
    rcases List.mem_cons.mp hm with e | hm
    · cases e; exact hF
    · exact ok.res.off b c hm
  · exact List.nodup_cons.mpr ⟨fun hm => hnot a hm rfl, ok.res.nodup⟩
  · rcases has _ hb with h | h
    · exact .inr (by rw [h]; exact ap.s0 a ha')
    · exact ok.resW b h
  · obtain ⟨p1, p2, p3, p4, p5⟩ := ok'.priv b ob hm
    refine ⟨p1, p2, fun q => ?_, p4, p5⟩
    rcases has _ q with h | h
    · exact ap.priv b ob hm (by rw [h]; exact ha')
    · exact p3 h
/-- iter(f, '') for a name -/
theorem Exs.assignIter {x fx : PySem.Str} {np fp cp : Pos} {a b : Expr} {f : Addr} {self : Value} {rest : List Stmt} (hf : Ev cx σ (.Name fx fp) (vVal (.builtin "iter")) σ) (ha : EvAll cx σ cp [a, b] [vMeth f self, vStr []] σ)
    (h : ∀ (I p : Addr) (t : Tok), cx.s0.heap.get? I = none → ∃ l, Put cx { vars := σ.vars, res := (I, .raw (ciObj p t false) [(p, methodObj (.ref f) self)]) :: σ.res } x (vVal (.ref I)) l ∧ Exs cx { vars := l, res := (I, .raw (ciObj p t false) [(p, methodObj (.ref f) self)]) :: σ.res } rest P)
    (he : starEach [a, b] cx.env = (false, eval a cx.env) :: starEach [b] cx.env := by with_unfolding_all rfl) (hp : (backTo cp (starEach [b] cx.env)).any (·.1) = false := by with_unfolding_all rfl)
    (hs : swapsWithSole [.Name x np] (.Call (.Name fx fp) [a, b] [] cp) pos.line cx.env = pure false := by with_unfolding_all rfl) (hw : swappedStores [.Name x np] (.Call (.Name fx fp) [a, b] [] cp) cx.env = pure none := by with_unfolding_all rfl)
    (hae : (assignEach [.Name x np] cx.env).map (·.2) = [PySem.assign (.Name x np) cx.env] := by with_unfolding_all rfl) : Exs cx σ (.Assign [.Name x np] (.Call (.Name fx fp) [a, b] [] cp) pos :: rest) P := .cons fun F s ok Q E k =>
  wpAny_Assign_stores (wpAny_Call_Name_kw (hf.run F s ok _ _ fun v F₁ s₁ st₁ ok₁ r₁ => by
    cases r₁
    show wpAny _ _ (callWith cp (.builtin "iter") [] (backTo cp (starEach [a, b] cx.env)) []) _ _ s₁
    rw [he]
    refine callWith_builtin (by show (false || (backTo cp (starEach [b] cx.env)).any (·.1)) = false; rw [hp]; rfl) (evalArgs_plain ?_)
    have hrun := ha.run F₁ s₁ ok₁
    rw [he] at hrun
    refine hrun _ _ fun vs F₂ s₂ st₂ ok₂ r₂ => ?_
    obtain ⟨u, z, rfl, ⟨p, rfl, hpf⟩, ⟨t, rfl⟩⟩ := r₂.two
    refine call_iter2 (ok₂.inh _ _ hpf) ?_
    rw [hae]
    have h0 : cx.s0.heap.get? s₂.heap.objs.size = none := (ok₂.apartOf (ms := [s₂.heap.objs.size]) fun m hm => by rw [List.mem_singleton.mp hm]; exact get_size _).s0 _ (List.mem_singleton.mpr rfl)
    obtain ⟨l, hput, hx⟩ := h s₂.heap.objs.size p t h0
    have ok₃ := ok₂.ownRaw (h' := s₂.heap.push (ciObj p t false)) (tk := s₂.toks) (o := ciObj p t false) (fz := [(p, methodObj (.ref f) self)]) (fun b ob e => Heap.get?_push_of_some _ e) (get_size _) (Heap.get?_push_size _ rfl) fun b ob hm => by cases List.mem_singleton.mp hm; exact hpf
    exact wpAny_assign_Name (hput.run ok₃ rfl fun s' ok' => k .next F₂ s' (.nx _) (st₁.sub.trans st₂.sub) ok' hx))) hs hw
end Mine
namespace Mine
open PySem PySem.W PySem.Calls PyProof.Rows Builtin
variable {cx : Cx} {σ σ₁ σ₂ σ₃ : St} {pos : Pos} {P P' : Out → Prop} {K : Frag}
/-- a function made while the law runs -/
noncomputable def vFn (a : Addr) (o : Obj) : VP := ⟨fun F v => v = .ref a ∧ F a = some o, fun h ⟨e, q⟩ => ⟨e, h _ _ q⟩⟩
theorem handed_fn {a : Addr} {o : Obj} : Handed (vFn a o) := fun F v ⟨e, _⟩ => by rw [e]; rfl
/-- a field that is called -/
structure FieldFn (K : Frag) (C : Addr) (name : PySem.Str) : Prop where
  own : OwnAttr K C name
  find : findIn K (.ref C) name = some none
theorem Ev.callField {o e : Expr} {rest : List Expr} {name : PySem.Str} {ap : Pos} {C fa : Addr} {fo : Obj} {fd : FuncData} {fs : List (PySem.Str × VP)} {d : Nat} {ps : List VP} {R R' res' : Res} {q : VP} (G : Grd K cx.g) (FF : FieldFn K C name) (ho : Ev cx σ o (vInst C fs) σ₁) (hf : At name (vFn fa fo) fs) (hfd : fo.data = .func fd)
    (ha : EvAll cx σ₁ pos (e :: rest) ps σ₂) (hc : FnD cx.prog cx.w cx.g (.ref fa) d ps R q R') (rm : Room cx.A d) (up : Upd R R' σ₂.res res')
    (he : starEach (e :: rest) cx.env = (false, eval e cx.env) :: starEach rest cx.env := by with_unfolding_all rfl)
    (hk : ∃ pl, eval (.Call (.Attribute o name ap) (e :: rest) [] pos) cx.env = (do
      let ov ← eval o cx.env
      standAt ap.atName
      let (f, first) ← holding [ov] (getMethod ov name pl)
      callWith pos f first (backTo pos (starEach (e :: rest) cx.env)) (backToKw pos (keywordEach [] cx.env))) := by exact ⟨_, by with_unfolding_all rfl⟩) :
    Ev cx σ (.Call (.Attribute o name ap) (e :: rest) [] pos) q { vars := σ₂.vars, res := res' } where
  like := up.like.trans (ha.like.trans ho.like)
  vars := ha.vars.trans ho.vars
  run := fun F s ok Q E k => by
    obtain ⟨pl, hk⟩ := hk
    refine methodCall_KW (pl := pl) (ho.run F s ok _ _ fun v F₁ s₁ st₁ ok₁ ⟨x, dx, od, m, e1, f1, f2, dd, fa1⟩ => ?_) hk
    subst e1
    obtain ⟨u, hu, eu, hF⟩ := fa1.get hf
    subst eu
    refine method_usual (G.X.keeps ok₁.g) (instAt_of (ok₁.inh _ _ f1) (ok₁.inh _ _ f2)) (plainGet_of FF.own.get).1 (plainGet_of FF.own.get).2 FF.find rfl ?_
    refine getAttr_own (G.X.keeps ok₁.g) FF.own (ok₁.inh _ _ f1) (ok₁.inh _ _ f2) dd hu rfl ?_
    have okt : StOK cx F₁ { s₁ with toks := s₁.toks + 1 } σ₁ := ok₁.pure (.toks ok₁.inh)
    refine callWith_function (o := fo) (fd := fd) ?_
    refine evalArgs_all (ha.run F₁ _ okt _ _ fun vs F₂ s₂ st₂ ok₂ r₂ => ?_) he
    refine ⟨⟨ok₂.inh _ _ (st₂.sub _ _ hF), hfd⟩, wpAny_call (hc cx.A F₂ s₂ vs rm ok₂.gF ok₂.inh (ok₂.res.sub up.sub) r₂ _ fun u F₃ s₃ q' S ⟨e1, e2⟩ st₃ r₃ hr₃ _ => ?_)⟩
    subst e1; subst e2
    obtain ⟨st', ok₃⟩ := ok₂.called up st₃ hr₃
    have st0 : Step σ₁.res.has F₁ s₁ F₁ { s₁ with toks := s₁.toks + 1 } := .toks ok₁.inh
    exact k u F₃ s₃ (st₁.trans ((has_like ho.like ▸ st0.trans st₂).trans (has_like (ha.like.trans ho.like) ▸ st'))) ok₃ r₃
end Mine
namespace Mine
open PySem PySem.W PySem.Calls PyProof.Rows Builtin
variable {cx : Cx} {σ σ₁ σ₂ σ₃ : St} {pos : Pos} {P P' : Out → Prop} {K : Frag}
/-- an expression whose value and cells are told by a predicate -/
noncomputable def EvE (cx : Cx) (σ : St) (e : Expr) (Φ : VP → St → Prop) : Prop :=
  ∀ F s, StOK cx F s σ → ∀ (Q : Value → Shared → Prop) (E : Value → Shared → Prop), (∀ p σ' v F' s', Φ p σ' → Sub F F' → StOK cx F' s' σ' → p.rd F' v → Q v s') → wpAny (model cx.prog cx.w) cx.A (eval e cx.env) Q E s
theorem Exs.assignE {t e : Expr} {Φ : VP → St → Prop} {rest : List Stmt} (he : EvE cx σ e Φ) (h : ∀ p σ', Φ p σ' → ∃ σ₂, As cx σ' t p σ₂ ∧ Exs cx σ₂ rest P)
    (hs : swapsWithSole [t] e pos.line cx.env = pure false := by with_unfolding_all rfl) (hw : swappedStores [t] e cx.env = pure none := by with_unfolding_all rfl)
    (ha : (assignEach [t] cx.env).map (·.2) = [PySem.assign t cx.env] := by with_unfolding_all rfl) : Exs cx σ (.Assign [t] e pos :: rest) P := .cons fun F s ok Q E k =>
  wpAny_Assign_stores (he F s ok _ _ fun p σ' v F₁ s₁ ph sb ok₁ r₁ => by
    obtain ⟨σ₂, ht, hx⟩ := h p σ' ph
    rw [ha]
    exact ht.run F₁ s₁ v ok₁ r₁ _ _ fun s' ok' => k .next F₁ s' (.nx σ₂) sb ok' hx) hs hw
theorem Exs.retE {e : Expr} {Φ : VP → St → Prop} {rest : List Stmt} (he : EvE cx σ e Φ) (h : ∀ p σ', Φ p σ' → P (.rt p σ'.res)) : Exs cx σ (.Return (some e) pos :: rest) P := .cons fun F s ok Q E k =>
  wpAny_Return_some (he F s ok _ _ fun p σ' v F' s' ph sb ok' r => k (.ret v) F' s' (.rt p σ'.res) sb (ok'.ret r) (h p σ' ph))
theorem Exs.setAttrE {o value : Expr} {pp : Pos} {name : PySem.Str} {C : Addr} {Φ : VP → St → Prop} {rest : List Stmt} (G : Grd K cx.g) (O : OwnSet K C name) (hv : EvE cx σ value Φ)
    (h : ∀ p σ', Φ p σ' → ∃ (x d : Addr) (fs fs' : List (PySem.Str × VP)) (R' : Res), Ev cx σ' o (vVal (.ref x)) σ' ∧ RSet d (.inst x C fs) (.inst x C fs') σ'.res R' ∧ FPut name p fs fs' ∧ fs'.length ≤ 1000 ∧ Exs cx { vars := σ'.vars, res := R' } rest P)
    (hs : swapsWith value (some (.Attribute o name pp)) pos.line cx.env = pure false := by with_unfolding_all rfl) : Exs cx σ (.Assign [.Attribute o name pp] value pos :: rest) P := .cons fun F s ok Q E k =>
  plainObj_wpAny_Assign_Attribute (hv F s ok _ _ fun p σ' v F₁ s₁ ph sb ok₁ r₁ => by
    obtain ⟨x, d, fs, fs', R', ho, r, fp, hsz, hx⟩ := h p σ' ph
    refine ho.run F₁ s₁ ok₁ _ _ fun u F₂ s₂ st₂ ok₂ r₂ => ?_
    cases r₂
    exact ok₂.setAttr G O r fp hsz (p.mono st₂.sub r₁) fun s' st' ok' => k .next F₂ s' (.nx _) (sb.trans st₂.sub) ok' hx) hs
/-- what a call takes, what it leaves -/
inductive Spl : Res → Res → Res → Prop
  | nil : Spl [] [] []
  | left {R L l x} : Spl R L l → Spl (x :: R) L (x :: l)
  | right {R L l x} : Spl R L l → Spl R (x :: L) (x :: l)
theorem Spl.sub {R L l} (h : Spl R L l) : R.Sublist l := by
  induction h with
  | nil => exact .slnil
  | left _ ih => exact ih.cons_cons _
  | right _ ih => exact ih.cons _
theorem Spl.subL {R L l} (h : Spl R L l) : L.Sublist l := by
  induction h with
  | nil => exact .slnil
  | left _ ih => exact ih.cons _
  | right _ ih => exact ih.cons_cons _
theorem Spl.disj {R L l} (h : Spl R L l) : (l.map (·.1)).Nodup → ∀ a, Res.has L a → ¬ Res.has R a := by
  induction h with
  | nil => intro _ a ha; exact (List.not_mem_nil ha).elim
  | left h ih =>
    rename_i R L l x
    intro hn a ha hr
    rw [List.map_cons] at hn
    unfold Res.has at hr
    rw [List.map_cons] at hr
    rcases List.mem_cons.mp hr with e | hr
    · exact (List.nodup_cons.mp hn).1 (by rw [← e]; exact (h.subL.map (·.1)).subset ha)
    · exact ih (List.nodup_cons.mp hn).2 a ha hr
  | right h ih =>
    rename_i R L l x
    intro hn a ha hr
    rw [List.map_cons] at hn
    unfold Res.has at ha
    rw [List.map_cons] at ha
    rcases List.mem_cons.mp ha with e | ha
    · exact (List.nodup_cons.mp hn).1 (by rw [← e]; exact (h.sub.map (·.1)).subset hr)
    · exact ih (List.nodup_cons.mp hn).2 a ha hr
theorem StOK.fresh0 {F s} (ok : StOK cx F s σ) {a : Addr} (h : s.heap.get? a = none) : cx.s0.heap.get? a = none := by
  cases q : cx.s0.heap.get? a with
  | none => rfl
  | some ob => obtain ⟨o', e⟩ := ok.base.live a ob q; rw [h] at e; cases e
theorem StOK.calledN {F s F' s'} (ok : StOK cx F s σ) {R L R' : Res} (sp : Spl R L σ.res) (st : Step R.has F s F' s') (hr : ResOK F' s'.heap R') (hn : ∀ a, R'.has a → R.has a ∨ s.heap.get? a = none) :
    StOK cx F' s' { vars := σ.vars, res := R' ++ L } := by
  have st' : Step σ.res.has F s F' s' := st.weaken fun a q => Sub.has sp.sub q
  have kl : ∀ o, s.heap.get? cx.env.locals = some o → s'.heap.get? cx.env.locals = some o := fun o e => st'.keep _ o ok.locR e
  have kc : ∀ y c, (y, c) ∈ cx.env.cells → ∀ o, s.heap.get? c = some o → s'.heap.get? c = some o := fun y c hm o e => st'.keep _ o (ok.cells y c hm).2.2 e
  have has : ∀ a, Res.has (R' ++ L) a → Res.has R' a ∨ Res.has L a := fun a h => by
    unfold Res.has at h ⊢
    rw [List.map_append] at h
    exact List.mem_append.mp h
  have old : ∀ a, Res.has (R' ++ L) a → σ.res.has a ∨ s.heap.get? a = none := fun a h => by
    rcases has a h with h | h
    · rcases hn a h with h | h
      · exact .inl (Sub.has sp.sub h)
      · exact .inr h
    · exact .inl (Sub.has sp.subL h)
  have exL : ∀ a, Res.has L a → ∃ o, s.heap.get? a = some o := fun a h => by
    obtain ⟨⟨b, c⟩, hm, rfl⟩ := List.mem_map.mp h
    exact (ok.res.ok b c (sp.subL.subset hm)).ex
  obtain ⟨lo, hlo⟩ : ∃ o, s.heap.get? cx.env.locals = some o := by obtain ⟨m, o, es, ep, e, _⟩ := ok.ns; exact ⟨o, e⟩
  refine { base := ?_, gF := fun b o e => st.sub _ _ (ok.gF b o e), hh := ok.hh, kind := ok.kind, glob := ok.glob, bltn := ok.bltn, ns := ?_, newL := ok.newL, locF := ?_, locR := fun q => ?_, cells := ?_, apart := ok.apart, newC := ok.newC, vars := ?_, res := ⟨fun a c hm => ?_, fun a c hm => ?_, ?_⟩, resW := fun a q => ?_, locW := ok.locW, cellW := ok.cellW, nd := ok.nd, priv := fun a o hm => ?_ }
  · refine ⟨ok.base.sub.trans st.sub, st.inh, fun a o e n => ?_, fun a o w e => ?_, fun a o e => ?_, st.gens.trans ok.base.gens, st.os.trans ok.base.os⟩
    · obtain ⟨o', e'⟩ := ok.base.live a o e
      exact st.fresh a o' e' (ok.base.fresh a o e n)
    · refine st'.keep a o (fun q => ?_) (ok.base.keep a o w e)
      rcases ok.resW a q with h | h
      · exact w h
      · rw [h] at e; cases e
    · obtain ⟨o', e'⟩ := ok.base.live a o e
      exact st.live a o' e'
  · obtain ⟨m, n⟩ := ok.ns; exact ⟨m, n.at' kl⟩
  · exact st.fresh _ lo hlo ok.locF
  · rcases old _ q with h | h
    · exact ok.locR h
    · rw [h] at hlo; cases hlo
  · intro y c hm
    obtain ⟨⟨v, o, e, d⟩, f, r⟩ := ok.cells y c hm
    refine ⟨⟨v, o, kc y c hm o e, d⟩, st.fresh _ o e f, fun q => ?_⟩
    rcases old _ q with h | h
    · exact r h
    · rw [h] at e; cases e
  · intro y p hm
    obtain ⟨v, a, r⟩ := ok.vars y p hm
    exact ⟨v, a.at kl (fun c hc => kc y c hc), p.mono st.sub r⟩
  · rcases List.mem_append.mp hm with hm | hm
    · exact hr.ok a c hm
    · exact CellOK.mono st.sub ((ok.res.ok a c (sp.subL.subset hm)).at fun o e => st.keep a o (sp.disj ok.res.nodup a (Res.has_of hm)) e)
  · rcases List.mem_append.mp hm with hm | hm
    · exact hr.off a c hm
    · obtain ⟨o, e⟩ := exL a (Res.has_of hm)
      exact st.fresh a o e (ok.res.off a c (sp.subL.subset hm))
  · show ((R' ++ L).map (·.1)).Nodup
    rw [List.map_append, List.nodup_append]
    refine ⟨hr.nodup, (sp.subL.map (·.1)).nodup ok.res.nodup, fun a ha b hb q => ?_⟩
    subst q
    obtain ⟨o, e⟩ := exL a hb
    rcases hn a ha with h | h
    · exact sp.disj ok.res.nodup a hb h
    · rw [h] at e; cases e
  · rcases old _ q with h | h
    · exact ok.resW a h
    · exact .inr (ok.fresh0 h)
  · obtain ⟨p1, p2, p3, p4, p5⟩ := ok.priv a o hm
    refine ⟨st'.keep a o p3 p1, st.fresh a o p1 p2, fun q => ?_, p4, p5⟩
    rcases old _ q with h | h
    · exact p3 h
    · rw [h] at p1; cases p1
theorem EvE.callF {x : PySem.Str} {np : Pos} {a : Addr} {e : Expr} {rest : List Expr} {d : Nat} {ps : List VP} {R L : Res} {PP : VP → Res → Prop} (G : Grd K cx.g) (fn : IsF K a) (hf : Ev cx σ (.Name x np) (vVal (.ref a)) σ)
    (ha : EvAll cx σ pos (e :: rest) ps σ₁) (hc : FnR cx.prog cx.w cx.g (.ref a) d ps R PP) (rm : Room cx.A d) (sp : Spl R L σ₁.res)
    (he : starEach (e :: rest) cx.env = (false, eval e cx.env) :: starEach rest cx.env := by with_unfolding_all rfl) :
    EvE cx σ (.Call (.Name x np) (e :: rest) [] pos) fun p σ' => ∃ R', PP p R' ∧ (∀ b, Res.has R' b → Res.has R b ∨ cx.s0.heap.get? b = none) ∧ σ' = { vars := σ₁.vars, res := R' ++ L } :=
  fun F s ok Q E k => wpAny_Call_Name_kw (hf.run F s ok _ _ fun v F₁ s₁ st₁ ok₁ r₁ => by
    cases r₁
    show wpAny _ _ (callWith pos (.ref a) [] (backTo pos (starEach (e :: rest) cx.env)) []) Q E s₁
    obtain ⟨o, fd, ho, hd⟩ := fn
    refine callWith_function (o := o) (fd := fd) ?_
    refine evalArgs_all (ha.run F₁ s₁ ok₁ _ _ fun vs F₂ s₂ st₂ ok₂ r₂ => ?_) he
    refine ⟨⟨ok₂.g _ _ (G.X _ _ ho), hd⟩, wpAny_call (hc cx.A F₂ s₂ vs rm ok₂.gF ok₂.inh (ok₂.res.sub sp.sub) r₂ _ fun v F₃ s₃ q S hP st₃ r₃ hr₃ hn => ?_)⟩
    exact k q _ v F₃ s₃ ⟨S, hP, fun b hb => (hn b hb).imp id ok₂.fresh0, rfl⟩ (st₁.sub.trans (st₂.sub.trans st₃.sub)) (ok₂.calledN sp st₃ hr₃ hn) r₃)
theorem EvE.callC {x : PySem.Str} {np : Pos} {C : Addr} {e : Expr} {rest : List Expr} {d : Nat} {ps : List VP} {R L : Res} {PP : VP → Res → Prop} (G : Grd K cx.g) (hk : keepIn K (.ref C) = true) (hf : Ev cx σ (.Name x np) (vVal (.ref C)) σ)
    (ha : EvAll cx σ pos (e :: rest) ps σ₁) (hc : FnR cx.prog cx.w cx.g (.ref C) d ps R PP) (rm : Room cx.A d) (sp : Spl R L σ₁.res)
    (he : starEach (e :: rest) cx.env = (false, eval e cx.env) :: starEach rest cx.env := by with_unfolding_all rfl) (hp : (backTo pos (starEach (e :: rest) cx.env)).any (·.1) = false := by with_unfolding_all rfl) :
    EvE cx σ (.Call (.Name x np) (e :: rest) [] pos) fun p σ' => ∃ R', PP p R' ∧ (∀ b, Res.has R' b → Res.has R b ∨ cx.s0.heap.get? b = none) ∧ σ' = { vars := σ₁.vars, res := R' ++ L } :=
  fun F s ok Q E k => wpAny_Call_Name_kw (hf.run F s ok _ _ fun v F₁ s₁ st₁ ok₁ r₁ => by
    cases r₁
    refine callWith_KW (kws := []) (h₀ := cx.g) G.X hk rfl (ha.run F₁ s₁ ok₁ _ _ fun vs F₂ s₂ st₂ ok₂ r₂ => ?_) (by rw [hp]; rfl) he
    refine wpAny_pure ⟨G.X.keeps ok₂.g, ?_⟩
    refine wpAny_call (hc cx.A F₂ s₂ vs rm ok₂.gF ok₂.inh (ok₂.res.sub sp.sub) r₂ _ fun v F₃ s₃ q S hP st₃ r₃ hr₃ hn => ?_)
    exact k q _ v F₃ s₃ ⟨S, hP, fun b hb => (hn b hb).imp id ok₂.fresh0, rfl⟩ (st₁.sub.trans (st₂.sub.trans st₃.sub)) (ok₂.calledN sp st₃ hr₃ hn) r₃)
/-- an owned object frozen -/
inductive FWeak : List (PySem.Str × VP) → List (PySem.Str × VP) → Prop
  | nil : FWeak [] []
  | same {x l l'} : FWeak l l' → FWeak (x :: l) (x :: l')
  | any {x p l l'} : FWeak l l' → FWeak ((x, p) :: l) ((x, vAny) :: l')
theorem FWeak.names {l l'} (h : FWeak l l') : l'.map (·.1) = l.map (·.1) := by
  induction h with
  | nil => rfl
  | same _ ih => simp [ih]
  | any _ ih => simp [ih]
theorem FWeak.len {l l'} (h : FWeak l l') : l'.length = l.length := by
  have := congrArg List.length h.names; simpa using this
theorem FWeak.mem {l l'} (h : FWeak l l') : ∀ x p, (x, p) ∈ l' → ∃ q, (x, q) ∈ l ∧ ∀ F v, q.rd F v → p.rd F v := by
  induction h with
  | nil => intro x p hm; exact (List.not_mem_nil hm).elim
  | same _ ih =>
    intro x p hm
    rcases List.mem_cons.mp hm with e | hm
    · cases e; exact ⟨p, List.mem_cons_self, fun _ _ r => r⟩
    · obtain ⟨q, h1, h2⟩ := ih x p hm; exact ⟨q, List.mem_cons_of_mem _ h1, h2⟩
  | any _ ih =>
    intro x p hm
    rcases List.mem_cons.mp hm with e | hm
    · cases e; exact ⟨_, List.mem_cons_self, fun _ _ _ => trivial⟩
    · obtain ⟨q, h1, h2⟩ := ih x p hm; exact ⟨q, List.mem_cons_of_mem _ h1, h2⟩
theorem FieldsAre.weak {F : FH} {fs fs' : List (PySem.Str × VP)} {m : PySem.Str → Option Value} (x : FieldsAre F fs m) (h : FWeak fs fs') : FieldsAre F fs' m := by
  refine ⟨fun y p hm => ?_, fun y hy => x.2 y (by rw [← h.names]; exact hy)⟩
  obtain ⟨q, h1, h2⟩ := h.mem y p hm
  obtain ⟨v, e, r⟩ := x.1 y q h1
  exact ⟨v, e, h2 F v r⟩
theorem StOK.freezeI {F s} {x : PySem.Str} {o a C : Addr} {fs fs' : List (PySem.Str × VP)} {R' : Res} {l : List (PySem.Str × VP)} (ok : StOK cx F s σ) (hx : (x, vVal (.ref o)) ∈ σ.vars) (r : RDel a (.inst o C fs) σ.res R') (hw : FWeak fs fs') (hl : Rep x (vInst C fs') σ.vars l) (h0 : cx.s0.heap.get? a = none) :
    ∃ F', Sub F F' ∧ StOK cx F' s { vars := l, res := R' } := by
  obtain ⟨fx, od, m, e, dd, fa⟩ := ok.res.ok a _ r.mem
  have hF := ok.res.off a _ r.mem
  have ha : Res.has σ.res a := Res.has_of r.mem
  have sb := FH.set_sub (o := od) hF
  have ne : ∀ b, b ≠ a → F.set a od b = F b := fun b hb => FH.set_ne hb
  refine ⟨F.set a od, sb, ?_⟩
  have nd' : (l.map (·.1)).Nodup := hl.names ▸ ok.nd
  have old : StOK cx F s { vars := σ.vars, res := R' } := ok.wk ⟨fun _ _ h => h, ok.nd, r.sub⟩
  have notR : ¬ Res.has R' a := r.not ok.res.nodup
  refine { base := ok.base.thaw h0 hF e, gF := fun b ob q => sb _ _ (ok.gF b ob q), hh := ok.hh, kind := ok.kind, glob := ok.glob, bltn := ok.bltn, ns := ok.ns, newL := ok.newL, locF := ?_, locR := old.locR, cells := fun y c hm => ⟨(old.cells y c hm).1, ?_, (old.cells y c hm).2.2⟩, apart := ok.apart, newC := ok.newC, vars := fun y p hm => ?_, res := ⟨fun b c hm => CellOK.mono sb (old.res.ok b c hm), fun b c hm => ?_, old.res.nodup⟩, resW := old.resW, locW := ok.locW, cellW := ok.cellW, nd := nd', priv := fun b ob hm => ?_ }
  · exact (ne _ fun q => ok.locR (by rw [q]; exact ha)).trans ok.locF
  · exact (ne _ fun q => (ok.cells y c hm).2.2 (by rw [q]; exact ha)).trans (ok.cells y c hm).2.1
  · rcases hl.set ok.nd y p hm with ⟨rfl, rfl⟩ | ⟨_, hm'⟩
    · obtain ⟨v, q, rr⟩ := ok.vars y _ hx
      exact ⟨v, q, o, a, od, m, rr, sb _ _ fx, FH.set_at .., by rw [hw.len]; exact dd, (fa.weak hw).mono sb⟩
    · obtain ⟨v, q, rr⟩ := ok.vars y p hm'; exact ⟨v, q, p.mono sb rr⟩
  · exact (ne _ fun q => notR (by have h3 : b = a := q; rw [← h3]; exact Res.has_of hm)).trans (old.res.off b c hm)
  · obtain ⟨p1, p2, p3, p4, p5⟩ := old.priv b ob hm
    exact ⟨p1, (ne b fun q => (ok.priv b ob hm).2.2.1 (by rw [q]; exact ha)).trans p2, p3, p4, p5⟩
theorem Exs.freezeI {x : PySem.Str} {o a C : Addr} {fs fs' : List (PySem.Str × VP)} {R' : Res} {l : List (PySem.Str × VP)} {ss : List Stmt} (hx : (x, vVal (.ref o)) ∈ σ.vars) (r : RDel a (.inst o C fs) σ.res R') (hw : FWeak fs fs') (hl : Rep x (vInst C fs') σ.vars l) (h0 : cx.s0.heap.get? a = none)
    (h : Exs cx { vars := l, res := R' } ss P) : Exs cx σ ss P := fun F s ok Q E k => by
  obtain ⟨F', sb, ok'⟩ := ok.freezeI hx r hw hl h0
  exact h F' s ok' Q E fun f F₂ s₂ o sb₂ => k f F₂ s₂ o (sb.trans sb₂)
end Mine
namespace Mine
open PySem PySem.W PySem.Calls PyProof.Rows Builtin
variable {cx : Cx} {σ σ₁ σ₂ σ₃ : St} {pos : Pos} {P P' : Out → Prop} {K : Frag}
/-- a function of the text, one parameter of which is its one cell -/
structure IsFnC (K : Frag) (a : Addr) (fd : FuncData) (body : List Stmt) (x : PySem.Str) : Prop where
  obj : ∃ o, K.lookup a = some o ∧ o.data = .func fd
  body : fd.body = .stmts body
  code : codeIn K fd.code fd.qualname = true
  glob : fd.globals = mainGlobals
  bltn : fd.builtins = builtinsNs
  clos : fd.closure = []
  kind : fd.scope.kind = .function
  co : fd.scope.isCoroutine = false
  gen : fd.scope.isGenerator = false
  cell : fd.scope.names.lookup x = some .cell
  cells : ∀ n, cellsFrom n fd.scope.names [] = [(x, n)]
noncomputable def fnCxC (prog : Program) (w : World) (A : Around) (g : Heap) (fd : FuncData) (L a : Addr) (F : FH) (s : Shared) (R : Res) : Cx :=
  { prog := prog, w := w, A := A.deeper (callEnvC fd L a), env := callEnvC fd L a, g := g, F0 := F, s0 := s, W := R.has, own := true, priv := [] }
theorem FnR.of_cell {prog : Program} {w : World} {g : Heap} {a : Addr} {fd : FuncData} {body : List Stmt} {x : PySem.Str} {d : Nat} {p : VP} {R : Res} {P : VP → Res → Prop} (G : Grd K g) (fn : IsFnC K a fd body x)
    (hb : ∀ v : Value, bindArgs fd ⟨[v], []⟩ = pure [(x, v)])
    (h : ∀ A F s L, Room A (d + 1) → Exs (fnCxC prog w A g fd L a F s R) { vars := [(x, p)], res := R } body (FnOut P)) : FnR prog w g (.ref a) (d + 1) [p] R P := by
  intro A F s vs rm hg hi hR hr RR k
  obtain ⟨v, rfl, rv⟩ := hr.one
  obtain ⟨o, ho, hd⟩ := fn.obj
  obtain ⟨pr, loose, mg, mb, T⟩ := G.T
  have hgs : ∀ b o, g.get? b = some o → s.heap.get? b = some o := fun b o e => hi _ _ (hg b o e)
  refine codeAny_call_cells (binds := [(x, v)]) (by have := rm.depth; unfold recursionLimit; first | lia | omega) (hgs _ _ (G.X _ _ ho)) hd (let ⟨mc, n1, n2⟩ := T.nolimit; ⟨mc, n1.keeps hgs, n2⟩) (codeRec_of (G.X.keeps hgs) fn.code) fn.body (hb v) fn.clos (fun y hy => ?_) (fun s₁ ic => ?_) fn.co fn.gen fn.kind
  · rw [List.mem_singleton.mp hy, fn.cells]
    exact .inr ⟨fn.cell, by simp [List.lookup]⟩
  generalize hLe : s.heap.objs.size = L at ic ⊢
  have nL : s.heap.get? L = none := hLe ▸ get_size _
  have nC : s.heap.get? (L + 1) = none := hLe ▸ get_ge (Nat.le_succ _)
  obtain ⟨h₀, tk, rfl⟩ := ic.toInCall.same
  have st : Step R.has F s F { s with heap := h₀, toks := tk } := .heap hi ic.toInCall.keep
  have cells0 : (callEnvC fd L a).cells = [(x, L + 1)] := fn.cells (L + 1)
  have kx : (callEnvC fd L a).kindOf x = some .cell := fn.cell
  have notR : ∀ b, R.has b → ∃ o, s.heap.get? b = some o := fun b q => by
    obtain ⟨⟨b', c⟩, hm, rfl⟩ := List.mem_map.mp q
    exact (hR.ok b' c hm).ex
  have hcell : h₀.IsCell (L + 1) (some v) := by
    have := ic.cell x (L + 1) (by rw [cells0]; simp [List.lookup])
    rw [show bindC (callEnvC fd L a).kindOf [(x, v)] (fun _ => none) x = some v from by unfold bindC; rw [if_neg (by rw [kx]; decide)]; simp [bindC]] at this
    exact this
  have ok : StOK (fnCxC prog w A g fd L a F s R) F { s with heap := h₀, toks := tk } { vars := [(x, p)], res := R } := by
    refine { base := st, gF := hg, hh := rm.hh, kind := fn.kind, glob := fn.glob, bltn := fn.bltn, ns := ⟨_, ic.toInCall.ns⟩, newL := nL, locF := none_of_fresh hi nL, locR := ?_, cells := fun y c hm => ?_, apart := ?_, newC := fun _ y c hm => ?_, vars := fun y q hm => ?_, res := ?_, resW := fun a ha => .inl ha, locW := ?_, cellW := fun y c hm => ?_, nd := ?_, priv := fun _ _ hm => (List.not_mem_nil hm).elim }
    · intro q
      obtain ⟨ob, e⟩ := notR _ q
      have : s.heap.get? (callEnvC fd L a).locals = none := nL
      have e' : s.heap.get? (callEnvC fd L a).locals = some ob := e
      rw [this] at e'; cases e'
    · have hm' : (y, c) ∈ (callEnvC fd L a).cells := hm
      rw [cells0] at hm'
      cases List.mem_singleton.mp hm'
      refine ⟨⟨_, hcell⟩, none_of_fresh hi nC, fun q => ?_⟩
      obtain ⟨ob, e⟩ := notR _ q
      rw [nC] at e; cases e
    · show (callEnvC fd L a).cells.Pairwise _
      rw [cells0]; exact List.pairwise_singleton _ _
    · have hm' : (y, c) ∈ (callEnvC fd L a).cells := hm
      rw [cells0] at hm'
      cases List.mem_singleton.mp hm'
      exact nC
    · cases List.mem_singleton.mp hm
      refine ⟨v, .inr ⟨.inl kx, L + 1, ?_, hcell⟩, rv⟩
      show (callEnvC fd L a).cells.lookup x = _
      rw [cells0]; simp [List.lookup]
    · exact hR.step (Step.heap (W := fun _ => False) hi ic.toInCall.keep) fun _ _ q => q
    · intro q
      obtain ⟨ob, e⟩ := notR _ q
      have e' : s.heap.get? L = some ob := e
      rw [nL] at e'; cases e'
    · have hm' : (y, c) ∈ (callEnvC fd L a).cells := hm
      rw [cells0] at hm'
      cases List.mem_singleton.mp hm'
      intro q
      obtain ⟨ob, e⟩ := notR _ q
      rw [nC] at e; cases e
    · simp
  refine h A F s L rm F _ ok _ _ fun f F' s' o sb oo po => ?_
  cases o with
  | nx σ' => cases f with
    | next =>
      obtain ⟨R', hs, hp⟩ := po
      exact k .none F' s' _ R' hp oo.base rfl (oo.res.sub hs) fun b hb => oo.resW b (Sub.has hs hb)
    | _ => exact oo.elim
  | rt p R1 => cases f with
    | ret v =>
      obtain ⟨R', hs, hp⟩ := po
      exact k v F' s' p R' hp oo.1 oo.2.1 (oo.2.2.1.sub hs) fun b hb => oo.2.2.2 b (Sub.has hs hb)
    | _ => exact oo.elim
  | bk σ' => exact po.elim
  | ct σ' => exact po.elim
/-- back with the cell -/
theorem Exs.retCell {e : Expr} {Φ : VP → St → Prop} {rest : List Stmt} {x : PySem.Str} {c : Addr} {u : Value} (he : EvE cx σ e Φ) (hk : cx.env.kindOf x = some .cell) (hc : cx.env.cells.lookup x = some c) (ho : cx.own = true)
    (h : ∀ p σ', Φ p σ' → (x, vVal u) ∈ σ'.vars ∧ ∃ fz : List (Addr × Obj), (∀ F s, StOK cx F s σ' → ∀ b ob, (b, ob) ∈ fz → F b = some ob) ∧ ∀ co : Obj, co.data = .cell (some u) → P (.rt p ((c, .raw co fz) :: σ'.res))) :
    Exs cx σ (.Return (some e) pos :: rest) P := .cons fun F s ok Q E k =>
  wpAny_Return_some (he F s ok _ _ fun p σ' v F' s' ph sb ok' r => by
    obtain ⟨hx, fz, hz, hp⟩ := h p σ' ph
    obtain ⟨v', av, rv⟩ := ok'.vars x _ hx
    cases rv
    have hmem := mem_of_lookup hc
    obtain ⟨co, gco, dco⟩ : s'.heap.IsCell c (some u) := by
      rcases av with ⟨hl, _⟩ | ⟨_, c', hc', ic⟩
      · rw [hk] at hl; cases hl
      · rw [hc] at hc'; cases hc'; exact ic
    obtain ⟨_, fc, rc⟩ := ok'.cells x c hmem
    refine k (.ret v) F' s' (.rt p ((c, .raw co fz) :: σ'.res)) sb ⟨ok'.base, r, ⟨fun a ce hm => ?_, fun a ce hm => ?_, ?_⟩, fun a ha => ?_⟩ (hp co dco)
    · rcases List.mem_cons.mp hm with e | hm
      · cases e; exact ⟨gco, hz F' s' ok'⟩
      · exact ok'.res.ok a ce hm
    · rcases List.mem_cons.mp hm with e | hm
      · cases e; exact fc
      · exact ok'.res.off a ce hm
    · rw [List.map_cons]; exact List.nodup_cons.mpr ⟨rc, ok'.res.nodup⟩
    · unfold Res.has at ha
      rw [List.map_cons] at ha
      rcases List.mem_cons.mp ha with e | ha
      · rw [e]; exact .inr (ok'.newC ho x c hmem)
      · exact ok'.resW a ha)
end Mine
namespace Mine
open PySem PySem.W PySem.Calls PyProof.Rows Builtin
variable {cx : Cx} {σ σ₁ σ₂ σ₃ : St} {pos : Pos} {P P' : Out → Prop} {K : Frag}
/-- what the making of a lambda reads -/
structure LamG (g : Heap) (c tb : Addr) : Prop where
  code : CodeHd g c tb
  top : ∃ mg bm ob, g.Ns mainGlobals mg ∧ mg "__builtins__" = some (.ref bm) ∧ bm ≠ builtinsNs ∧ g.get? bm = some ob ∧ ob.cls = .type "module" ∧ ob.dict = some builtinsNs ∧ ob.data = .plain
noncomputable abbrev lamObj (qual : PySem.Str) (params : Arguments) (body : Expr) (scope : Scope) (clos : List (PySem.Str × Addr)) (pm : Value) (c' : Addr) (ctv : Value) : Obj := kla_obj (PySem.Str.ofString "<lambda>") qual params body scope clos pm c' ctv
theorem StOK.recell {F s a c c' R'} (ok : StOK cx F s σ) (r : RSet a c c' σ.res R') (hc : CellOK F s.heap a c') : StOK cx F s { vars := σ.vars, res := R' } :=
  (ok.turnW (h' := s.heap) (tk := s.toks) r (fun _ _ _ e => e) hc).2
theorem EvE.lambda {params : Arguments} {body : Expr} {scope : Scope} {lp : Pos} {c tb : Addr} {clos : List (PySem.Str × Addr)} (Rf : Cell → Res) (LG : LamG cx.g c tb) (hcode : cx.env.code = .ref c)
    (r : ∀ ce, RSet tb (.raw (tabObj #[]) []) ce σ.res (Rf ce)) (r2 : ∀ ce ce', RSet tb ce ce' (Rf ce) (Rf ce')) (hdef : defaultsOf params cx.env = ([], [])) (hcl : closureFor scope cx.env = pure clos) :
    EvE cx σ (.Lambda params body scope lp) fun p σ' => ∃ (fa c' : Addr) (oc : Obj) (vs : Array Value) (t : Tok) (pm ctv : Value) (ts : Array Value),
      p = vFn fa (lamObj (cx.env.qual ++ "<lambda>") params body scope clos pm c' ctv) ∧ oc.data = .fields vs ∧ vs[1]? = some (.str (cx.env.qual ++ "<lambda>") t) ∧
      σ' = { vars := σ.vars, res := Rf (.raw (tabObj ts) [(fa, lamObj (cx.env.qual ++ "<lambda>") params body scope clos pm c' ctv), (c', oc)]) } := by
  intro F s ok Q E k
  obtain ⟨mg, bm, ob, hg, b1, b2, b3, b4, b5, b6⟩ := LG.top
  have hm := (r (.raw (tabObj #[]) [])).mem
  have hP := (ok.res.ok tb _ hm).1
  have hF := ok.res.off tb _ hm
  have off : ∀ b o, cx.g.get? b = some o → b ≠ tb := fun b o e q => by rw [q] at e; rw [ok.gF _ _ e] at hF; cases hF
  have hgP : mainGlobals ≠ tb := by obtain ⟨o, es, ep, e, _⟩ := hg; exact off _ _ e
  have hbG : bm ≠ mainGlobals := fun q => by
    obtain ⟨o, es, ep, e, hd, _⟩ := hg
    rw [q, e] at b3; cases b3; rw [hd] at b6; cases b6
  have hcl' := hcl
  refine kla_eval hdef (kla_makeFunction (mg := mg) hcl ok.glob (hg.keeps ok.g) hcode (LG.code.keeps ok.g) hP trivial rfl hgP ⟨bm, ob, b1, b2, hbG, off _ _ b3, ok.g _ _ b3, b4, b5, b6⟩ fun c' ctv h' tk hx hge hlt hrec htb => ?_)
  obtain ⟨c₂, oc, vs, t, e2, hoc, hd, hv⟩ := hrec
  cases e2
  generalize hfo : kla_obj "<lambda>" (cx.env.qual ++ "<lambda>") params body scope clos ((mg "__name__").getD .none) c' ctv = fo
  have hfs : fo.isFreed = false := by subst hfo; rfl
  have nC : s.heap.get? c' = none := get_ge hge
  have nF : s.heap.get? h'.objs.size = none := get_ge (Nat.le_trans hge (Nat.le_of_lt hlt))
  have ok1 := (ok.turnW (h' := h'.push fo) (tk := tk) (r (.raw (tabObj (#[] ++ #[rawInt lp.line, rawInt lp.col, .ref c'])) [])) (fun b o hb e => Heap.get?_push_of_some _ (hx b o hb e)) ⟨Heap.get?_push_of_some _ htb, fun _ _ h => (List.not_mem_nil h).elim⟩).2
  have like1 : (Rf (.raw (tabObj (#[] ++ #[rawInt lp.line, rawInt lp.col, .ref c'])) [])).map (·.1) = σ.res.map (·.1) := (r _).names
  have apC := Apart.res_of (σ₁ := { vars := σ.vars, res := Rf (.raw (tabObj (#[] ++ #[rawInt lp.line, rawInt lp.col, .ref c'])) []) }) (ok.apartOf (ms := [c']) fun m hm => by rw [List.mem_singleton.mp hm]; exact nC) like1
  have apF := Apart.res_of (σ₁ := { vars := σ.vars, res := Rf (.raw (tabObj (#[] ++ #[rawInt lp.line, rawInt lp.col, .ref c'])) []) }) (ok.apartOf (ms := [h'.objs.size]) fun m hm => by rw [List.mem_singleton.mp hm]; exact nF) like1
  have hFc : F c' = none := none_of_fresh ok.inh nC
  have hFf : F h'.objs.size = none := none_of_fresh ok.inh nF
  have ok2 := ok1.thaw apC hFc (Heap.get?_push_of_some _ hoc)
  have hFf2 : F.set c' oc h'.objs.size = none := by rw [FH.set_ne (Nat.ne_of_gt hlt)]; exact hFf
  have ok3 := ok2.thaw apF hFf2 (Heap.get?_push_size _ hfs)
  have sub3 : Sub F ((F.set c' oc).set h'.objs.size fo) := (FH.set_sub hFc).trans (FH.set_sub hFf2)
  have hz : ∀ b ob, (b, ob) ∈ [(h'.objs.size, fo), (c', oc)] → ((F.set c' oc).set h'.objs.size fo) b = some ob := fun b ob hm => by
    rcases List.mem_cons.mp hm with e | hm
    · cases e; exact FH.set_at ..
    · cases List.mem_singleton.mp hm
      exact FH.set_sub hFf2 _ _ (FH.set_at ..)
  have ok4 := ok3.recell (r2 _ (.raw (tabObj (#[] ++ #[rawInt lp.line, rawInt lp.col, .ref c'])) [(h'.objs.size, fo), (c', oc)])) ⟨Heap.get?_push_of_some _ htb, hz⟩
  subst hfo
  exact k _ _ (.ref h'.objs.size) _ _ ⟨h'.objs.size, c', oc, vs, t, _, ctv, _, rfl, hd, hv, rfl⟩ sub3 ok4 ⟨rfl, FH.set_at ..⟩
noncomputable def lamCx (prog : Program) (w : World) (A : Around) (g : Heap) (qual : PySem.Str) (scope : Scope) (L fa c' : Addr) (x : PySem.Str) (cl sg : Addr) (F : FH) (s : Shared) : Cx :=
  { prog := prog, w := w, A := A.deeper (envX qual scope L fa (.ref c') [(x, cl)]), env := envX qual scope L fa (.ref c') [(x, cl)], g := g, F0 := F, s0 := s, W := fun a => a = sg, own := false, priv := [] }
theorem FnD.lam {prog : Program} {w : World} {g : Heap} (G : Grd K g) {fa c' cl sg : Addr} {oc co : Obj} {vsC : Array Value} {tq : Tok} {qual : PySem.Str} {params : Arguments} {body : Expr} {scope : Scope} {x y : PySem.Str} {pm ctv : Value} {d : Nat} {q r : VP} {ps ps' : List VP}
    (hoc : oc.data = .fields vsC) (hv : vsC[1]? = some (.str qual tq)) (hco : co.data = .cell (some (.ref sg)))
    (hb : ∀ v, bindArgs (kla_fn "<lambda>" qual params body scope [(x, cl)] pm (.ref c') ctv) ⟨[v], []⟩ = pure [(y, v)])
    (hy : scope.names.lookup y = some .local) (hx : scope.names.lookup x = some .free) (hxc : (x == (PySem.Str.ofString "__classdict__")) = false) (hk : scope.kind = .function) (hcor : scope.isCoroutine = false) (hgen : scope.isGenerator = false) (hnc : ∀ z ∈ scope.names, z.2 ≠ .cell) (hxy : y ≠ x)
    (h : ∀ A F s L, Room A (d + 1) → Ev (lamCx prog w A g qual scope L fa c' x cl sg F s) { vars := [(y, q), (x, vVal (.ref sg))], res := [(sg, .lst ps)] } body r { vars := [(y, q), (x, vVal (.ref sg))], res := [(sg, .lst ps')] }) :
    FnD prog w g (.ref fa) (d + 1) [q] [(cl, .raw co [(fa, lamObj qual params body scope [(x, cl)] pm c' ctv), (c', oc)]), (sg, .lst ps)] r [(cl, .raw co [(fa, lamObj qual params body scope [(x, cl)] pm c' ctv), (c', oc)]), (sg, .lst ps')] := by
  intro A F s vs rm hg hi hR hr RR k
  obtain ⟨v, rfl, rv⟩ := hr.one
  obtain ⟨pr, loose, mg, mb, T⟩ := G.T
  have hgs : ∀ b o, g.get? b = some o → s.heap.get? b = some o := fun b o e => hi _ _ (hg b o e)
  obtain ⟨hcl, hfz⟩ := hR.ok cl _ List.mem_cons_self
  have ffa := hfz _ _ List.mem_cons_self
  have fc := hfz _ _ (List.mem_cons_of_mem _ List.mem_cons_self)
  have hclF := hR.off cl _ List.mem_cons_self
  have hnd := hR.nodup
  have hne : cl ≠ sg := fun e => by
    rw [List.map_cons] at hnd
    exact (List.nodup_cons.mp hnd).1 (by rw [show (cl, Cell.raw co [(fa, lamObj qual params body scope [(x, cl)] pm c' ctv), (c', oc)]).1 = sg from e]; exact List.mem_cons_self)
  obtain ⟨osg, esg⟩ := (hR.ok sg _ (List.mem_cons_of_mem _ List.mem_cons_self)).ex
  refine kla_callFunE (o := lamObj qual params body scope [(x, cl)] pm c' ctv) (body := body) (by have := rm.depth; unfold recursionLimit; first | lia | omega) (hi _ _ ffa) rfl hcor hgen rfl ⟨c', oc, vsC, tq, rfl, hi _ _ fc, hoc, hv⟩ ?_
  rw [hb v]
  refine wpAny_pure (wpAny_newFunctionEnv hnc (fun z hz => by rw [List.mem_singleton.mp hz]; exact hy) (fun h₀ hns hsb => ?_) hk)
  have hkp : ∀ b o, s.heap.get? b = some o → h₀.get? b = some o := fun b o e => hsb.extBut b o (Nat.ne_of_lt (Heap.lt_size e)) (Heap.get?_push_of_some _ e)
  refine ⟨(let ⟨mc, n1, n2⟩ := T.nolimit; ⟨mc, n1.keeps fun b o e => hkp b o (hgs b o e), n2⟩), kla_codeExpr ?_⟩
  generalize hLe : s.heap.objs.size = L at hns ⊢
  have nL : s.heap.get? L = none := hLe ▸ get_size _
  have st : Step (fun a => a = sg) F s F { s with heap := h₀, toks := s.toks + 1 } := .heap hi hkp
  have ok : StOK (lamCx prog w A g qual scope L fa c' x cl sg F s) F { s with heap := h₀, toks := s.toks + 1 } { vars := [(y, q), (x, vVal (.ref sg))], res := [(sg, .lst ps)] } := by
    refine { base := st, gF := hg, hh := rm.hh, kind := hk, glob := rfl, bltn := rfl, ns := ⟨_, hns⟩, newL := nL, locF := none_of_fresh hi nL, locR := ?_, cells := fun z c hm => ?_, apart := List.pairwise_singleton _ _, newC := fun q => (by cases q), vars := fun z p hm => ?_, res := ?_, resW := fun a ha => ?_, locW := ?_, cellW := fun z c hm => ?_, nd := ?_, priv := fun _ _ hm => (List.not_mem_nil hm).elim }
    · intro q
      have e := List.mem_singleton.mp q
      have e' : L = sg := e
      rw [← e', nL] at esg; cases esg
    · cases List.mem_singleton.mp hm
      exact ⟨⟨_, co, hkp _ _ hcl, hco⟩, hclF, fun q => hne (List.mem_singleton.mp q)⟩
    · rcases List.mem_cons.mp hm with e | hm
      · cases e
        exact ⟨v, .inl ⟨hy, _, hns, by simp [List.lookup]⟩, rv⟩
      · cases List.mem_singleton.mp hm
        exact ⟨_, .inr ⟨.inr ⟨hx, hxc⟩, cl, by simp [List.lookup, lamCx], co, hkp _ _ hcl, hco⟩, rfl⟩
    · exact (hR.sub (List.Sublist.cons _ (List.Sublist.refl _))).step (Step.heap (W := fun _ => False) hi hkp) fun _ _ q => q
    · exact .inl (List.mem_singleton.mp ha)
    · intro q
      have e' : L = sg := q
      rw [← e', nL] at esg; cases esg
    · cases List.mem_singleton.mp hm
      exact hne
    · simp [hxy]
  refine (h A F s L rm).run F _ ok _ _ fun u F' s' st' ok' ru => ?_
  have stT : Step (fun a => a = sg) F s F' s' := st.trans (st'.weaken fun a ha => List.mem_singleton.mp ha)
  have hRo : ResOK F' s'.heap [(cl, .raw co [(fa, lamObj qual params body scope [(x, cl)] pm c' ctv), (c', oc)]), (sg, .lst ps')] := by
    refine ⟨fun a c hm => ?_, fun a c hm => ?_, hnd⟩
    · rcases List.mem_cons.mp hm with e | hm
      · cases e; exact ⟨stT.keep cl co hne hcl, fun b ob hb => stT.sub _ _ (hfz b ob hb)⟩
      · exact ok'.res.ok a c hm
    · rcases List.mem_cons.mp hm with e | hm
      · cases e; exact stT.fresh cl co hcl hclF
      · exact ok'.res.off a c hm
  exact k u F' s' r _ ⟨rfl, rfl⟩ (stT.weaken fun a ha => by rw [ha]; exact List.mem_cons_of_mem _ List.mem_cons_self) ru hRo fun a ha => .inl ha
end Mine
namespace Mine
open PySem PySem.W PySem.Calls PyProof.Rows Builtin
variable {cx : Cx} {σ σ₁ σ₂ σ₃ : St} {pos : Pos} {P P' : Out → Prop} {K : Frag}
/-! calls that turn no cell -/
theorem Ev.callP {x : PySem.Str} {np : Pos} {a : Addr} {e : Expr} {rest : List Expr} {K : Frag} {fd : FuncData} {body : List Stmt} {d : Nat} {ps : List VP} {p : VP} (G : Grd K cx.g) (fn : IsFn K a fd body) (hf : Ev cx σ (.Name x np) (vVal (.ref a)) σ)
    (ha : EvAll cx σ pos (e :: rest) ps σ₁) (hc : FnD cx.prog cx.w cx.g (.ref a) d ps [] p []) (rm : Room cx.A d)
    (he : starEach (e :: rest) cx.env = (false, eval e cx.env) :: starEach rest cx.env := by with_unfolding_all rfl) :
    Ev cx σ (.Call (.Name x np) (e :: rest) [] pos) p σ₁ := Ev.callF G fn hf ha hc rm (Upd.none _) he
theorem Ev.callMP {o : Expr} {name : PySem.Str} {ap : Pos} {e : Expr} {rest : List Expr} {f : Addr} {d : Nat} {ps : List VP} {p q : VP} (G : Grd K cx.g) (fo : IsF K f) (ho : Ev cx σ o p σ₁) (hm : HasMeth cx σ₁ p name f)
    (ha : EvAll cx σ₁ pos (e :: rest) ps σ₂) (hc : FnD cx.prog cx.w cx.g (.ref f) d (p :: ps) [] q []) (rm : Room cx.A d)
    (he : starEach (e :: rest) cx.env = (false, eval e cx.env) :: starEach rest cx.env := by with_unfolding_all rfl)
    (hk : ∃ pl, eval (.Call (.Attribute o name ap) (e :: rest) [] pos) cx.env = (do
      let ov ← eval o cx.env
      standAt ap.atName
      let (f, first) ← holding [ov] (getMethod ov name pl)
      callWith pos f first (backTo pos (starEach (e :: rest) cx.env)) (backToKw pos (keywordEach [] cx.env))) := by exact ⟨_, by with_unfolding_all rfl⟩) :
    Ev cx σ (.Call (.Attribute o name ap) (e :: rest) [] pos) q σ₂ := Ev.callM G fo ho hm ha hc rm (Upd.none _) he hk
theorem Ev.callCP {x : PySem.Str} {np : Pos} {C : Addr} {e : Expr} {rest : List Expr} {d : Nat} {ps : List VP} {p : VP} (G : Grd K cx.g) (hk : keepIn K (.ref C) = true) (hf : Ev cx σ (.Name x np) (vVal (.ref C)) σ)
    (ha : EvAll cx σ pos (e :: rest) ps σ₁) (hc : FnD cx.prog cx.w cx.g (.ref C) d ps [] p []) (rm : Room cx.A d)
    (he : starEach (e :: rest) cx.env = (false, eval e cx.env) :: starEach rest cx.env := by with_unfolding_all rfl) (hp : (backTo pos (starEach (e :: rest) cx.env)).any (·.1) = false := by with_unfolding_all rfl) :
    Ev cx σ (.Call (.Name x np) (e :: rest) [] pos) p σ₁ := Ev.callC G hk hf ha hc rm (Upd.none _) he hp
theorem StOK.perm {F : FH} {s : Shared} {R' : Res} (ok : StOK cx F s σ) (h : R'.Perm σ.res) : StOK cx F s { vars := σ.vars, res := R' } := by
  have has : ∀ a, Res.has R' a → σ.res.has a := fun a q => (h.map (·.1)).subset q
  refine { ok with locR := fun q => ok.locR (has _ q), cells := fun y c hm => ⟨(ok.cells y c hm).1, (ok.cells y c hm).2.1, fun q => (ok.cells y c hm).2.2 (has _ q)⟩, res := ⟨fun a c hm => ok.res.ok a c (h.subset hm), fun a c hm => ok.res.off a c (h.subset hm), (h.map (·.1)).nodup_iff.mpr ok.res.nodup⟩, resW := fun a q => ok.resW a (has _ q), priv := fun a o hm => ?_ }
  obtain ⟨p1, p2, p3, p4, p5⟩ := ok.priv a o hm
  exact ⟨p1, p2, fun q => p3 (has _ q), p4, p5⟩
theorem Exs.perm {ss : List Stmt} {R' : Res} (h : R'.Perm σ.res) (k : Exs cx { vars := σ.vars, res := R' } ss P) : Exs cx σ ss P := fun F s ok => k F s (ok.perm h)
theorem StOK.frozen {F : FH} {s : Shared} {a : Addr} {o : Obj} {fz : List (Addr × Obj)} (ok : StOK cx F s σ) (h : RAt a (.raw o fz) σ.res) : ∀ b ob, (b, ob) ∈ fz → F b = some ob := (ok.res.ok a _ h.mem).2
end Mine
namespace Mine
open PySem PySem.W PySem.Calls PyProof.Rows Builtin
variable {cx : Cx} {σ σ₁ σ₂ σ₃ : St} {pos : Pos} {P P' : Out → Prop} {K : Frag}
/-! three and more operands -/
section
variable {M : Model} {A : Around} {E : Value → Shared → Prop} {s : Shared} {env : Env}
theorem wpAny_OrC {x y z : Expr} {r : List Expr} {Q : Value → Shared → Prop}
    (h : wpAny M A (eval x env) (fun v s₁ => wpAny M A (truthy v) (fun t s₂ => if t then Q v s₂ else wpAny M A (eval (.BoolOp .Or (y :: z :: r) pos) env) Q E s₂) E s₁) E s) :
    wpAny M A (eval (.BoolOp .Or (x :: y :: z :: r) pos) env) Q E s := by
  show wpAny M A (do
    let v ← eval x env
    standAt pos
    let t ← holding [v] (truthy v)
    match BoolOp.Or, t with
    | .And, false | .Or, true => pure v
    | _, _ => eval (.BoolOp .Or (y :: z :: r) pos) env) Q E s
  refine wpAny_bind (wpAny_mono h (fun v s₁ h₁ => wpAny_bind (wpAny_standAt (wpAny_bind (wpAny_holding (wpAny_mono h₁ (fun t s₂ h₂ => ?_) fun _ _ x => x))))) fun _ _ x => x)
  cases t with
  | false => exact h₂
  | true => exact wpAny_pure h₂
theorem wpAny_AndC {x y z : Expr} {r : List Expr} {Q : Value → Shared → Prop}
    (h : wpAny M A (eval x env) (fun v s₁ => wpAny M A (truthy v) (fun t s₂ => if t then wpAny M A (eval (.BoolOp .And (y :: z :: r) pos) env) Q E s₂ else Q v s₂) E s₁) E s) :
    wpAny M A (eval (.BoolOp .And (x :: y :: z :: r) pos) env) Q E s := by
  show wpAny M A (do
    let v ← eval x env
    standAt pos
    let t ← holding [v] (truthy v)
    match BoolOp.And, t with
    | .And, false | .Or, true => pure v
    | _, _ => eval (.BoolOp .And (y :: z :: r) pos) env) Q E s
  refine wpAny_bind (wpAny_mono h (fun v s₁ h₁ => wpAny_bind (wpAny_standAt (wpAny_bind (wpAny_holding (wpAny_mono h₁ (fun t s₂ h₂ => ?_) fun _ _ x => x))))) fun _ _ x => x)
  cases t with
  | false => exact wpAny_pure h₂
  | true => exact h₂
end
theorem Ev.orC {a b c : Expr} {r : List Expr} {x y : Bool} (ha : Ev cx σ a (vBool x) σ) (hb : x = false → Ev cx σ (.BoolOp .Or (b :: c :: r) pos) (vBool y) σ) : Ev cx σ (.BoolOp .Or (a :: b :: c :: r) pos) (vBool (x || y)) σ where
  like := rfl
  vars := rfl
  run := fun F s ok Q E k => wpAny_OrC (ha.run F s ok _ _ fun v F₁ s₁ st₁ ok₁ r₁ => by
    cases r₁
    refine wpAny_truthy_bool ?_
    cases x with
    | true => exact k _ F₁ s₁ st₁ ok₁ rfl
    | false => exact (hb rfl).run F₁ s₁ ok₁ _ _ fun u F₂ s₂ st₂ ok₂ r₂ => k u F₂ s₂ (st₁.trans st₂) ok₂ r₂)
theorem Ev.andC {a b c : Expr} {r : List Expr} {x y : Bool} (ha : Ev cx σ a (vBool x) σ) (hb : x = true → Ev cx σ (.BoolOp .And (b :: c :: r) pos) (vBool y) σ) : Ev cx σ (.BoolOp .And (a :: b :: c :: r) pos) (vBool (x && y)) σ where
  like := rfl
  vars := rfl
  run := fun F s ok Q E k => wpAny_AndC (ha.run F s ok _ _ fun v F₁ s₁ st₁ ok₁ r₁ => by
    cases r₁
    refine wpAny_truthy_bool ?_
    cases x with
    | false => exact k _ F₁ s₁ st₁ ok₁ rfl
    | true => exact (hb rfl).run F₁ s₁ ok₁ _ _ fun u F₂ s₂ st₂ ok₂ r₂ => k u F₂ s₂ (st₁.trans st₂) ok₂ r₂)
end Mine
namespace Mine
open PySem PySem.W PySem.Calls PyProof.Rows Builtin Builtin.Str Builtin.Int
/-! texts cut and joined -/
theorem S2_append (x y : PySem.Str) : S2 (x ++ y) = S2 x ++ S2 y := by
  rw [← S2L x, ← S2L y, L2S_append]; unfold S2; rw [L2S_toList, L2S_toList, L2S_toList]
theorem joinL_nil (s : List Nat) : joinL s [] = [] := rfl
theorem joinL_one (s x : List Nat) : joinL s [x] = x := rfl
theorem txt_join (s : PySem.Str) (l : List PySem.Str) : Txt.join s l = Str.join s l := by
  have := join_plain_closes s l; simpa using this
theorem S2_L2S (x : List Nat) : S2 (L2S x) = x := L2S_toList x
theorem joinL_cons (s x y : List Nat) (r : List (List Nat)) : joinL s (x :: y :: r) = x ++ s ++ joinL s (y :: r) := by
  unfold joinL
  rw [txt_join, txt_join]
  show S2 (Str.join (L2S s) (L2S x :: L2S y :: r.map L2S)) = _
  rw [join_cons_cons, S2_append, S2_append, S2_L2S, S2_L2S]; rfl
noncomputable def spl (c : Nat) : List Nat → List (List Nat)
  | [] => [[]]
  | d :: r => if d = c then [] :: spl c r else match spl c r with | [] => [[d]] | p :: ps => (d :: p) :: ps
theorem spl_ne (c : Nat) : ∀ l, spl c l ≠ []
  | [] => by simp [spl]
  | d :: r => by unfold spl; split; simp; split <;> simp
theorem spl_free (c : Nat) : ∀ (p : List Nat), c ∉ p → spl c p = [p]
  | [], _ => rfl
  | d :: r, h => by
    have h1 : d ≠ c := fun q => h (by rw [q]; exact List.mem_cons_self)
    have h2 : c ∉ r := fun q => h (List.mem_cons_of_mem _ q)
    unfold spl; rw [if_neg h1, spl_free c r h2]
theorem spl_cut (c : Nat) : ∀ (p r : List Nat), c ∉ p → spl c (p ++ c :: r) = p :: spl c r
  | [], r, _ => by simp [spl]
  | d :: p, r, h => by
    have h1 : d ≠ c := fun q => h (by rw [q]; exact List.mem_cons_self)
    have h2 : c ∉ p := fun q => h (List.mem_cons_of_mem _ q)
    show spl c (d :: (p ++ c :: r)) = _
    rw [spl, if_neg h1, spl_cut c p r h2]
theorem spl_join (c : Nat) : ∀ (ps : List (List Nat)), ps ≠ [] → (∀ p ∈ ps, c ∉ p) → spl c (joinL [c] ps) = ps
  | [], h, _ => absurd rfl h
  | [p], _, h => by rw [joinL_one]; exact spl_free c p (h p List.mem_cons_self)
  | p :: q :: r, _, h => by
    rw [joinL_cons, List.append_assoc]
    show spl c (p ++ c :: joinL [c] (q :: r)) = _
    rw [spl_cut c p _ (h p List.mem_cons_self), spl_join c (q :: r) (by simp) fun z hz => h z (List.mem_cons_of_mem _ hz)]
theorem join_splitL (x : List Nat) (c : Nat) : joinL [c] (splitL x [c]) = x := by
  unfold joinL splitL
  rw [List.map_map, show (L2S ∘ S2 : PySem.Str → PySem.Str) = _root_.id from funext fun s => S2L s, List.map_id, txt_join]
  have := StrLaws.join_split (L2S x) (L2S [c])
  rw [this, S2_L2S]
theorem splitL_spl (x : List Nat) (c : Nat) : splitL x [c] = spl c x := by
  have h1 : splitL x [c] ≠ [] := fun q => by
    have := split_pos (L2S x) (L2S [c])
    have e : (splitL x [c]).length = 0 := by rw [q]; rfl
    unfold splitL at e; rw [List.length_map] at e; first | lia | omega
  have h2 : ∀ p ∈ splitL x [c], c ∉ p := fun p hp => by
    unfold splitL at hp
    obtain ⟨s, hs, rfl⟩ := List.mem_map.mp hp
    exact StrLaws.split_free (L2S x) c s hs
  have := spl_join c _ h1 h2
  rw [join_splitL] at this
  exact this.symm
theorem spl_mem (c : Nat) : ∀ (l : List Nat), ∀ p ∈ spl c l, c ∉ p ∧ (∀ d ∈ p, d ∈ l) ∧ p.length ≤ l.length
  | [], p, h => by cases List.mem_singleton.mp h; simp
  | d :: r, p, h => by
    unfold spl at h
    by_cases hd : d = c
    · rw [if_pos hd] at h
      rcases List.mem_cons.mp h with rfl | h
      · simp
      · obtain ⟨a, b, e⟩ := spl_mem c r p h; exact ⟨a, fun z hz => List.mem_cons_of_mem _ (b z hz), by simp; first | lia | omega⟩
    · rw [if_neg hd] at h
      cases hs : spl c r with
      | nil => exact absurd hs (spl_ne c r)
      | cons q qs =>
        rw [hs] at h
        rcases List.mem_cons.mp h with rfl | h
        · obtain ⟨a, b, e⟩ := spl_mem c r q (by rw [hs]; exact List.mem_cons_self)
          refine ⟨fun z => ?_, fun z hz => ?_, by simp; first | lia | omega⟩
          · rcases List.mem_cons.mp z with z | z
            · exact hd z.symm
            · exact a z
          · rcases List.mem_cons.mp hz with z | z
            · rw [z]; exact List.mem_cons_self
            · exact List.mem_cons_of_mem _ (b _ z)
        · obtain ⟨a, b, e⟩ := spl_mem c r p (by rw [hs]; exact List.mem_cons_of_mem _ h)
          exact ⟨a, fun z hz => List.mem_cons_of_mem _ (b z hz), by simp; first | lia | omega⟩
theorem spl_len (c : Nat) : ∀ (l : List Nat), (spl c l).length ≤ l.length + 1
  | [] => by simp [spl]
  | d :: r => by
    have := spl_len c r
    unfold spl
    split
    · simp; first | lia | omega
    · split
      · simp
      · rename_i h; rw [h] at this; simp at this ⊢; first | lia | omega
theorem sum_le (m : Nat) : ∀ (l : List Nat), (∀ x ∈ l, x ≤ m) → l.sum ≤ l.length * m
  | [], _ => by simp
  | x :: l, h => by
    have h1 := sum_le m l fun y hy => h y (List.mem_cons_of_mem _ hy)
    have h2 := h x List.mem_cons_self
    simp only [List.sum_cons, List.length_cons, Nat.succ_mul]; first | lia | omega
theorem joinOk_of {s : List Nat} {ls : List (List Nat)} (n m : Nat) (h1 : ls.length ≤ n) (h2 : ∀ l ∈ ls, l.length ≤ m) (h3 : n * m + n ≤ 1000000) (h4 : s.length ≤ 16) : JoinOk (L2S s) (ls.map L2S) = true := by
  refine joinOk_of_weight ?_ (by rw [L2S_len]; exact h4)
  rw [List.map_map, List.length_map]
  have e : ((fun s : PySem.Str => s.length) ∘ L2S) = List.length := funext fun l => L2S_len l
  have : (ls.map List.length).sum ≤ (ls.map List.length).length * m := sum_le m _ fun x hx => by
    obtain ⟨l, hl, rfl⟩ := List.mem_map.mp hx; exact h2 l hl
  rw [List.length_map] at this
  have h5 : ls.length * m ≤ n * m := Nat.mul_le_mul_right m h1
  show (ls.map ((fun s : PySem.Str => s.length) ∘ L2S)).sum + _ ≤ _
  rw [e]; first | lia | omega
theorem joinL_flat : ∀ ls : List (List Nat), joinL [] ls = ls.flatten
  | [] => rfl
  | [x] => by rw [joinL_one]; simp
  | x :: y :: r => by rw [joinL_cons, joinL_flat (y :: r)]; simp
theorem flat_len (m : Nat) : ∀ ls : List (List Nat), (∀ l ∈ ls, l.length ≤ m) → ls.flatten.length ≤ ls.length * m
  | [], _ => by simp
  | x :: r, h => by
    have h1 := flat_len m r fun l hl => h l (List.mem_cons_of_mem _ hl)
    have h2 := h x List.mem_cons_self
    simp only [List.flatten_cons, List.length_append, List.length_cons, Nat.succ_mul]; first | lia | omega
theorem count_ten (x : List Nat) : Txt.count (L2S x) (L2S [10]) = ((x.count 10 : Nat) : Int) := by
  have h : ∀ x : List Nat, cnt 10 x = ((x.count 10 : Nat) : Int) := by
    intro x
    induction x with
    | nil => rfl
    | cons c r ih =>
      rw [cnt_cons, ih, List.count_cons]
      by_cases h : c = 10
      · subst h; simp; first | lia | omega
      · have h1 : (c == 10) = false := by simpa using h
        simp [h1, h]
  have := count_cnt (L2S x) 10
  rw [show (L2S [10] : PySem.Str) = ⟨#[10]⟩ from rfl, this, L2S_toList, h]
end Mine
namespace Mine
open PySem PySem.W PySem.Calls PyProof.Rows
noncomputable abbrev pw : Program := Challenge.rw_pg0255_01.prog
/-- a def's parts, by its way through the text -/
noncomputable def fnAt : List Nat → List Stmt → Option (Arguments × List Stmt × Scope)
  | [], _ => none
  | i :: is, ss => match ss[i]? with
    | some (.FunctionDef _ ps bd _ _ _ sc _ _ _) => some (ps, bd, sc)
    | some (.ClassDef _ _ _ bd _ _ _ _ _ _ _) => fnAt is bd
    | _ => none
noncomputable abbrev part1 {x : Option (Arguments × List Stmt × Scope)} {a b c} (_ : x = some (a, b, c)) : Arguments := a
noncomputable abbrev part2 {x : Option (Arguments × List Stmt × Scope)} {a b c} (_ : x = some (a, b, c)) : List Stmt := b
noncomputable abbrev part3 {x : Option (Arguments × List Stmt × Scope)} {a b c} (_ : x = some (a, b, c)) : Scope := c
noncomputable abbrev sn (x : String) : PySem.Str := PySem.Str.ofString x
noncomputable abbrev ent (P : Params) (x : PySem.Str) (t : Nat) (v : Value) : DictEntry := DictEntry.mk (PyData.keyHash P x) (Value.str x t) v
noncomputable abbrev fp21 : Arguments := part1 (x := fnAt [0] pw.main.body) (by with_unfolding_all rfl)
noncomputable abbrev fb21 : List Stmt := part2 (x := fnAt [0] pw.main.body) (by with_unfolding_all rfl)
noncomputable abbrev fs21 : Scope := part3 (x := fnAt [0] pw.main.body) (by with_unfolding_all rfl)
noncomputable abbrev fp35 : Arguments := part1 (x := fnAt [2, 0] pw.main.body) (by with_unfolding_all rfl)
noncomputable abbrev fb35 : List Stmt := part2 (x := fnAt [2, 0] pw.main.body) (by with_unfolding_all rfl)
noncomputable abbrev fs35 : Scope := part3 (x := fnAt [2, 0] pw.main.body) (by with_unfolding_all rfl)
noncomputable abbrev fp42 : Arguments := part1 (x := fnAt [2, 1] pw.main.body) (by with_unfolding_all rfl)
noncomputable abbrev fb42 : List Stmt := part2 (x := fnAt [2, 1] pw.main.body) (by with_unfolding_all rfl)
noncomputable abbrev fs42 : Scope := part3 (x := fnAt [2, 1] pw.main.body) (by with_unfolding_all rfl)
noncomputable abbrev fp49 : Arguments := part1 (x := fnAt [2, 2] pw.main.body) (by with_unfolding_all rfl)
noncomputable abbrev fb49 : List Stmt := part2 (x := fnAt [2, 2] pw.main.body) (by with_unfolding_all rfl)
noncomputable abbrev fs49 : Scope := part3 (x := fnAt [2, 2] pw.main.body) (by with_unfolding_all rfl)
noncomputable abbrev fp56 : Arguments := part1 (x := fnAt [2, 3] pw.main.body) (by with_unfolding_all rfl)
noncomputable abbrev fb56 : List Stmt := part2 (x := fnAt [2, 3] pw.main.body) (by with_unfolding_all rfl)
noncomputable abbrev fs56 : Scope := part3 (x := fnAt [2, 3] pw.main.body) (by with_unfolding_all rfl)
noncomputable abbrev fp80 : Arguments := part1 (x := fnAt [4, 1] pw.main.body) (by with_unfolding_all rfl)
noncomputable abbrev fb80 : List Stmt := part2 (x := fnAt [4, 1] pw.main.body) (by with_unfolding_all rfl)
noncomputable abbrev fs80 : Scope := part3 (x := fnAt [4, 1] pw.main.body) (by with_unfolding_all rfl)
noncomputable abbrev fp87 : Arguments := part1 (x := fnAt [4, 2] pw.main.body) (by with_unfolding_all rfl)
noncomputable abbrev fb87 : List Stmt := part2 (x := fnAt [4, 2] pw.main.body) (by with_unfolding_all rfl)
noncomputable abbrev fs87 : Scope := part3 (x := fnAt [4, 2] pw.main.body) (by with_unfolding_all rfl)
noncomputable abbrev fp94 : Arguments := part1 (x := fnAt [4, 3] pw.main.body) (by with_unfolding_all rfl)
noncomputable abbrev fb94 : List Stmt := part2 (x := fnAt [4, 3] pw.main.body) (by with_unfolding_all rfl)
noncomputable abbrev fs94 : Scope := part3 (x := fnAt [4, 3] pw.main.body) (by with_unfolding_all rfl)
noncomputable abbrev fp101 : Arguments := part1 (x := fnAt [4, 4] pw.main.body) (by with_unfolding_all rfl)
noncomputable abbrev fb101 : List Stmt := part2 (x := fnAt [4, 4] pw.main.body) (by with_unfolding_all rfl)
noncomputable abbrev fs101 : Scope := part3 (x := fnAt [4, 4] pw.main.body) (by with_unfolding_all rfl)
noncomputable abbrev fp108 : Arguments := part1 (x := fnAt [4, 5] pw.main.body) (by with_unfolding_all rfl)
noncomputable abbrev fb108 : List Stmt := part2 (x := fnAt [4, 5] pw.main.body) (by with_unfolding_all rfl)
noncomputable abbrev fs108 : Scope := part3 (x := fnAt [4, 5] pw.main.body) (by with_unfolding_all rfl)
noncomputable abbrev fp115 : Arguments := part1 (x := fnAt [4, 6] pw.main.body) (by with_unfolding_all rfl)
noncomputable abbrev fb115 : List Stmt := part2 (x := fnAt [4, 6] pw.main.body) (by with_unfolding_all rfl)
noncomputable abbrev fs115 : Scope := part3 (x := fnAt [4, 6] pw.main.body) (by with_unfolding_all rfl)
noncomputable abbrev fp122 : Arguments := part1 (x := fnAt [4, 7] pw.main.body) (by with_unfolding_all rfl)
noncomputable abbrev fb122 : List Stmt := part2 (x := fnAt [4, 7] pw.main.body) (by with_unfolding_all rfl)
noncomputable abbrev fs122 : Scope := part3 (x := fnAt [4, 7] pw.main.body) (by with_unfolding_all rfl)
noncomputable abbrev fp136 : Arguments := part1 (x := fnAt [9] pw.main.body) (by with_unfolding_all rfl)
noncomputable abbrev fb136 : List Stmt := part2 (x := fnAt [9] pw.main.body) (by with_unfolding_all rfl)
noncomputable abbrev fs136 : Scope := part3 (x := fnAt [9] pw.main.body) (by with_unfolding_all rfl)
noncomputable abbrev fp143 : Arguments := part1 (x := fnAt [10] pw.main.body) (by with_unfolding_all rfl)
noncomputable abbrev fb143 : List Stmt := part2 (x := fnAt [10] pw.main.body) (by with_unfolding_all rfl)
noncomputable abbrev fs143 : Scope := part3 (x := fnAt [10] pw.main.body) (by with_unfolding_all rfl)
noncomputable abbrev fp150 : Arguments := part1 (x := fnAt [12] pw.main.body) (by with_unfolding_all rfl)
noncomputable abbrev fb150 : List Stmt := part2 (x := fnAt [12] pw.main.body) (by with_unfolding_all rfl)
noncomputable abbrev fs150 : Scope := part3 (x := fnAt [12] pw.main.body) (by with_unfolding_all rfl)
noncomputable abbrev fp157 : Arguments := part1 (x := fnAt [13] pw.main.body) (by with_unfolding_all rfl)
noncomputable abbrev fb157 : List Stmt := part2 (x := fnAt [13] pw.main.body) (by with_unfolding_all rfl)
noncomputable abbrev fs157 : Scope := part3 (x := fnAt [13] pw.main.body) (by with_unfolding_all rfl)
noncomputable abbrev fp164 : Arguments := part1 (x := fnAt [14] pw.main.body) (by with_unfolding_all rfl)
noncomputable abbrev fb164 : List Stmt := part2 (x := fnAt [14] pw.main.body) (by with_unfolding_all rfl)
noncomputable abbrev fs164 : Scope := part3 (x := fnAt [14] pw.main.body) (by with_unfolding_all rfl)
noncomputable abbrev fp171 : Arguments := part1 (x := fnAt [15] pw.main.body) (by with_unfolding_all rfl)
noncomputable abbrev fb171 : List Stmt := part2 (x := fnAt [15] pw.main.body) (by with_unfolding_all rfl)
noncomputable abbrev fs171 : Scope := part3 (x := fnAt [15] pw.main.body) (by with_unfolding_all rfl)
noncomputable abbrev fp176 : Arguments := part1 (x := fnAt [16] pw.main.body) (by with_unfolding_all rfl)
noncomputable abbrev fb176 : List Stmt := part2 (x := fnAt [16] pw.main.body) (by with_unfolding_all rfl)
noncomputable abbrev fs176 : Scope := part3 (x := fnAt [16] pw.main.body) (by with_unfolding_all rfl)
noncomputable abbrev fp183 : Arguments := part1 (x := fnAt [17] pw.main.body) (by with_unfolding_all rfl)
noncomputable abbrev fb183 : List Stmt := part2 (x := fnAt [17] pw.main.body) (by with_unfolding_all rfl)
noncomputable abbrev fs183 : Scope := part3 (x := fnAt [17] pw.main.body) (by with_unfolding_all rfl)
noncomputable abbrev fp190 : Arguments := part1 (x := fnAt [18] pw.main.body) (by with_unfolding_all rfl)
noncomputable abbrev fb190 : List Stmt := part2 (x := fnAt [18] pw.main.body) (by with_unfolding_all rfl)
noncomputable abbrev fs190 : Scope := part3 (x := fnAt [18] pw.main.body) (by with_unfolding_all rfl)
noncomputable abbrev fp195 : Arguments := part1 (x := fnAt [19] pw.main.body) (by with_unfolding_all rfl)
noncomputable abbrev fb195 : List Stmt := part2 (x := fnAt [19] pw.main.body) (by with_unfolding_all rfl)
noncomputable abbrev fs195 : Scope := part3 (x := fnAt [19] pw.main.body) (by with_unfolding_all rfl)
noncomputable abbrev fp200 : Arguments := part1 (x := fnAt [20] pw.main.body) (by with_unfolding_all rfl)
noncomputable abbrev fb200 : List Stmt := part2 (x := fnAt [20] pw.main.body) (by with_unfolding_all rfl)
noncomputable abbrev fs200 : Scope := part3 (x := fnAt [20] pw.main.body) (by with_unfolding_all rfl)
noncomputable def KF (P : Params) : Frag := [
  (2, Obj.mk Value.none none (Data.dict #[]) #[]),
  (3, Obj.mk (Value.type "dict") none (Data.dict #[ent P (sn "__name__") 165 (Value.str (sn "law_pg0255_01") 392), ent P (sn "__doc__") 166 Value.none, ent P (sn "__package__") 167 Value.none, ent P (sn "__loader__") 168 (Value.builtin "__main__.__loader__#opaque"), ent P (sn "__spec__") 169 Value.none, ent P (sn "__annotations__") 170 (Value.ref 6), ent P (sn "__builtins__") 171 (Value.ref 4), ent P (sn "__file__") 173 (Value.str (sn "/claim/cut.py") 172), ent P (sn "__cached__") 174 Value.none, ent P (sn "_wall") 193 (Value.ref 21), ent P (sn "_netrclex") 253 (Value.ref 59), ent P (sn "Whitespace") 355 (Value.ref 125), ent P (sn "_MAX_STRING_SIZE") 359 (Value.int 40 358), ent P (sn "_MOVE_COST") 361 (Value.int 2 360), ent P (sn "_CASE_COST") 363 (Value.int 1 362), ent P (sn "_substitution_cost") 371 (Value.ref 136), ent P (sn "_levenshtein_distance") 391 (Value.ref 143), ent P (sn "_law_digits") 403 (Value.ref 150), ent P (sn "_law_written") 416 (Value.ref 157), ent P (sn "_law_open") 425 (Value.ref 164), ent P (sn "_law_columns") 437 (Value.ref 171), ent P (sn "_law_rows") 443 (Value.ref 176), ent P (sn "_law_within") 453 (Value.ref 183), ent P (sn "_law_cost") 462 (Value.ref 190), ent P (sn "_law_waves") 468 (Value.ref 195), ent P (sn "law") 474 (Value.ref 200)] 26) #[]),
  (20, Obj.mk (Value.type "code") none (Data.fields #[Value.str (sn "_wall") 187, Value.str (sn "_wall") 188, Value.str (sn "/claim/cut.py") 189, Value.int 1 0, Value.int 1 0, Value.int 0 0, Value.int 0 0, Value.int 3 0, Value.ref 15, Value.bool true, Value.int 181 0, Value.ref 16, Value.none, Value.ref 17, Value.ref 18, Value.ref 19, Value.int 191 0, Value.int 1 0, Value.str (sn "/claim/cut.py") 192]) #[]),
  (21, Obj.mk (Value.type "function") none (Data.func (FuncData.mk (sn "_wall") (sn "_wall") fp21 (FuncBody.stmts fb21) fs21 3 [] Value.none Value.none Value.none (Value.str (sn "__main__") 164) none (Value.ref 20) Value.none 0)) #[]),
  (34, Obj.mk (Value.type "code") none (Data.fields #[Value.str (sn "__init__") 208, Value.str (sn "_netrclex.__init__") 209, Value.str (sn "/claim/cut.py") 210, Value.int 7 0, Value.int 2 0, Value.int 0 0, Value.int 0 0, Value.int 3 0, Value.ref 29, Value.bool true, Value.int 181 0, Value.ref 30, Value.none, Value.ref 31, Value.ref 32, Value.ref 33, Value.int 213 0, Value.int 7 0, Value.str (sn "/claim/cut.py") 214]) #[]),
  (35, Obj.mk (Value.type "function") none (Data.func (FuncData.mk (sn "__init__") (sn "_netrclex.__init__") fp35 (FuncBody.stmts fb35) fs35 3 [] Value.none Value.none Value.none (Value.str (sn "cpy313.netrc") 194) none (Value.ref 34) Value.none 0)) #[]),
  (41, Obj.mk (Value.type "code") none (Data.fields #[Value.str (sn "_read_char") 216, Value.str (sn "_netrclex._read_char") 217, Value.str (sn "/claim/cut.py") 218, Value.int 13 0, Value.int 1 0, Value.int 0 0, Value.int 0 0, Value.int 3 0, Value.ref 36, Value.bool true, Value.int 181 0, Value.ref 37, Value.none, Value.ref 38, Value.ref 39, Value.ref 40, Value.int 221 0, Value.int 13 0, Value.str (sn "/claim/cut.py") 222]) #[]),
  (42, Obj.mk (Value.type "function") none (Data.func (FuncData.mk (sn "_read_char") (sn "_netrclex._read_char") fp42 (FuncBody.stmts fb42) fs42 3 [] Value.none Value.none Value.none (Value.str (sn "cpy313.netrc") 194) none (Value.ref 41) Value.none 0)) #[]),
  (48, Obj.mk (Value.type "code") none (Data.fields #[Value.str (sn "get_token") 224, Value.str (sn "_netrclex.get_token") 225, Value.str (sn "/claim/cut.py") 226, Value.int 19 0, Value.int 1 0, Value.int 0 0, Value.int 0 0, Value.int 3 0, Value.ref 43, Value.bool true, Value.int 181 0, Value.ref 44, Value.none, Value.ref 45, Value.ref 46, Value.ref 47, Value.int 231 0, Value.int 19 0, Value.str (sn "/claim/cut.py") 232]) #[]),
  (49, Obj.mk (Value.type "function") none (Data.func (FuncData.mk (sn "get_token") (sn "_netrclex.get_token") fp49 (FuncBody.stmts fb49) fs49 3 [] Value.none Value.none Value.none (Value.str (sn "cpy313.netrc") 194) none (Value.ref 48) Value.none 0)) #[]),
  (55, Obj.mk (Value.type "code") none (Data.fields #[Value.str (sn "push_token") 234, Value.str (sn "_netrclex.push_token") 235, Value.str (sn "/claim/cut.py") 236, Value.int 46 0, Value.int 2 0, Value.int 0 0, Value.int 0 0, Value.int 3 0, Value.ref 50, Value.bool true, Value.int 181 0, Value.ref 51, Value.none, Value.ref 52, Value.ref 53, Value.ref 54, Value.int 239 0, Value.int 46 0, Value.str (sn "/claim/cut.py") 240]) #[]),
  (56, Obj.mk (Value.type "function") none (Data.func (FuncData.mk (sn "push_token") (sn "_netrclex.push_token") fp56 (FuncBody.stmts fb56) fs56 3 [] Value.none Value.none Value.none (Value.str (sn "cpy313.netrc") 194) none (Value.ref 55) Value.none 0)) #[]),
  (58, Obj.mk (Value.type "dict") none (Data.dict #[ent P (sn "__module__") 203 (Value.str (sn "cpy313.netrc") 194), ent P (sn "__firstlineno__") 207 (Value.int 5 206), ent P (sn "__init__") 215 (Value.ref 35), ent P (sn "_read_char") 223 (Value.ref 42), ent P (sn "get_token") 233 (Value.ref 49), ent P (sn "push_token") 241 (Value.ref 56), ent P (sn "__static_attributes__") 246 (Value.ref 57), ent P (sn "__dict__") 248 (Value.ref 60), ent P (sn "__weakref__") 250 (Value.ref 61), ent P (sn "__doc__") 251 Value.none] 4) #[]),
  (59, Obj.mk (Value.type "type") none (Data.cls (ClassData.mk (sn "_netrclex") [Value.type "object"] [Value.ref 59, Value.type "object"] 58 (sn "_netrclex") true [] [] false none false)) #[none, none, some (Value.str (sn "_netrclex") 196), some (Value.str (sn "_netrclex") 204), some (Value.builtin "object.__new__"), some (Value.bool true)]),
  (60, Obj.mk (Value.type "getset_descriptor") none (Data.fields #[Value.str (sn "__dict__") 247, Value.ref 59, Value.builtin "function.__dict__", Value.builtin "function.__dict__#set"]) #[]),
  (61, Obj.mk (Value.type "getset_descriptor") none (Data.fields #[Value.str (sn "__weakref__") 249, Value.ref 59, Value.builtin "ExceptionGroup.__weakref__", Value.none]) #[]),
  (79, Obj.mk (Value.type "code") none (Data.fields #[Value.str (sn "__init__") 273, Value.str (sn "Whitespace.__init__") 274, Value.str (sn "/claim/cut.py") 275, Value.int 52 0, Value.int 2 0, Value.int 0 0, Value.int 0 0, Value.int 3 0, Value.ref 74, Value.bool true, Value.int 181 0, Value.ref 75, Value.none, Value.ref 76, Value.ref 77, Value.ref 78, Value.int 285 0, Value.int 52 0, Value.str (sn "/claim/cut.py") 286]) #[]),
  (80, Obj.mk (Value.type "function") none (Data.func (FuncData.mk (sn "__init__") (sn "Whitespace.__init__") fp80 (FuncBody.stmts fb80) fs80 3 [] Value.none Value.none Value.none (Value.str (sn "cpy313.tabnanny") 254) none (Value.ref 79) Value.none 0)) #[]),
  (86, Obj.mk (Value.type "code") none (Data.fields #[Value.str (sn "longest_run_of_spaces") 288, Value.str (sn "Whitespace.longest_run_of_spaces") 289, Value.str (sn "/claim/cut.py") 290, Value.int 75 0, Value.int 1 0, Value.int 0 0, Value.int 0 0, Value.int 3 0, Value.ref 81, Value.bool true, Value.int 181 0, Value.ref 82, Value.none, Value.ref 83, Value.ref 84, Value.ref 85, Value.int 294 0, Value.int 75 0, Value.str (sn "/claim/cut.py") 295]) #[]),
  (87, Obj.mk (Value.type "function") none (Data.func (FuncData.mk (sn "longest_run_of_spaces") (sn "Whitespace.longest_run_of_spaces") fp87 (FuncBody.stmts fb87) fs87 3 [] Value.none Value.none Value.none (Value.str (sn "cpy313.tabnanny") 254) none (Value.ref 86) Value.none 0)) #[]),
  (93, Obj.mk (Value.type "code") none (Data.fields #[Value.str (sn "indent_level") 297, Value.str (sn "Whitespace.indent_level") 298, Value.str (sn "/claim/cut.py") 299, Value.int 79 0, Value.int 2 0, Value.int 0 0, Value.int 0 0, Value.int 3 0, Value.ref 88, Value.bool true, Value.int 181 0, Value.ref 89, Value.none, Value.ref 90, Value.ref 91, Value.ref 92, Value.int 306 0, Value.int 79 0, Value.str (sn "/claim/cut.py") 307]) #[]),
  (94, Obj.mk (Value.type "function") none (Data.func (FuncData.mk (sn "indent_level") (sn "Whitespace.indent_level") fp94 (FuncBody.stmts fb94) fs94 3 [] Value.none Value.none Value.none (Value.str (sn "cpy313.tabnanny") 254) none (Value.ref 93) Value.none 0)) #[]),
  (100, Obj.mk (Value.type "code") none (Data.fields #[Value.str (sn "equal") 309, Value.str (sn "Whitespace.equal") 310, Value.str (sn "/claim/cut.py") 311, Value.int 86 0, Value.int 2 0, Value.int 0 0, Value.int 0 0, Value.int 3 0, Value.ref 95, Value.bool true, Value.int 181 0, Value.ref 96, Value.none, Value.ref 97, Value.ref 98, Value.ref 99, Value.int 314 0, Value.int 86 0, Value.str (sn "/claim/cut.py") 315]) #[]),
  (101, Obj.mk (Value.type "function") none (Data.func (FuncData.mk (sn "equal") (sn "Whitespace.equal") fp101 (FuncBody.stmts fb101) fs101 3 [] Value.none Value.none Value.none (Value.str (sn "cpy313.tabnanny") 254) none (Value.ref 100) Value.none 0)) #[]),
  (107, Obj.mk (Value.type "code") none (Data.fields #[Value.str (sn "not_equal_witness") 317, Value.str (sn "Whitespace.not_equal_witness") 318, Value.str (sn "/claim/cut.py") 319, Value.int 89 0, Value.int 2 0, Value.int 0 0, Value.int 0 0, Value.int 3 0, Value.ref 102, Value.bool true, Value.int 181 0, Value.ref 103, Value.none, Value.ref 104, Value.ref 105, Value.ref 106, Value.int 322 0, Value.int 89 0, Value.str (sn "/claim/cut.py") 323]) #[]),
  (108, Obj.mk (Value.type "function") none (Data.func (FuncData.mk (sn "not_equal_witness") (sn "Whitespace.not_equal_witness") fp108 (FuncBody.stmts fb108) fs108 3 [] Value.none Value.none Value.none (Value.str (sn "cpy313.tabnanny") 254) none (Value.ref 107) Value.none 0)) #[]),
  (114, Obj.mk (Value.type "code") none (Data.fields #[Value.str (sn "less") 325, Value.str (sn "Whitespace.less") 326, Value.str (sn "/claim/cut.py") 327, Value.int 92 0, Value.int 2 0, Value.int 0 0, Value.int 0 0, Value.int 3 0, Value.ref 109, Value.bool true, Value.int 181 0, Value.ref 110, Value.none, Value.ref 111, Value.ref 112, Value.ref 113, Value.int 332 0, Value.int 92 0, Value.str (sn "/claim/cut.py") 333]) #[]),
  (115, Obj.mk (Value.type "function") none (Data.func (FuncData.mk (sn "less") (sn "Whitespace.less") fp115 (FuncBody.stmts fb115) fs115 3 [] Value.none Value.none Value.none (Value.str (sn "cpy313.tabnanny") 254) none (Value.ref 114) Value.none 0)) #[]),
  (121, Obj.mk (Value.type "code") none (Data.fields #[Value.str (sn "not_less_witness") 335, Value.str (sn "Whitespace.not_less_witness") 336, Value.str (sn "/claim/cut.py") 337, Value.int 103 0, Value.int 2 0, Value.int 0 0, Value.int 0 0, Value.int 3 0, Value.ref 116, Value.bool true, Value.int 181 0, Value.ref 117, Value.none, Value.ref 118, Value.ref 119, Value.ref 120, Value.int 340 0, Value.int 103 0, Value.str (sn "/claim/cut.py") 341]) #[]),
  (122, Obj.mk (Value.type "function") none (Data.func (FuncData.mk (sn "not_less_witness") (sn "Whitespace.not_less_witness") fp122 (FuncBody.stmts fb122) fs122 3 [] Value.none Value.none Value.none (Value.str (sn "cpy313.tabnanny") 254) none (Value.ref 121) Value.none 0)) #[]),
  (124, Obj.mk (Value.type "dict") none (Data.dict #[ent P (sn "__module__") 263 (Value.str (sn "cpy313.tabnanny") 254), ent P (sn "__firstlineno__") 267 (Value.int 49 266), ent P (sn "S") 271 (Value.str (sn " ") 269), ent P (sn "T") 272 (Value.str (sn "\t") 270), ent P (sn "__init__") 287 (Value.ref 80), ent P (sn "longest_run_of_spaces") 296 (Value.ref 87), ent P (sn "indent_level") 308 (Value.ref 94), ent P (sn "equal") 316 (Value.ref 101), ent P (sn "not_equal_witness") 324 (Value.ref 108), ent P (sn "less") 334 (Value.ref 115), ent P (sn "not_less_witness") 342 (Value.ref 122), ent P (sn "__static_attributes__") 348 (Value.ref 123), ent P (sn "__dict__") 350 (Value.ref 126), ent P (sn "__weakref__") 352 (Value.ref 127), ent P (sn "__doc__") 353 Value.none] 4) #[]),
  (125, Obj.mk (Value.type "type") none (Data.cls (ClassData.mk (sn "Whitespace") [Value.type "object"] [Value.ref 125, Value.type "object"] 124 (sn "Whitespace") true [] [] false none false)) #[none, none, some (Value.str (sn "Whitespace") 256), some (Value.str (sn "Whitespace") 264), some (Value.builtin "object.__new__"), some (Value.bool true)]),
  (126, Obj.mk (Value.type "getset_descriptor") none (Data.fields #[Value.str (sn "__dict__") 349, Value.ref 125, Value.builtin "function.__dict__", Value.builtin "function.__dict__#set"]) #[]),
  (127, Obj.mk (Value.type "getset_descriptor") none (Data.fields #[Value.str (sn "__weakref__") 351, Value.ref 125, Value.builtin "ExceptionGroup.__weakref__", Value.none]) #[]),
  (135, Obj.mk (Value.type "code") none (Data.fields #[Value.str (sn "_substitution_cost") 364, Value.str (sn "_substitution_cost") 365, Value.str (sn "/claim/cut.py") 366, Value.int 109 0, Value.int 2 0, Value.int 0 0, Value.int 0 0, Value.int 3 0, Value.ref 130, Value.bool true, Value.int 181 0, Value.ref 131, Value.none, Value.ref 132, Value.ref 133, Value.ref 134, Value.int 369 0, Value.int 109 0, Value.str (sn "/claim/cut.py") 370]) #[]),
  (136, Obj.mk (Value.type "function") none (Data.func (FuncData.mk (sn "_substitution_cost") (sn "_substitution_cost") fp136 (FuncBody.stmts fb136) fs136 3 [] Value.none Value.none Value.none (Value.str (sn "cpy313.traceback") 356) none (Value.ref 135) Value.none 0)) #[]),
  (142, Obj.mk (Value.type "code") none (Data.fields #[Value.str (sn "_levenshtein_distance") 372, Value.str (sn "_levenshtein_distance") 373, Value.str (sn "/claim/cut.py") 374, Value.int 115 0, Value.int 3 0, Value.int 0 0, Value.int 0 0, Value.int 3 0, Value.ref 137, Value.bool true, Value.int 181 0, Value.ref 138, Value.none, Value.ref 139, Value.ref 140, Value.ref 141, Value.int 389 0, Value.int 115 0, Value.str (sn "/claim/cut.py") 390]) #[]),
  (143, Obj.mk (Value.type "function") none (Data.func (FuncData.mk (sn "_levenshtein_distance") (sn "_levenshtein_distance") fp143 (FuncBody.stmts fb143) fs143 3 [] Value.none Value.none Value.none (Value.str (sn "cpy313.traceback") 356) none (Value.ref 142) Value.none 0)) #[]),
  (149, Obj.mk (Value.type "code") none (Data.fields #[Value.str (sn "_law_digits") 394, Value.str (sn "_law_digits") 395, Value.str (sn "/claim/cut.py") 396, Value.int 154 0, Value.int 2 0, Value.int 0 0, Value.int 0 0, Value.int 3 0, Value.ref 144, Value.bool true, Value.int 181 0, Value.ref 145, Value.none, Value.ref 146, Value.ref 147, Value.ref 148, Value.int 401 0, Value.int 154 0, Value.str (sn "/claim/cut.py") 402]) #[]),
  (150, Obj.mk (Value.type "function") none (Data.func (FuncData.mk (sn "_law_digits") (sn "_law_digits") fp150 (FuncBody.stmts fb150) fs150 3 [] Value.none Value.none Value.none (Value.str (sn "law_pg0255_01") 392) none (Value.ref 149) Value.none 0)) #[]),
  (156, Obj.mk (Value.type "code") none (Data.fields #[Value.str (sn "_law_written") 404, Value.str (sn "_law_written") 405, Value.str (sn "/claim/cut.py") 406, Value.int 160 0, Value.int 3 0, Value.int 0 0, Value.int 0 0, Value.int 3 0, Value.ref 151, Value.bool true, Value.int 181 0, Value.ref 152, Value.none, Value.ref 153, Value.ref 154, Value.ref 155, Value.int 414 0, Value.int 160 0, Value.str (sn "/claim/cut.py") 415]) #[]),
  (157, Obj.mk (Value.type "function") none (Data.func (FuncData.mk (sn "_law_written") (sn "_law_written") fp157 (FuncBody.stmts fb157) fs157 3 [] Value.none Value.none Value.none (Value.str (sn "law_pg0255_01") 392) none (Value.ref 156) Value.none 0)) #[]),
  (163, Obj.mk (Value.type "code") none (Data.fields #[Value.str (sn "_law_open") 417, Value.str (sn "_law_open") 418, Value.str (sn "/claim/cut.py") 419, Value.int 172 0, Value.int 1 0, Value.int 0 0, Value.int 0 0, Value.int 3 0, Value.ref 158, Value.bool true, Value.int 181 0, Value.ref 159, Value.none, Value.ref 160, Value.ref 161, Value.ref 162, Value.int 423 0, Value.int 172 0, Value.str (sn "/claim/cut.py") 424]) #[]),
  (164, Obj.mk (Value.type "function") none (Data.func (FuncData.mk (sn "_law_open") (sn "_law_open") fp164 (FuncBody.stmts fb164) fs164 3 [] Value.none Value.none Value.none (Value.str (sn "law_pg0255_01") 392) none (Value.ref 163) Value.none 0)) #[]),
  (170, Obj.mk (Value.type "code") none (Data.fields #[Value.str (sn "_law_columns") 426, Value.str (sn "_law_columns") 427, Value.str (sn "/claim/cut.py") 428, Value.int 176 0, Value.int 1 0, Value.int 0 0, Value.int 0 0, Value.int 3 0, Value.ref 165, Value.bool true, Value.int 181 0, Value.ref 166, Value.none, Value.ref 167, Value.ref 168, Value.ref 169, Value.int 435 0, Value.int 176 0, Value.str (sn "/claim/cut.py") 436]) #[]),
  (171, Obj.mk (Value.type "function") none (Data.func (FuncData.mk (sn "_law_columns") (sn "_law_columns") fp171 (FuncBody.stmts fb171) fs171 3 [] Value.none Value.none Value.none (Value.str (sn "law_pg0255_01") 392) none (Value.ref 170) Value.none 0)) #[]),
  (175, Obj.mk (Value.type "code") none (Data.fields #[Value.str (sn "_law_rows") 438, Value.str (sn "_law_rows") 439, Value.str (sn "/claim/cut.py") 440, Value.int 186 0, Value.int 1 0, Value.int 0 0, Value.int 0 0, Value.int 3 0, Value.ref 172, Value.bool true, Value.int 181 0, Value.ref 173, Value.none, Value.none, Value.none, Value.ref 174, Value.int 441 0, Value.int 186 0, Value.str (sn "/claim/cut.py") 442]) #[]),
  (176, Obj.mk (Value.type "function") none (Data.func (FuncData.mk (sn "_law_rows") (sn "_law_rows") fp176 (FuncBody.stmts fb176) fs176 3 [] Value.none Value.none Value.none (Value.str (sn "law_pg0255_01") 392) none (Value.ref 175) Value.none 0)) #[]),
  (182, Obj.mk (Value.type "code") none (Data.fields #[Value.str (sn "_law_within") 444, Value.str (sn "_law_within") 445, Value.str (sn "/claim/cut.py") 446, Value.int 199 0, Value.int 3 0, Value.int 0 0, Value.int 0 0, Value.int 3 0, Value.ref 177, Value.bool true, Value.int 181 0, Value.ref 178, Value.none, Value.ref 179, Value.ref 180, Value.ref 181, Value.int 451 0, Value.int 199 0, Value.str (sn "/claim/cut.py") 452]) #[]),
  (183, Obj.mk (Value.type "function") none (Data.func (FuncData.mk (sn "_law_within") (sn "_law_within") fp183 (FuncBody.stmts fb183) fs183 3 [] Value.none Value.none Value.none (Value.str (sn "law_pg0255_01") 392) none (Value.ref 182) Value.none 0)) #[]),
  (189, Obj.mk (Value.type "code") none (Data.fields #[Value.str (sn "_law_cost") 454, Value.str (sn "_law_cost") 455, Value.str (sn "/claim/cut.py") 456, Value.int 210 0, Value.int 2 0, Value.int 0 0, Value.int 0 0, Value.int 3 0, Value.ref 184, Value.bool true, Value.int 181 0, Value.ref 185, Value.none, Value.ref 186, Value.ref 187, Value.ref 188, Value.int 460 0, Value.int 210 0, Value.str (sn "/claim/cut.py") 461]) #[]),
  (190, Obj.mk (Value.type "function") none (Data.func (FuncData.mk (sn "_law_cost") (sn "_law_cost") fp190 (FuncBody.stmts fb190) fs190 3 [] Value.none Value.none Value.none (Value.str (sn "law_pg0255_01") 392) none (Value.ref 189) Value.none 0)) #[]),
  (194, Obj.mk (Value.type "code") none (Data.fields #[Value.str (sn "_law_waves") 463, Value.str (sn "_law_waves") 464, Value.str (sn "/claim/cut.py") 465, Value.int 215 0, Value.int 1 0, Value.int 0 0, Value.int 0 0, Value.int 3 0, Value.ref 191, Value.bool true, Value.int 181 0, Value.ref 192, Value.none, Value.none, Value.none, Value.ref 193, Value.int 466 0, Value.int 215 0, Value.str (sn "/claim/cut.py") 467]) #[]),
  (195, Obj.mk (Value.type "function") none (Data.func (FuncData.mk (sn "_law_waves") (sn "_law_waves") fp195 (FuncBody.stmts fb195) fs195 3 [] Value.none Value.none Value.none (Value.str (sn "law_pg0255_01") 392) none (Value.ref 194) Value.none 0)) #[]),
  (199, Obj.mk (Value.type "code") none (Data.fields #[Value.str (sn "law") 469, Value.str (sn "law") 470, Value.str (sn "/claim/cut.py") 471, Value.int 233 0, Value.int 1 0, Value.int 0 0, Value.int 0 0, Value.int 3 0, Value.ref 196, Value.bool true, Value.int 181 0, Value.ref 197, Value.none, Value.none, Value.none, Value.ref 198, Value.int 472 0, Value.int 233 0, Value.str (sn "/claim/cut.py") 473]) #[]),
  (200, Obj.mk (Value.type "function") none (Data.func (FuncData.mk (sn "law") (sn "law") fp200 (FuncBody.stmts fb200) fs200 3 [] Value.none Value.none Value.none (Value.str (sn "law_pg0255_01") 392) none (Value.ref 199) Value.none 0)) #[])]
noncomputable def KFas : List Addr := [2, 3, 20, 21, 34, 35, 41, 42, 48, 49, 55, 56, 58, 59, 60, 61, 79, 80, 86, 87, 93, 94, 100, 101, 107, 108, 114, 115, 121, 122, 124, 125, 126, 127, 135, 136, 142, 143, 149, 150, 156, 157, 163, 164, 170, 171, 175, 176, 182, 183, 189, 190, 194, 195, 199, 200]
theorem KFas_eq (P : Params) : KFas = (KF P).map (·.1) := rfl
noncomputable abbrev HK : Hook := kmHook KF KFas KFas_eq [159]
noncomputable def hdView : Program := view pw [0, 2, 4, 6, 7, 8, 9, 10, 12, 13, 14, 15, 16, 17, 18, 19, 20]
noncomputable def hdLo : List PySem.Str := [PySem.Str.ofString "Whitespace"]
/-- the heap at the start as a tree -/
noncomputable def tree0 (P : Params) : BT := ((boot_heap P).objs.toList.foldl (fun (t : BT × Nat) o => (t.1.ins t.2 o, t.2 + 1)) (.nil, 0)).1
theorem heap0 (P : Params) : boot_heap P = absHeap (tree0 P) 11 (boot_heap P).life := by kernel_rfl
theorem size0 (P : Params) : ((boot_heap P).isNs mainGlobals && (#[] : Array GenState).size == 0) = true ∧ (boot_heap P).objs.size = 11 ∧ (boot_heap P).nsMap mainGlobals "__annotations__" = some (.ref 6) :=
  ⟨by kernel_rfl, by kernel_rfl, by kernel_rfl⟩
noncomputable def st0 (w : World) (os : OsState) : SharedT := ⟨tree0 w.params, 11, (boot_heap w.params).life, #[], boot_drawn, boot_toks, os⟩
theorem st0_abs (w : World) (os : OsState) : (st0 w os).abs = ⟨boot_heap w.params, #[], boot_drawn, boot_toks, os⟩ := congrArg (fun h => (⟨h, #[], boot_drawn, boot_toks, os⟩ : Shared)) (heap0 w.params).symm
/-- a run to the end of the thread -/
theorem topRun_of {tb : String → Option Builtin} {p : Program} {w : World} {n₀ : Nat} {ann : Option Value} : ∀ {n : Nat} {s s' : Shared} {t : Thread} {f : Flow} {c : Code} {q : Pos},
    segRun tb p w n₀ ann 0 n s t = some (f, s', c, q) → topRun tb p w n₀ ann n s t = some s'
  | 0, _, _, _, _, _, _, h => by cases h
  | n + 1, s, s', t, f, c, q, h => by
    unfold segRun at h
    unfold topRun
    have key : (∃ x, endAt 0 t = some x ∧ through t = true) ∨ (endAt 0 t = none ∧ through t = false) := by
      obtain ⟨cur, code, pos, stack⟩ := t
      cases stack with
      | nil => cases cur with
        | pure x => cases x with
          | done x => exact .inl ⟨x, rfl, rfl⟩
          | again x => exact .inr ⟨rfl, rfl⟩
        | _ => exact .inr ⟨rfl, rfl⟩
      | cons a b => exact .inr ⟨rfl, rfl⟩
    rcases key with ⟨x, e1, e2⟩ | ⟨e1, e2⟩
    · rw [e1] at h; rw [e2]; cases h; rfl
    · rw [e1] at h; rw [e2]
      cases hk : stepOk n₀ ann t with
      | false => rw [hk] at h; cases h
      | true =>
        rw [hk] at h
        cases hs : step (denote tb) p w s t with
        | halt o s₂ => rw [hs] at h; cases h
        | go s₂ t₂ => rw [hs] at h; exact topRun_of h
/-- the run of the top, and what is seen behind it -/
noncomputable def HdSeen {α : Type} (seg : (String → Option Builtin) → Program → World → Nat → Option Value → Nat → Nat → SharedT → Thread → Option (Flow × SharedT × Code × Pos)) (p q : Program) (loose : List PySem.Str) (Xt : Shared → Bool) (Yf : Shared → α) (Ya : World → α) (N : Nat) (w : World) : Prop :=
  (fun os => (seg treeTable p w 11 (some (.ref 6)) 0 N (st0 w os) (topStub p)).map fun r =>
    ((staticsOk (importedModules p.main.body) (boot_heap w.params) r.2.1.abs.heap && namesBound p r.2.1.abs.heap && gensDone r.2.1.abs && laidKept (boot_heap w.params) r.2.1.abs.heap),
      openSeen q loose (importedModules p.main.body) Xt true r.2.1.abs, Yf r.2.1.abs)) = fun _ => some (true, openGood q loose, Ya w)
theorem hdLeft_of {p q : Program} {loose : List PySem.Str} {Xt : Shared → Bool} {α : Type} {Yf : Shared → α} {Ya : World → α} {N : Nat} (e : opening p = plainProg p.main.scope.names) (hN : Nat.ble 600 N = true) (f : ∀ s, fenceModules? p s = some s)
    (h : ∀ w, HdSeen segRunT p q loose Xt Yf Ya N w) : LeftO p q loose Xt Yf Ya N := fun w => by
  obtain ⟨⟨h0, gs, d, k, os⟩, e0, e'⟩ := Option.map_eq_some_iff.mp (boot_open e hN f w)
  obtain ⟨rfl, rfl, rfl, rfl⟩ : h0 = boot_heap w.params ∧ gs = Array.mk [] ∧ d = boot_drawn ∧ k = boot_toks := by simpa using e'
  obtain ⟨z1, z2, z3⟩ := size0 w.params
  obtain ⟨⟨fl, s', c, ps⟩, hr, hl⟩ := Option.map_eq_some_iff.mp (congrFun (h w) os)
  obtain ⟨l1, hl⟩ := Prod.mk.inj hl
  obtain ⟨l2, l3⟩ := Prod.mk.inj hl
  have r := topRun_of (segRun_of hr)
  rw [st0_abs] at r
  have t : topFrom treeTable p w N ⟨boot_heap w.params, Array.mk [], boot_drawn, boot_toks, os⟩ = some s'.abs := by
    unfold topFrom
    dsimp only
    rw [z1, z2, z3, r]
    show (match staticsOk (importedModules p.main.body) (boot_heap w.params) s'.abs.heap && namesBound p s'.abs.heap && gensDone s'.abs && laidKept (boot_heap w.params) s'.abs.heap with | true => _ | false => _) = _
    rw [l1]
  unfold openEnds
  rw [e0]
  show (topFrom treeTable p w N _).map _ = _
  rw [t]
  exact congrArg some (Prod.ext l2 l3)
noncomputable abbrev hdRow : RowW := (OpenLaw.row Challenge.rw_pg0255_01).toRowW
noncomputable abbrev hdXt (s : Shared) : Bool := xlAt hdView [] s && recOk (RowW.records hdRow) s
theorem hdSeen_f (w : World) : HdSeen PySem.W.Fast.tw10110043849684766642 pw hdView hdLo hdXt HK.obs HK.val 2700 (w.withFollow "special-get-raises" false) := by unfold HdSeen; kernel_rfl
theorem hdSeen_t (w : World) : HdSeen PySem.W.Fast.tw10110043849684766642 pw hdView hdLo hdXt HK.obs HK.val 2700 (w.withFollow "special-get-raises" true) := by unfold HdSeen; kernel_rfl
theorem hdLeft : LeftO pw hdView hdLo hdXt HK.obs HK.val 2700 := by
  refine hdLeft_of rfl rfl (fun _ => rfl) ?_
  have e := PySem.W.Fast.te10110043849684766642
  rw [e]
  exact byRow2 "special-get-raises" (P := fun w => HdSeen PySem.W.Fast.tw10110043849684766642 pw hdView hdLo hdXt HK.obs HK.val 2700 w) hdSeen_f hdSeen_t
theorem hdSaid : OpenLaw.wellSaid Challenge.rw_pg0255_01 = true := (congrFun PySem.W.Fast.te9446332074065402090 _).trans (by kernel_rfl)
end Mine
namespace Mine
open PySem PySem.W PySem.Calls PyProof.Rows Builtin Builtin.Str Builtin.Int
local macro_rules | `(tactic| walk_at "mem") => `(tactic| first | with_reducible exact At.here | ((with_reducible apply At.there); walk_at "mem"))
local macro_rules | `(tactic| walk_at "memE") => `(tactic| first | with_reducible exact At.here | ((with_reducible refine At.hereE ?_); first | rfl | (simp; done)) | ((with_reducible apply At.there); walk_at "memE"))
local macro_rules | `(tactic| walk_at "rep") => `(tactic| first | with_reducible exact Rep.here | ((with_reducible apply Rep.there); walk_at "rep"))
local macro_rules | `(tactic| walk_at "put") => `(tactic| first | exact Put.oldL rfl (by walk_at "rep") | exact Put.newL rfl rfl | exact Put.oldC rfl rfl rfl (by walk_at "rep") | exact Put.newC rfl rfl rfl rfl | exact Put.newL (by with_unfolding_all rfl) rfl)
local macro_rules | `(tactic| walk_at "isfn") => `(tactic| exact ⟨⟨_, rfl, rfl⟩, rfl, by with_unfolding_all rfl, rfl, rfl, rfl, rfl, rfl, rfl, by decide⟩)
local macro_rules | `(tactic| walk_at "ev") => `(tactic| first
  | (apply Ev.isName; first | exact Ev.nm (by walk_at "mem") | exact Ev.gInt (by assumption) rfl rfl | exact Ev.gname (by assumption) rfl rfl | exact Ev.bname (by assumption) rfl rfl rfl)
  | (apply Ev.isConst; first | exact Ev.cInt | exact Ev.cStr rfl | exact Ev.cNone | exact Ev.cBool)
  | (apply Ev.isAdd; exact Ev.add (by walk_at "ev") (by walk_at "ev"))
  | (apply Ev.isSub; exact Ev.sub (by walk_at "ev") (by walk_at "ev"))
  | (apply Ev.isNeg; exact Ev.neg (by walk_at "ev")))
local macro_rules | `(tactic| walk_at "tst") => `(tactic| first
  | (apply Tst.isEq; first | exact Tst.eqI (by walk_at "ev") (by walk_at "ev") | exact Tst.eqS (by walk_at "ev") (by walk_at "ev"))
  | (apply Tst.isNe; first | exact Tst.neI (by walk_at "ev") (by walk_at "ev") | exact Tst.neS (by walk_at "ev") (by walk_at "ev"))
  | (apply Tst.isIn; first | exact Tst.inS (by walk_at "ev") (by walk_at "ev"))
  | (apply Tst.isLt; first | exact Tst.ltI (by walk_at "ev") (by walk_at "ev"))
  | (apply Tst.isLe; first | exact Tst.leI (by walk_at "ev") (by walk_at "ev"))
  | (apply Tst.isGt; first | exact Tst.gtI (by walk_at "ev") (by walk_at "ev"))
  | (apply Tst.isGe; first | exact Tst.geI (by walk_at "ev") (by walk_at "ev")))
local macro_rules | `(tactic| walk_at "vs") => `(tactic| first | exact VS.nil | (refine VS.cons (by walk_at "memE") ?_; walk_at "vs"))
local macro_rules | `(tactic| walk_at "subl") => `(tactic| first | with_reducible exact RSub.nil | ((with_reducible refine RSub.take ?_); walk_at "subl") | ((with_reducible refine RSub.takeE ?_ ?_); rfl; walk_at "subl") | ((with_reducible refine RSub.skip ?_); walk_at "subl"))
local macro_rules | `(tactic| walk_at "wk") => `(tactic| exact Wk.of (by walk_at "vs") (by with_unfolding_all rfl) (by walk_at "subl"))
local macro_rules | `(tactic| walk_at "rset") => `(tactic| first | exact RSet.here | (apply RSet.there; walk_at "rset"))
local macro_rules | `(tactic| walk_at "rdel") => `(tactic| first | exact RDel.here | (apply RDel.there; walk_at "rdel"))
local macro_rules | `(tactic| walk_at "rmem") => `(tactic| first | exact RAt.here | (apply RAt.there; walk_at "rmem"))
local macro_rules | `(tactic| walk_at "src") => `(tactic| first | exact Ev.srcL (by walk_at "ev") | exact Ev.srcO (by walk_at "ev") (by walk_at "rmem") | exact Ev.srcG (by walk_at "ev"))
local macro_rules | `(tactic| walk_at "own") => `(tactic| exact ⟨rfl, rfl, _, rfl, rfl⟩)
local macro_rules | `(tactic| walk_at "set") => `(tactic| exact ⟨rfl, rfl, rfl, rfl⟩)
local macro_rules | `(tactic| walk_at "fput") => `(tactic| first | exact FPut.new rfl | exact FPut.old (by walk_at "rep") rfl)
noncomputable abbrev KK (w : World) : Frag := KF w.params
/-- the cost of one sign for another -/
noncomputable def subc (x y : List Nat) : Int := if x == y then 0 else if S2 (Txt.lower (L2S x)) == S2 (Txt.lower (L2S y)) then 1 else 2
theorem sub_ok {prog : Program} {w : World} {g : Heap} (G : Grd (KK w) g) (x y : List Nat) (hx : (Txt.lower (L2S x)).length ≤ sizeLine) (hy : (Txt.lower (L2S y)).length ≤ sizeLine) :
    FnD prog w g (.ref 136) 1 [vStr x, vStr y] [] (vInt (subc x y)) [] := by
  refine FnR.of_vars (K := KK w) G (by walk_at "isfn") [(PySem.Str.ofString "ch_a", vStr x), (PySem.Str.ofString "ch_b", vStr y)] rfl (vals2 fun a b => rfl) rfl (by with_unfolding_all rfl) fun A F s L rm => ?_
  refine Exs.iff (by walk_at "tst") (fun h => ?_) fun h => ?_
  · refine Exs.ret Ev.cInt ⟨[], .slnil, ?_, rfl⟩
    unfold subc; rw [if_pos h]
  · refine Exs.nil (Exs.iff (.eqS (.lower (by walk_at "ev") hx) (.lower (by walk_at "ev") hy)) (fun h2 => ?_) fun h2 => ?_)
    · refine Exs.ret (by walk_at "ev") ⟨[], .slnil, ?_, rfl⟩
      unfold subc; rw [h, h2]; rfl
    · refine Exs.nil (Exs.ret (by walk_at "ev") ⟨[], .slnil, ?_, rfl⟩)
      unfold subc; rw [h, h2]; rfl
/-- digits of a number -/
noncomputable def digL : Int → List Int → List Int
  | _, [] => []
  | n, s :: r => n.fmod s :: digL (n.fdiv s) r
noncomputable def divL : Int → List Int → Int
  | n, [] => n
  | n, s :: r => divL (n.fdiv s) r
theorem digL_snoc : ∀ (n : Int) (l : List Int) (s : Int), digL n (l ++ [s]) = digL n l ++ [(divL n l).fmod s]
  | n, [], s => rfl
  | n, x :: l, s => by simp only [List.cons_append, digL, divL, digL_snoc]
theorem divL_snoc : ∀ (n : Int) (l : List Int) (s : Int), divL n (l ++ [s]) = (divL n l).fdiv s
  | n, [], s => rfl
  | n, x :: l, s => by simp only [List.cons_append, divL, divL_snoc]
theorem digL_length : ∀ (n : Int) (l : List Int), (digL n l).length = l.length
  | n, [] => rfl
  | n, x :: l => by simp only [digL, List.length_cons, digL_length]
theorem take_snoc {α : Type} {l : List α} {k : Nat} {x : α} (h : l[k]? = some x) : l.take (k + 1) = l.take k ++ [x] := by
  rw [List.take_add_one, h]; rfl
theorem digits_ok {prog : Program} {w : World} {g : Heap} (G : Grd (KK w) g) (n : Int) (sizes : List Int) (hs : ∀ s ∈ sizes, s ≠ 0 ∧ s.natAbs < 1073741824) (hl : sizes.length ≤ 1000) :
    FnD prog w g (.ref 150) 1 [vInt n, vListW (sizes.map vInt)] [] (vList ((digL n sizes).map vInt)) [] := by
  refine FnR.of_vars (K := KK w) G (by walk_at "isfn") [(PySem.Str.ofString "number", vInt n), (PySem.Str.ofString "sizes", vListW (sizes.map vInt))] rfl (vals2 fun a b => rfl) rfl (by with_unfolding_all rfl) fun A F s L rm => ?_
  refine Exs.asOwn (EvN.disp .nil) fun a ha => ⟨_, by walk_at "put", ?_⟩
  refine Exs.forI (EvIter.list (by walk_at "ev") (.inl calm_name))
    (fun k σ => ∃ m ds, (m = divL n (sizes.take k) ∧ ds = digL n (sizes.take k)) ∧ σ = { vars := [(PySem.Str.ofString "told", vVal (.ref a)), (PySem.Str.ofString "number", vInt m)], res := [(a, .lst (ds.map vInt))] })
    ⟨_, by walk_at "wk", n, [], ⟨by simp [divL], by simp [digL]⟩, rfl⟩ (fun k p pv σk hp hi => ?_) fun σk hi => ?_
  · obtain ⟨m, ds, ⟨rfl, rfl⟩, rfl⟩ := hi
    rw [List.getElem?_map] at hp
    obtain ⟨z, hz, rfl⟩ := Option.map_eq_some_iff.mp hp
    have hzm := hs z (List.mem_of_getElem? hz)
    have hk : k < sizes.length := (List.getElem?_eq_some_iff.mp hz).1
    refine ⟨_, As.name (by walk_at "put"), ?_⟩
    refine Exs.exp (Ev.app ((digL n (sizes.take k) ++ [(divL n (sizes.take k)).fmod z]).map vInt) (by walk_at "ev") (.mod (by walk_at "ev") (by walk_at "ev") hzm.1) (by walk_at "rset") (by simp) (by simp [digL_length, sizeLine]; first | lia | omega)) ?_
    refine Exs.assign (.fdiv (by walk_at "ev") (by walk_at "ev") hzm.1 hzm.2) (As.name (by walk_at "put")) ?_
    refine Exs.nil ⟨_, by walk_at "wk", _, digL n (sizes.take k) ++ [(divL n (sizes.take k)).fmod z], ⟨by rw [take_snoc hz, divL_snoc], by rw [take_snoc hz, digL_snoc]⟩, rfl⟩
  · obtain ⟨m, ds, ⟨rfl, rfl⟩, rfl⟩ := hi
    refine Exs.freeze (a := a) (At.mem (by walk_at "mem")) (by walk_at "rdel") (by walk_at "rep") ha ?_
    refine Exs.ret (by walk_at "ev") ⟨[], .slnil, ?_, rfl⟩
    simp
noncomputable def NC : Nat := 11
/-- a column at a tab size -/
noncomputable def colStep (size c : Int) (r : List Nat) : Int := (c + r.length) + size - (c + r.length).fmod size
noncomputable def colAt (runs : List (List Nat)) (size : Int) : Int := runs.dropLast.foldl (colStep size) 0 + (runs.getLastD []).length
noncomputable def colsOf (lead : List Nat) : List Int := (List.range (NC - 1)).map fun (i : Nat) => colAt (splitL lead [9]) (1 + (i : Int))
theorem splitL_len (x : List Nat) : 1 ≤ (splitL x [9]).length ∧ (splitL x [9]).length ≤ x.length + 2 := by
  unfold splitL
  rw [List.length_map]
  have h1 := split_pos (L2S x) (L2S [9])
  have h2 := split_le (L2S x) (L2S [9])
  rw [L2S_len] at h2
  exact ⟨h1, h2⟩
theorem columns_ok {prog : Program} {w : World} {g : Heap} (G : Grd (KK w) g) (lead : List Nat) (hl : lead.length ≤ 100000) (hp : ∀ r ∈ splitL lead [9], r.length ≤ 100000) :
    FnD prog w g (.ref 171) 1 [vStr lead] [] (vList ((colsOf lead).map vInt)) [] := by
  refine FnR.of_vars (K := KK w) G (by walk_at "isfn") [(PySem.Str.ofString "lead", vStr lead)] rfl (vals1 fun a => rfl) rfl (by with_unfolding_all rfl) fun A F s L rm => ?_
  obtain ⟨s1, s2⟩ := splitL_len lead
  have hsz : (vStrs (splitL lead [9])).length ≤ sizeLine := by unfold vStrs; rw [List.length_map, sizeLine_is]; first | lia | omega
  refine Exs.asOwn (EvN.disp .nil) fun a ha => ⟨_, by walk_at "put", ?_⟩
  refine Exs.assign (EvN.ev (EvN.split (y := [9]) (by walk_at "ev") (by walk_at "ev") rfl (by rw [sizeLine_is]; first | lia | omega) (by rw [sizeLine_is]; first | lia | omega))) (As.name (by walk_at "put")) ?_
  generalize hr : splitL lead [9] = runs at *
  refine Exs.forI (EvIter.range (n := NC - 1) (Ev.range2 (by walk_at "ev") (.cons (by walk_at "ev") (.cons (by walk_at "ev") .nil))) calm_name (by decide) (by decide))
    (fun k σ => ∃ cs : List Int, (cs = (List.range k).map fun (i : Nat) => colAt runs (1 + (i : Int))) ∧ σ = { vars := [(PySem.Str.ofString "runs", vList (vStrs runs)), (PySem.Str.ofString "told", vVal (.ref a))], res := [(a, .lst (cs.map vInt))] })
    ⟨_, by walk_at "wk", [], rfl, rfl⟩ (fun k p pv σk hp hi => ?_) fun σk hi => ?_
  · obtain ⟨cs, rfl, rfl⟩ := hi
    rw [List.getElem?_map] at hp
    obtain ⟨z, hz, rfl⟩ := Option.map_eq_some_iff.mp hp
    have hk : k < NC - 1 := by simpa using (List.getElem?_eq_some_iff.mp hz).1
    have hzk : k = z := by
      rw [List.getElem?_range (by simpa using hk)] at hz; exact Option.some.inj hz
    subst hzk
    refine ⟨_, As.name (by walk_at "put"), ?_⟩
    refine Exs.assign (by walk_at "ev") (As.name (by walk_at "put")) ?_
    have hbl : (vStrs runs).dropLast = vStrs runs.dropLast := by unfold vStrs; rw [List.map_dropLast]
    refine Exs.forI (EvIter.listL (EvN.butlast (by walk_at "src") (by walk_at "ev") hsz).ev calm_name)
      (fun j σ => ∃ c : Int, c = (runs.dropLast.take j).foldl (colStep (1 + (k : Int) * 1)) 0 ∧ σ = { vars := [(PySem.Str.ofString "size", vInt (1 + (k : Int) * 1)), (PySem.Str.ofString "column", vInt c), (PySem.Str.ofString "runs", vList (vStrs runs)), (PySem.Str.ofString "told", vVal (.ref a))], res := [(a, .lst (((List.range k).map fun (i : Nat) => colAt runs (1 + (i : Int))).map vInt))] })
      ⟨_, by walk_at "wk", 0, rfl, rfl⟩ (fun j p pv2 σj hp hi => ?_) fun σj hi => ?_
    · obtain ⟨c, rfl, rfl⟩ := hi
      rw [hbl] at hp
      unfold vStrs at hp
      rw [List.getElem?_map] at hp
      obtain ⟨r, hrj, rfl⟩ := Option.map_eq_some_iff.mp hp
      have hrl := ‹∀ r ∈ runs, r.length ≤ 100000› r (List.dropLast_subset _ (List.mem_of_getElem? hrj))
      refine ⟨_, As.name (by walk_at "put"), ?_⟩
      refine Exs.assign (.add (by walk_at "ev") (.lenS (by walk_at "ev") (by walk_at "ev") (by rw [sizeLine_is]; first | lia | omega))) (As.name (by walk_at "put")) ?_
      refine Exs.assign (.sub (by walk_at "ev") (.mod (by walk_at "ev") (by walk_at "ev") (by first | lia | omega))) (As.name (by walk_at "put")) ?_
      refine Exs.nil ⟨_, by walk_at "wk", _, ?_, rfl⟩
      rw [take_snoc hrj, List.foldl_append]; rfl
    · obtain ⟨c, rfl, rfl⟩ := hi
      have hlast : (runs.getLastD []).length ≤ sizeLine := by have := ‹∀ r ∈ runs, r.length ≤ 100000› (runs.getLastD []) (List.mem_of_getElem? (getLast_at [] s1)); rw [sizeLine_is]; first | lia | omega
      refine Exs.exp (Ev.app (((List.range (k + 1)).map fun (i : Nat) => colAt runs (1 + (i : Int))).map vInt) (by walk_at "ev") (.add (by walk_at "ev") (.lenS (by walk_at "ev") (.lastS (by walk_at "src") (by walk_at "ev") s1 (by rw [sizeLine_is]; first | lia | omega)) hlast)) (by walk_at "rset") ?_ ?_) ?_
      · rw [List.range_succ, List.map_append, List.map_append]
        congr 1
        simp only [List.map_cons, List.map_nil]
        unfold colAt
        rw [hbl]
        simp only [vStrs, List.length_map, List.take_length, Int.mul_one]
      · rw [List.length_map, List.length_map, List.length_range, sizeLine_is]; unfold NC at hk; first | lia | omega
      · exact Exs.nil ⟨_, by walk_at "wk", _, rfl, rfl⟩
  · obtain ⟨cs, rfl, rfl⟩ := hi
    refine Exs.freeze (a := a) (At.mem (by walk_at "mem")) (by walk_at "rdel") (by walk_at "rep") ha ?_
    refine Exs.ret (by walk_at "ev") ⟨[], .slnil, ?_, rfl⟩
    unfold colsOf
    rw [hr]
    simp
/-- a lead's form -/
structure WS where
  count : List Nat
  b : Nat
  n : Nat
  nt : Nat
noncomputable def WS.pad (w : WS) : List Nat := if w.count.length ≤ w.b then w.count ++ List.replicate (w.b - w.count.length + 1) 0 else w.count
noncomputable def WS.tab (w : WS) : WS := ⟨w.pad.set w.b (w.pad.getD w.b 0 + 1), 0, w.n + 1, w.nt + 1⟩
theorem WS.pad_len (w : WS) : w.b < w.pad.length ∧ w.pad.length ≤ max w.count.length (w.b + 1) ∧ ∀ k, (∀ c ∈ w.count, c ≤ k) → ∀ c ∈ w.pad, c ≤ k := by
  unfold WS.pad
  split
  · refine ⟨by rw [List.length_append, List.length_replicate]; first | lia | omega, by rw [List.length_append, List.length_replicate]; first | lia | omega, fun k h c hc => ?_⟩
    rcases List.mem_append.mp hc with h1 | h1
    · exact h c h1
    · rw [(List.mem_replicate.mp h1).2]; exact Nat.zero_le _
  · exact ⟨by first | lia | omega, by first | lia | omega, fun k h c hc => h c hc⟩
noncomputable def WS.run (w : WS) : List Nat → WS
  | [] => w
  | c :: r => if c = 32 then WS.run ⟨w.count, w.b + 1, w.n + 1, w.nt⟩ r else if c = 9 then WS.run w.tab r else w
structure WS.small (u : WS) (k : Nat) : Prop where
  b : u.b ≤ k
  len : u.count.length ≤ k
  c : ∀ c ∈ u.count, c ≤ k
noncomputable def wsOf (x : List Nat) : WS := WS.run ⟨[], 0, 0, 0⟩ x
noncomputable def wInts (l : List Nat) : List VP := l.map fun (c : Nat) => vInt (c : Int)
noncomputable abbrev wsFields (x : List Nat) : List (PySem.Str × VP) :=
  [(PySem.Str.ofString "is_simple", vBool (decide ((wsOf x).count.length ≤ 1))), (PySem.Str.ofString "norm", vTup [vTup (wInts (wsOf x).count), vInt ((wsOf x).b : Int)]),
   (PySem.Str.ofString "nt", vInt ((wsOf x).nt : Int)), (PySem.Str.ofString "n", vInt ((wsOf x).n : Int)), (PySem.Str.ofString "raw", vStr x)]
noncomputable abbrev CW : Addr := 125
theorem wsInit_ok {prog : Program} {w : World} {g : Heap} (G : Grd (KK w) g) (x : List Nat) (hl : x.length ≤ 500) (a d : Addr) :
    FnR prog w g (.ref 80) 1 [vVal (.ref a), vStr x] [(d, .inst a CW [])] fun q S => q = vVal .none ∧ S = [(d, .inst a CW (wsFields x))] := by
  refine FnR.of_vars (K := KK w) G (by walk_at "isfn") [(PySem.Str.ofString "self", vVal (.ref a)), (PySem.Str.ofString "ws", vStr x)] rfl (vals2 fun a b => rfl) rfl (by with_unfolding_all rfl) fun A F s L rm => ?_
  refine Exs.setAttr (K := KK w) (C := CW) G (by walk_at "set") (by walk_at "ev") (by walk_at "ev") (by walk_at "rset") (by walk_at "fput") (Nat.le_of_ble_eq_true rfl) ?_
  refine Exs.swap (x := PySem.Str.ofString "S") (y := PySem.Str.ofString "T") (p := vStr [32]) (q := vStr [9]) (.tup (.cons (.attrCS (K := KK w) (C := CW) (mc := .type "type") G rfl rfl rfl (by walk_at "ev")) (.cons (.attrCS (K := KK w) (C := CW) (mc := .type "type") G rfl rfl rfl (by walk_at "ev")) .nil)) (Nat.le_of_ble_eq_true rfl)) (by walk_at "put") (by walk_at "put") ?_
  refine Exs.asOwn (EvN.disp .nil) fun e he => ⟨_, by walk_at "put", ?_⟩
  refine Exs.assign3 (p := vInt (((0 : Nat)) : Int)) (by exact Ev.cInt) (As.name (by walk_at "put")) (As.name (by walk_at "put")) (As.name (by walk_at "put")) ?_
  refine Exs.forB (EvIter.str (.attrO (K := KK w) (C := CW) G (by walk_at "own") (by walk_at "ev") (by walk_at "rmem") (by walk_at "mem") handed_str) calm_name)
    (fun k σ => ∃ u e, (WS.run u (x.drop k) = wsOf x ∧ WS.small u k) ∧ σ = { vars := [(PySem.Str.ofString "b", vInt (u.b : Int)), (PySem.Str.ofString "n", vInt (u.n : Int)), (PySem.Str.ofString "nt", vInt (u.nt : Int)), (PySem.Str.ofString "count", vVal (.ref e)), (PySem.Str.ofString "S", vStr [32]), (PySem.Str.ofString "T", vStr [9]), (PySem.Str.ofString "self", vVal (.ref a))], res := [(e, .lst (wInts u.count)), (d, .inst a CW [(PySem.Str.ofString "raw", vStr x)])] })
    (fun σ => ∃ u e, (u = wsOf x ∧ WS.small u 500) ∧ σ = { vars := [(PySem.Str.ofString "b", vInt (u.b : Int)), (PySem.Str.ofString "n", vInt (u.n : Int)), (PySem.Str.ofString "nt", vInt (u.nt : Int)), (PySem.Str.ofString "count", vVal (.ref e)), (PySem.Str.ofString "S", vStr [32]), (PySem.Str.ofString "T", vStr [9]), (PySem.Str.ofString "self", vVal (.ref a))], res := [(e, .lst (wInts u.count)), (d, .inst a CW [(PySem.Str.ofString "raw", vStr x)])] })
    ⟨_, by walk_at "wk", ⟨[], 0, 0, 0⟩, e, ⟨rfl, ⟨Nat.le_refl _, Nat.le_refl _, fun c hc => (List.not_mem_nil hc).elim⟩⟩, rfl⟩ (fun k p pv σk hp hi => ?_) (fun σk hi => ?_) fun σd hi => ?_
  · obtain ⟨u, e, ⟨hrun, hsm⟩, rfl⟩ := hi
    obtain ⟨c, hc, rfl⟩ := strs_at hp
    have hk : k < x.length := (List.getElem?_eq_some_iff.mp hc).1
    rw [drop_at hc] at hrun
    have hszc : (wInts u.count).length ≤ sizeLine := by unfold wInts; rw [List.length_map, sizeLine_is]; have := hsm.len; first | lia | omega
    refine ⟨_, As.name (by walk_at "put"), ?_⟩
    refine Exs.iff (by walk_at "tst") (fun h => ?_) fun h => ?_
    · have h32 : c = 32 := by simpa using h
      refine Exs.assign (by walk_at "ev") (As.name (by walk_at "put")) ?_
      refine Exs.assign (by walk_at "ev") (As.name (by walk_at "put")) ?_
      refine Exs.nil (Exs.nil ⟨_, by walk_at "wk", ⟨u.count, u.b + 1, u.n + 1, u.nt⟩, e, ⟨?_, ?_⟩, rfl⟩)
      · rw [← hrun, WS.run, if_pos h32]
      · exact ⟨Nat.succ_le_succ hsm.b, Nat.le_succ_of_le hsm.len, fun c hc => Nat.le_succ_of_le (hsm.c c hc)⟩
    · have h32 : c ≠ 32 := by simpa using h
      refine Exs.iff (by walk_at "tst") (fun h2 => ?_) fun h2 => ?_
      · have h9 : c = 9 := by simpa using h2
        refine Exs.assign (by walk_at "ev") (As.name (by walk_at "put")) ?_
        refine Exs.assign (by walk_at "ev") (As.name (by walk_at "put")) ?_
        have hpl := WS.pad_len u
        have hb := hsm.b
        refine Exs.iffM (fun σ => ∃ e2, σ = { vars := [(PySem.Str.ofString "b", vInt (u.b : Int)), (PySem.Str.ofString "n", vInt (((u.n + 1 : Nat)) : Int)), (PySem.Str.ofString "nt", vInt ((u.nt + 1 : Nat) : Int)), (PySem.Str.ofString "count", vVal (.ref e2)), (PySem.Str.ofString "S", vStr [32]), (PySem.Str.ofString "T", vStr [9]), (PySem.Str.ofString "self", vVal (.ref a))], res := [(e2, .lst (wInts u.pad)), (d, .inst a CW [(PySem.Str.ofString "raw", vStr x)])] }) (.geI (by walk_at "ev") (.lenL (by walk_at "ev") (by walk_at "src") hszc)) (fun h3 => ?_) (fun h3 => ?_) fun σ' h3 => ?_
        · have h4 : u.count.length ≤ u.b := by simp [wInts] at h3; first | lia | omega
          have q1 : (u.b : Int) - ((wInts u.count).length : Int) + 1 ≤ 1000 := by unfold wInts; rw [List.length_map]; first | lia | omega
          have q2 : -1000 ≤ (u.b : Int) - ((wInts u.count).length : Int) + 1 := by unfold wInts; rw [List.length_map]; first | lia | omega
          have q3 : (wInts u.count).length + (List.replicate ((u.b : Int) - ((wInts u.count).length : Int) + 1).toNat (vInt 0)).length ≤ sizeLine := by rw [List.length_replicate]; unfold wInts; rw [List.length_map, sizeLine_is]; first | lia | omega
          have q4 : wInts u.count ++ List.replicate ((u.b : Int) - ((wInts u.count).length : Int) + 1).toNat (vInt 0) = wInts u.pad := by
            unfold WS.pad wInts
            rw [if_pos h4, List.map_append, List.map_replicate, List.length_map]
            congr 2
            first | lia | omega
          refine Exs.asOwn (by exact EvN.eq (EvN.addL (Ev.srcRL (by walk_at "ev") (by walk_at "rmem")) (EvN.mul (Ev.src (EvN.ev (EvN.disp (EvAll.cons (by walk_at "ev") EvAll.nil) (Nat.le_of_ble_eq_true rfl)))) (Ev.add (Ev.sub (by walk_at "ev") (Ev.lenL (by walk_at "ev") (by walk_at "src") hszc)) (by walk_at "ev")) q1 q2) q3) q4) fun e2 he2 => ⟨_, by walk_at "put", Exs.nil ⟨_, by walk_at "wk", e2, rfl⟩⟩
        · have h4 : ¬ u.count.length ≤ u.b := by simp [wInts] at h3; first | lia | omega
          refine Exs.nil ⟨_, ?_, e, rfl⟩
          rw [show u.pad = u.count from if_neg h4]
          walk_at "wk"
        · obtain ⟨e2, rfl⟩ := h3
          have hget : (wInts u.pad)[u.b]? = some (vInt ((u.pad.getD u.b 0 : Nat) : Int)) := by
            unfold wInts
            rw [List.getElem?_map, List.getElem?_eq_getElem hpl.1]
            simp [List.getD, List.getElem?_eq_getElem hpl.1]
          have hps : (wInts u.pad).length ≤ sizeLine := by unfold wInts; rw [List.length_map, sizeLine_is]; have := hsm.len; first | lia | omega
          refine Exs.putItem (wInts (u.pad.set u.b (u.pad.getD u.b 0 + 1))) (by exact Ev.add (Ev.atL (ps := wInts u.pad) (by walk_at "src") (by walk_at "ev") hget hps) (by walk_at "ev")) (by walk_at "ev") (by walk_at "ev") (by walk_at "rset") (by unfold wInts; rw [List.length_map]; exact hpl.1) (by unfold wInts; rw [List.map_set]; rfl) hps ?_
          refine Exs.assign (p := vInt (((0 : Nat)) : Int)) (by exact Ev.cInt) (As.name (by walk_at "put")) ?_
          refine Exs.nil (Exs.nil (Exs.nil ⟨_, by walk_at "wk", ⟨u.pad.set u.b (u.pad.getD u.b 0 + 1), 0, u.n + 1, u.nt + 1⟩, e2, ⟨?_, ?_⟩, rfl⟩))
          · rw [← hrun, WS.run, if_neg h32, if_pos h9]; rfl
          · refine ⟨Nat.zero_le _, ?_, ?_⟩
            · show (u.pad.set _ _).length ≤ _
              rw [List.length_set]; have := hsm.len; first | lia | omega
            · intro c hc
              rcases List.mem_or_eq_of_mem_set hc with h | h
              · exact Nat.le_succ_of_le (hpl.2.2 k hsm.c c h)
              · subst h
                have := hpl.2.2 k hsm.c (u.pad.getD u.b 0) (by simp [List.getD, List.getElem?_eq_getElem hpl.1])
                first | lia | omega
      · have h9 : c ≠ 9 := by simpa using h2
        refine Exs.brk ⟨_, by walk_at "wk", u, e, ⟨?_, ⟨?_, ?_, ?_⟩⟩, rfl⟩
        · rw [← hrun, WS.run, if_neg h32, if_neg h9]
        · have := hsm.b; first | lia | omega
        · have := hsm.len; first | lia | omega
        · intro c hc; have := hsm.c c hc; first | lia | omega
  · obtain ⟨u, e, ⟨hrun, hsm⟩, rfl⟩ := hi
    rw [strs_len, List.drop_length] at hrun
    rw [strs_len] at hsm
    exact ⟨_, by walk_at "wk", u, e, ⟨hrun, ⟨by have := hsm.b; first | lia | omega, by have := hsm.len; first | lia | omega, fun c hc => by have := hsm.c c hc; first | lia | omega⟩⟩, rfl⟩
  · obtain ⟨u, e, ⟨rfl, hsm⟩, rfl⟩ := hi
    have hszc : (wInts (wsOf x).count).length ≤ sizeLine := by unfold wInts; rw [List.length_map, sizeLine_is]; have := hsm.len; first | lia | omega
    refine Exs.setAttr (K := KK w) (C := CW) G (by walk_at "set") (by walk_at "ev") (by walk_at "ev") (by walk_at "rset") (by walk_at "fput") (Nat.le_of_ble_eq_true rfl) ?_
    refine Exs.setAttr (K := KK w) (C := CW) G (by walk_at "set") (by walk_at "ev") (by walk_at "ev") (by walk_at "rset") (by walk_at "fput") (Nat.le_of_ble_eq_true rfl) ?_
    refine Exs.setAttr (K := KK w) (C := CW) G (by walk_at "set") (.tup (.cons (.tupleL (by walk_at "ev") (by walk_at "src") hszc) (.cons (by walk_at "ev") .nil)) (Nat.le_of_ble_eq_true rfl)) (by walk_at "ev") (by walk_at "rset") (by walk_at "fput") (Nat.le_of_ble_eq_true rfl) ?_
    refine Exs.setAttr (K := KK w) (C := CW) G (by walk_at "set") (.leI (.lenL (by walk_at "ev") (by walk_at "src") hszc) (by walk_at "ev")) (by walk_at "ev") (by walk_at "rset") (by walk_at "fput") (Nat.le_of_ble_eq_true rfl) ?_
    refine Exs.nil ⟨[(d, .inst a CW (wsFields x))], ?_, rfl, rfl⟩
    have e1 : decide (((wInts (wsOf x).count).length : Int) ≤ 1) = decide ((wsOf x).count.length ≤ 1) := by
      unfold wInts; rw [List.length_map, Bool.eq_iff_iff]; simp; first | lia | omega
    rw [e1]
    exact List.Sublist.cons _ (List.Sublist.refl _)
noncomputable def ilSum (count : List Nat) (ts : Nat) : Nat → Int
  | 0 => 0
  | k + 1 => ilSum count ts k + ((ts + k : Nat) : Int).fdiv ts * ((count.getD (ts + k) 0 : Nat) : Int)
noncomputable def indentOf (u : WS) (ts : Nat) : Int := (u.b : Int) + (ts : Int) * (ilSum u.count ts (u.count.length - ts) + (u.nt : Int))
theorem wsRun_small : ∀ (x : List Nat) (u : WS) (k : Nat), u.small k → (WS.run u x).small (k + x.length)
  | [], u, k, h => by simpa [WS.run] using h
  | c :: r, u, k, h => by
    unfold WS.run
    have e : k + (c :: r).length = (k + 1) + r.length := by simp; first | lia | omega
    rw [e]
    split
    · exact wsRun_small r _ (k + 1) ⟨Nat.succ_le_succ h.b, Nat.le_succ_of_le h.len, fun c hc => Nat.le_succ_of_le (h.c c hc)⟩
    · split
      · refine wsRun_small r _ (k + 1) ⟨Nat.zero_le _, ?_, ?_⟩
        · show (u.pad.set _ _).length ≤ _
          rw [List.length_set]; have := (WS.pad_len u).2.1; have := h.len; have := h.b; first | lia | omega
        · intro c hc
          rcases List.mem_or_eq_of_mem_set hc with h1 | h1
          · exact Nat.le_succ_of_le ((WS.pad_len u).2.2 k h.c c h1)
          · subst h1
            have := (WS.pad_len u).2.2 k h.c (u.pad.getD u.b 0) (by simp [List.getD, List.getElem?_eq_getElem (WS.pad_len u).1])
            first | lia | omega
      · exact ⟨by have := h.b; first | lia | omega, by have := h.len; first | lia | omega, fun c hc => by have := h.c c hc; first | lia | omega⟩
theorem wsOf_small (x : List Nat) : (wsOf x).small x.length := by
  have := wsRun_small x ⟨[], 0, 0, 0⟩ 0 ⟨Nat.le_refl _, Nat.le_refl _, fun c hc => (List.not_mem_nil hc).elim⟩
  simpa [wsOf] using this
theorem indent_ok {prog : Program} {w : World} {g : Heap} (G : Grd (KK w) g) (x : List Nat) (hl : x.length ≤ 500) (ts : Nat) (h1 : 1 ≤ ts) (h2 : ts ≤ 1000) :
    FnD prog w g (.ref 94) 1 [vInst CW (wsFields x), vInt (ts : Int)] [] (vInt (indentOf (wsOf x) ts)) [] := by
  refine FnR.of_vars (K := KK w) G (by walk_at "isfn") [(PySem.Str.ofString "self", vInst CW (wsFields x)), (PySem.Str.ofString "tabsize", vInt (ts : Int))] rfl (vals2 fun a b => rfl) rfl (by with_unfolding_all rfl) fun A F s L rm => ?_
  have hsm := wsOf_small x
  have hlen : (wInts (wsOf x).count).length = (wsOf x).count.length := by unfold wInts; rw [List.length_map]
  have hlc := hsm.len
  refine Exs.assign (.attrF (K := KK w) (C := CW) G (by walk_at "own") (by walk_at "ev") (by walk_at "mem") handed_tup) (.tup (.cons (.name (by walk_at "put")) (.cons (.name (by walk_at "put")) .nil))) ?_
  refine Exs.assign (p := vInt (0 : Int)) (by exact Ev.cInt) (As.name (by walk_at "put")) ?_
  refine Exs.forI (EvIter.rangeN (a := ts) (b := (wsOf x).count.length) (by exact Ev.range2 (by walk_at "ev") (EvAll.cons (by walk_at "ev") (EvAll.cons (Ev.eq (Ev.lenT (by walk_at "ev") (by walk_at "ev") (by rw [hlen, sizeLine_is]; first | lia | omega)) (by rw [hlen])) EvAll.nil))) calm_name (by first | lia | omega) (by first | lia | omega))
    (fun k σ => ∃ v : Int, v = ilSum (wsOf x).count ts k ∧ σ = { vars := [(PySem.Str.ofString "il", vInt v), (PySem.Str.ofString "trailing", vInt ((wsOf x).b : Int)), (PySem.Str.ofString "count", vTup (wInts (wsOf x).count)), (PySem.Str.ofString "self", vInst CW (wsFields x)), (PySem.Str.ofString "tabsize", vInt (ts : Int))] })
    ⟨_, by walk_at "wk", 0, rfl, rfl⟩ (fun k p pv σk hp hi => ?_) fun σk hi => ?_
  · obtain ⟨v, rfl, rfl⟩ := hi
    obtain ⟨hk, rfl⟩ := rangeN_at hp
    have hlt : ts + k < (wsOf x).count.length := by first | lia | omega
    have hget : (wInts (wsOf x).count)[ts + k]? = some (vInt (((wsOf x).count.getD (ts + k) 0 : Nat) : Int)) := by
      unfold wInts
      rw [List.getElem?_map, List.getElem?_eq_getElem hlt]
      simp [List.getD, List.getElem?_eq_getElem hlt]
    have hcb : (wsOf x).count.getD (ts + k) 0 ≤ 500 := by
      have := hsm.c ((wsOf x).count.getD (ts + k) 0) (by simp [List.getD, List.getElem?_eq_getElem hlt])
      first | lia | omega
    refine ⟨_, As.name (by walk_at "put"), ?_⟩
    refine Exs.assign (.add (by walk_at "ev") (.mul (.fdiv (by walk_at "ev") (by walk_at "ev") (by first | lia | omega) (by first | lia | omega)) (.atT (by walk_at "ev") (by walk_at "ev") hget (by rw [hlen]; first | lia | omega)) (mulOk (.inr (by first | lia | omega))))) (As.name (by walk_at "put")) ?_
    exact Exs.nil ⟨_, by walk_at "wk", _, rfl, rfl⟩
  · obtain ⟨v, rfl, rfl⟩ := hi
    rw [List.length_map, List.length_range]
    refine Exs.ret (.add (by walk_at "ev") (.mul (by walk_at "ev") (.add (by walk_at "ev") (.attrF (K := KK w) (C := CW) G (by walk_at "own") (by walk_at "ev") (by walk_at "mem") handed_int)) (mulOk (.inl (by first | lia | omega))))) ⟨[], .slnil, rfl, rfl⟩
theorem ws_ok {prog : Program} {w : World} {g : Heap} (G : Grd (KK w) g) (x : List Nat) (hl : x.length ≤ 500) : FnD prog w g (.ref CW) 3 [vStr x] [] (vInst CW (wsFields x)) [] :=
  FnR.clsF (fI := 80) G ⟨rfl, rfl, rfl⟩ fun a d => wsInit_ok G x hl a d
noncomputable abbrev CN : Addr := 59
/-- a lexer's fields -/
noncomputable abbrev lexF (n : Int) (fp : VP) (pb : Addr) : List (PySem.Str × VP) :=
  [(PySem.Str.ofString "pushback", vVal (.ref pb)), (PySem.Str.ofString "whitespace", vStr [10, 9, 13, 32]), (PySem.Str.ofString "instream", fp), (PySem.Str.ofString "lineno", vInt n)]
theorem lexInit_ok {prog : Program} {w : World} {g : Heap} (G : Grd (KK w) g) (fp : VP) (a d : Addr) :
    FnR prog w g (.ref 35) 1 [vVal (.ref a), fp] [(d, .inst a CN [])] fun q S => q = vVal .none ∧ ∃ pb, S = [(pb, .lst []), (d, .inst a CN (lexF 1 fp pb))] := by
  refine FnR.of_vars (K := KK w) G (by walk_at "isfn") [(PySem.Str.ofString "self", vVal (.ref a)), (PySem.Str.ofString "fp", fp)] rfl (vals2 fun a b => rfl) rfl (by with_unfolding_all rfl) fun A F s L rm => ?_
  refine Exs.setAttr (K := KK w) (C := CN) G (by walk_at "set") (by exact Ev.cInt (i := 1)) (by walk_at "ev") (by walk_at "rset") (by walk_at "fput") (Nat.le_of_ble_eq_true rfl) ?_
  refine Exs.setAttr (K := KK w) (C := CN) G (by walk_at "set") (by walk_at "ev") (by walk_at "ev") (by walk_at "rset") (by walk_at "fput") (Nat.le_of_ble_eq_true rfl) ?_
  refine Exs.setAttr (K := KK w) (C := CN) (p := vStr [10, 9, 13, 32]) G (by walk_at "set") (by exact Ev.cStr rfl) (by walk_at "ev") (by walk_at "rset") (by walk_at "fput") (Nat.le_of_ble_eq_true rfl) ?_
  refine Exs.setAttrN (K := KK w) (C := CN) (x := a) (d := d) (fs' := fun pb => lexF 1 fp pb) G (by walk_at "set") (.disp .nil (Nat.le_of_ble_eq_true rfl)) fun pb hpb => ⟨_, by walk_at "ev", by walk_at "rset", FPut.new rfl, Nat.le_of_ble_eq_true rfl, ?_⟩
  exact Exs.nil ⟨_, List.Sublist.refl _, rfl, pb, rfl⟩
/-- signs as texts -/
noncomputable abbrev sgs (l : List Nat) : List VP := vStrs (l.map fun c => [c])
/-- what the stored reader does -/
noncomputable def ReadOK (prog : Program) (w : World) (g : Heap) (fa cl sg : Addr) (co : Cell) : Prop :=
  ∀ l : List Nat, l.length < 1000000 → FnD prog w g (.ref fa) 3 [vInt 1] [(cl, co), (sg, .lst (sgs l))] (vStr (l.take 1)) [(cl, co), (sg, .lst (sgs (l.drop 1)))]
/-- a feed: an object with a reader -/
noncomputable abbrev feedF (fa : Addr) (fo : Obj) : List (PySem.Str × VP) :=
  [(PySem.Str.ofString "read", vFn fa fo), (PySem.Str.ofString "pushback", vAny), (PySem.Str.ofString "whitespace", vStr [10, 9, 13, 32]), (PySem.Str.ofString "instream", vVal .none), (PySem.Str.ofString "lineno", vInt 1)]
noncomputable def nlOf (l : List Nat) : Int := if l.take 1 == [10] then 1 else 0
theorem read_ok {prog : Program} {w : World} {g : Heap} (G : Grd (KK w) g) {fa cl sg : Addr} {co : Cell} {fo : Obj} {fd : FuncData} (hfo : fo.data = .func fd) (hr : ReadOK prog w g fa cl sg co) (l : List Nat) (hl : l.length < 1000000) (n : Int) (a d pb : Addr) :
    FnD prog w g (.ref 42) 4 [vVal (.ref a)] [(d, .inst a CN (lexF n (vInst CN (feedF fa fo)) pb)), (cl, co), (sg, .lst (sgs l))] (vStr (l.take 1)) [(d, .inst a CN (lexF (n + nlOf l) (vInst CN (feedF fa fo)) pb)), (cl, co), (sg, .lst (sgs (l.drop 1)))] := by
  refine FnR.of_vars (K := KK w) G (by walk_at "isfn") [(PySem.Str.ofString "self", vVal (.ref a))] rfl (vals1 fun a => rfl) rfl (by with_unfolding_all rfl) fun A F s L rm => ?_
  refine Exs.assign (by exact Ev.callField (K := KK w) (C := CN) G ⟨by walk_at "own", rfl⟩ (Ev.attrO (K := KK w) (C := CN) G (by walk_at "own") (by walk_at "ev") (by walk_at "rmem") (by walk_at "mem") handed_inst) (by walk_at "mem") hfo (EvAll.cons (p := vInt 1) (by walk_at "ev") EvAll.nil) (hr l hl) rm.in_ (Upd.skip (Upd.take (Upd.take Upd.nil)))) (As.name (by walk_at "put")) ?_
  refine Exs.iffM (fun σ => σ = { vars := [(PySem.Str.ofString "ch", vStr (l.take 1)), (PySem.Str.ofString "self", vVal (.ref a))], res := [(d, .inst a CN (lexF (n + nlOf l) (vInst CN (feedF fa fo)) pb)), (cl, co), (sg, .lst (sgs (l.drop 1)))] }) (by walk_at "tst") (fun h => ?_) (fun h => ?_) fun σ' h => ?_
  · have e1 : nlOf l = 1 := by unfold nlOf; exact if_pos h
    rw [e1]
    refine Exs.augAttr (K := KK w) (C := CN) (p := vInt n) (q := vInt 1) (r := vInt (n + 1)) G (by walk_at "own") (by walk_at "set") (by walk_at "ev") (by walk_at "rmem") (by walk_at "mem") handed_int (by walk_at "ev") (fun F s v u ok ⟨t, r1⟩ ⟨t', r2⟩ => by subst r1; subst r2; exact fun Q E k => PySem.P.iadd_int (k _ F _ (.toks ok.inh) ⟨_, rfl⟩)) (by walk_at "rset") (by walk_at "fput") (Nat.le_of_ble_eq_true rfl) ?_
    exact Exs.nil ⟨_, by walk_at "wk", rfl⟩
  · have e1 : nlOf l = 0 := by unfold nlOf; exact if_neg (fun q => by rw [show (l.take 1 == [10]) = false from h] at q; cases q)
    rw [e1, Int.add_zero]
    exact Exs.nil ⟨_, by walk_at "wk", rfl⟩
  · subst h
    exact Exs.ret (by walk_at "ev") ⟨_, List.Sublist.refl _, rfl, rfl⟩
theorem push_ok {prog : Program} {w : World} {g : Heap} (G : Grd (KK w) g) (x : List Nat) (ps : List VP) (hl : ps.length ≤ 100000) (n : Int) (fp : VP) (a d pb : Addr) :
    FnD prog w g (.ref 56) 1 [vVal (.ref a), vStr x] [(pb, .lst ps), (d, .inst a CN (lexF n fp pb))] (vVal .none) [(pb, .lst (ps ++ [vStr x])), (d, .inst a CN (lexF n fp pb))] := by
  refine FnR.of_vars (K := KK w) G (by walk_at "isfn") [(PySem.Str.ofString "self", vVal (.ref a)), (PySem.Str.ofString "token", vStr x)] rfl (vals2 fun a b => rfl) rfl (by with_unfolding_all rfl) fun A F s L rm => ?_
  refine Exs.exp (by exact Ev.app (ps ++ [vStr x]) (Ev.attrO (K := KK w) (C := CN) G (by walk_at "own") (by walk_at "ev") (by walk_at "rmem") (by walk_at "mem") handed_ref) (by walk_at "ev") (by walk_at "rset") rfl (by rw [sizeLine_is]; omega)) ?_
  exact Exs.nil ⟨_, List.Sublist.refl _, rfl, rfl⟩
noncomputable def lrN (u : WS) : Nat := max (u.count.length - 1) u.b
theorem longest_ok {prog : Program} {w : World} {g : Heap} (G : Grd (KK w) g) (x : List Nat) (hl : x.length ≤ 500) :
    FnD prog w g (.ref 87) 1 [vInst CW (wsFields x)] [] (vInt ((lrN (wsOf x) : Nat) : Int)) [] := by
  refine FnR.of_vars (K := KK w) G (by walk_at "isfn") [(PySem.Str.ofString "self", vInst CW (wsFields x))] rfl (vals1 fun a => rfl) rfl (by with_unfolding_all rfl) fun A F s L rm => ?_
  have hlen : (wInts (wsOf x).count).length = (wsOf x).count.length := by unfold wInts; rw [List.length_map]
  have hlc := (wsOf_small x).len
  refine Exs.assign (.attrF (K := KK w) (C := CW) G (by walk_at "own") (by walk_at "ev") (by walk_at "mem") handed_tup) (.tup (.cons (.name (by walk_at "put")) (.cons (.name (by walk_at "put")) .nil))) ?_
  refine Exs.ret (by exact Ev.max2 (f := .Name (PySem.Str.ofString "x") ⟨0, 0, 0, 0⟩) (by walk_at "ev") (EvAll.cons (Ev.sub (Ev.lenT (by walk_at "ev") (by walk_at "ev") (by rw [hlen, sizeLine_is]; omega)) (by walk_at "ev")) (EvAll.cons (by walk_at "ev") EvAll.nil))) ⟨[], .slnil, ?_, rfl⟩
  congr 1
  rw [hlen]
  unfold lrN
  split <;> omega
noncomputable def lessOf (x y : List Nat) : Bool :=
  if (wsOf y).n ≤ (wsOf x).n then false
  else if (wsOf x).count.length ≤ 1 ∧ (wsOf y).count.length ≤ 1 then decide ((wsOf x).nt ≤ (wsOf y).nt)
  else (List.range (max (lrN (wsOf x)) (lrN (wsOf y)))).all fun i => decide (indentOf (wsOf x) (2 + i) < indentOf (wsOf y) (2 + i))
theorem less_ok {prog : Program} {w : World} {g : Heap} (G : Grd (KK w) g) (x y : List Nat) (hx : x.length ≤ 500) (hy : y.length ≤ 500) :
    FnD prog w g (.ref 115) 2 [vInst CW (wsFields x), vInst CW (wsFields y)] [] (vBool (lessOf x y)) [] := by
  refine FnR.of_vars (K := KK w) G (by walk_at "isfn") [(PySem.Str.ofString "self", vInst CW (wsFields x)), (PySem.Str.ofString "other", vInst CW (wsFields y))] rfl (vals2 fun a b => rfl) rfl (by with_unfolding_all rfl) fun A F s L rm => ?_
  have hlx := (wsOf_small x).len
  have hly := (wsOf_small y).len
  have hbx := (wsOf_small x).b
  have hby := (wsOf_small y).b
  refine Exs.iff (by exact Tst.geI (Ev.attrF (K := KK w) (C := CW) G (by walk_at "own") (by walk_at "ev") (by walk_at "mem") handed_int) (Ev.attrF (K := KK w) (C := CW) G (by walk_at "own") (by walk_at "ev") (by walk_at "mem") handed_int)) (fun h => ?_) fun h => ?_
  · refine Exs.ret Ev.cBool ⟨[], .slnil, ?_, rfl⟩
    have h' : (wsOf y).n ≤ (wsOf x).n := by simpa using h
    unfold lessOf; rw [if_pos h']
  · have h' : ¬ (wsOf y).n ≤ (wsOf x).n := by simpa using h
    refine Exs.nil (Exs.iff (by exact Tst.all (TAll.consA (Tst.bool (Ev.attrF (K := KK w) (C := CW) G (by walk_at "own") (by walk_at "ev") (by walk_at "mem") handed_bool) (fun _ => rfl)) fun _ => TAll.consA (Tst.bool (Ev.attrF (K := KK w) (C := CW) G (by walk_at "own") (by walk_at "ev") (by walk_at "mem") handed_bool) (fun _ => rfl)) fun _ => TAll.nilA)) (fun h2 => ?_) fun h2 => ?_)
    · refine Exs.ret (by exact Ev.leI (Ev.attrF (K := KK w) (C := CW) G (by walk_at "own") (by walk_at "ev") (by walk_at "mem") handed_int) (Ev.attrF (K := KK w) (C := CW) G (by walk_at "own") (by walk_at "ev") (by walk_at "mem") handed_int)) ⟨[], .slnil, ?_, rfl⟩
      have h2' : (wsOf x).count.length ≤ 1 ∧ (wsOf y).count.length ≤ 1 := by simpa using h2
      unfold lessOf; rw [if_neg h', if_pos h2']
      congr 1
      rw [Bool.eq_iff_iff]; simp
    · have h2' : ¬ ((wsOf x).count.length ≤ 1 ∧ (wsOf y).count.length ≤ 1) := fun q => by simp [q.1, q.2] at h2
      have hM : lrN (wsOf x) ≤ 500 ∧ lrN (wsOf y) ≤ 500 := by unfold lrN; omega
      have hmx : (if ((lrN (wsOf y) : Nat) : Int) > ((lrN (wsOf x) : Nat) : Int) then ((lrN (wsOf y) : Nat) : Int) else ((lrN (wsOf x) : Nat) : Int)) + 1 = ((max (lrN (wsOf x)) (lrN (wsOf y)) + 1 : Nat) : Int) := by split <;> omega
      generalize hmm : max (lrN (wsOf x)) (lrN (wsOf y)) = mx at hmx
      have hmb : mx ≤ 500 := by omega
      refine Exs.nil (Exs.assign (p := vInt ((mx + 1 : Nat) : Int)) (by exact Ev.eq (Ev.add (Ev.max2 (f := .Name (PySem.Str.ofString "x") ⟨0, 0, 0, 0⟩) (by walk_at "ev") (EvAll.cons (Ev.callM0 (K := KK w) (f := 87) G ⟨_, _, rfl, rfl⟩ (by walk_at "ev") (HasMeth.frozen G ⟨rfl, rfl, rfl⟩ rfl) (longest_ok G x hx) rm.in_ Upd.nil) (EvAll.cons (Ev.callM0 (K := KK w) (f := 87) G ⟨_, _, rfl, rfl⟩ (by walk_at "ev") (HasMeth.frozen G ⟨rfl, rfl, rfl⟩ rfl) (longest_ok G y hy) rm.in_ Upd.nil) EvAll.nil))) (by walk_at "ev")) (by rw [hmx])) (As.name (by walk_at "put")) ?_)
      refine Exs.forI (EvIter.rangeN (a := 2) (b := mx + 1 + 1) (by exact Ev.range2 (by walk_at "ev") (EvAll.cons (by exact Ev.cInt) (EvAll.cons (Ev.eq (Ev.add (by walk_at "ev") (by walk_at "ev")) (by rfl)) EvAll.nil))) calm_name (by omega) (by omega))
        (fun k σ => (∀ i, i < k → indentOf (wsOf x) (2 + i) < indentOf (wsOf y) (2 + i)) ∧ σ = { vars := [(PySem.Str.ofString "self", vInst CW (wsFields x)), (PySem.Str.ofString "other", vInst CW (wsFields y))] })
        ⟨_, by walk_at "wk", fun i hi => absurd hi (Nat.not_lt_zero _), rfl⟩ (fun k p pv σk hp hi => ?_) fun σk hi => ?_
      · obtain ⟨hall, rfl⟩ := hi
        obtain ⟨hk, rfl⟩ := rangeN_at hp
        refine ⟨_, As.name (by walk_at "put"), ?_⟩
        refine Exs.iff (by exact Tst.geI (Ev.callM (K := KK w) (f := 94) G ⟨_, _, rfl, rfl⟩ (by walk_at "ev") (HasMeth.frozen G ⟨rfl, rfl, rfl⟩ rfl) (EvAll.cons (by walk_at "ev") EvAll.nil) (indent_ok G x hx (2 + k) (by omega) (by omega)) rm.in_ Upd.nil) (Ev.callM (K := KK w) (f := 94) G ⟨_, _, rfl, rfl⟩ (by walk_at "ev") (HasMeth.frozen G ⟨rfl, rfl, rfl⟩ rfl) (EvAll.cons (by walk_at "ev") EvAll.nil) (indent_ok G y hy (2 + k) (by omega) (by omega)) rm.in_ Upd.nil)) (fun h3 => ?_) fun h3 => ?_
        · refine Exs.ret Ev.cBool ⟨[], .slnil, ?_, rfl⟩
          have h3' : ¬ indentOf (wsOf x) (2 + k) < indentOf (wsOf y) (2 + k) := by simpa using h3
          unfold lessOf; rw [if_neg h', if_neg h2', hmm]
          congr 1
          symm
          rw [List.all_eq_false]
          exact ⟨k, by simp; omega, by simpa using h3'⟩
        · have h3' : indentOf (wsOf x) (2 + k) < indentOf (wsOf y) (2 + k) := by simpa using h3
          refine Exs.nil (Exs.nil ⟨_, by walk_at "wk", fun i hi => ?_, rfl⟩)
          rcases Nat.lt_succ_iff_lt_or_eq.mp hi with q | rfl
          · exact hall i q
          · exact h3'
      · obtain ⟨hall, rfl⟩ := hi
        rw [List.length_map, List.length_range] at hall
        refine Exs.ret Ev.cBool ⟨[], .slnil, ?_, rfl⟩
        unfold lessOf; rw [if_neg h', if_neg h2', hmm]
        congr 1
        symm
        rw [List.all_eq_true]
        intro i hi
        have : i < mx := by simpa using hi
        simpa using hall i (by omega)
theorem isIn_one (c : Nat) (x : List Nat) : isIn [c] x = decide (c ∈ x) := StrLaws.found_one (L2S x) c
noncomputable def isWs (c : Nat) : Bool := decide (c ∈ [10, 9, 13, 32])
/-- a quoted word's rest -/
noncomputable def inQ : List Nat → List Nat → Option (List Nat × List Nat)
  | _, [] => none
  | tk, c :: r =>
    if c = 34 then some (tk, r)
    else if c = 92 then (match r with
      | [] => none
      | e :: r => inQ (tk ++ [e]) r)
    else inQ (tk ++ [c]) r
noncomputable def inB : List Nat → List Nat → Option (List Nat × List Nat)
  | _, [] => none
  | tk, c :: r =>
    if isWs c then some (tk, r)
    else if c = 92 then (match r with
      | [] => none
      | e :: r => inB (tk ++ [e]) r)
    else inB (tk ++ [c]) r
noncomputable def tok : List Nat → Option (List Nat × List Nat)
  | [] => some ([], [])
  | c :: r =>
    if isWs c then tok r
    else if c = 34 then inQ [] r
    else if c = 92 then (match r with
      | [] => none
      | e :: r => inB [e] r)
    else inB [c] r
/-- line feeds -/
noncomputable def nls (l : List Nat) : Int := (l.count 10 : Nat)
theorem nls_cons (c : Nat) (r : List Nat) : nls (c :: r) = nls r + nlOf (c :: r) := by
  unfold nls nlOf
  rw [List.count_cons]
  by_cases h : c = 10
  · subst h; simp
  · have h1 : (c == 10) = false := by simpa using h
    have h2 : (([c] : List Nat) == [10]) = false := by simpa using h
    simp [h1, h2]
theorem nls_read (l : List Nat) : nlOf l = nls l - nls (l.drop 1) := by
  cases l with
  | nil => rfl
  | cons c r => rw [nls_cons]; simp; first | lia | omega
noncomputable abbrev lineRes (a d pb cl sg : Addr) (co : Cell) (fo : Obj) (fa : Addr) (ps : List VP) (n : Int) (l : List Nat) : Res :=
  [(pb, .lst ps), (d, .inst a CN (lexF n (vInst CN (feedF fa fo)) pb)), (cl, co), (sg, .lst (sgs l))]
theorem get_back {prog : Program} {w : World} {g : Heap} (G : Grd (KK w) g) {fa cl sg : Addr} {co : Cell} {fo : Obj} (l : List Nat) (n : Int) (a d pb : Addr) (x : List Nat) (ps : List VP) (hps : ps.length < 100000) :
    FnD prog w g (.ref 49) 6 [vVal (.ref a)] (lineRes a d pb cl sg co fo fa (vStr x :: ps) n l) (vStr x) (lineRes a d pb cl sg co fo fa ps n l) := by
  refine FnR.of_vars (K := KK w) G (by walk_at "isfn") [(PySem.Str.ofString "self", vVal (.ref a))] rfl (vals1 fun a => rfl) rfl (by with_unfolding_all rfl) fun A F s L rm => ?_
  refine Exs.iff (by exact Tst.list (Ev.srcO (Ev.attrO (K := KK w) (C := CN) G (by walk_at "own") (by walk_at "ev") (by walk_at "rmem") (by walk_at "mem") handed_ref) (by walk_at "rmem")) (fun _ => rfl) (by rw [sizeLine_is]; simp; first | lia | omega)) (fun h => ?_) fun h => by cases h
  refine Exs.ret (by exact Ev.pop0 (Ev.attrO (K := KK w) (C := CN) G (by walk_at "own") (by walk_at "ev") (by walk_at "rmem") (by walk_at "mem") handed_ref) (by exact Ev.cInt) (by walk_at "rset") (by rw [sizeLine_is]; first | lia | omega)) ⟨_, List.Sublist.refl _, rfl, rfl⟩
theorem Exs.nodup {cx : Cx} {σ : St} {ss : List Stmt} {P : Out → Prop} (h : (σ.res.map (·.1)).Nodup → Exs cx σ ss P) : Exs cx σ ss P := fun F s ok => h ok.res.nodup F s ok
noncomputable abbrev rawIt (p : Addr) (t : Tok) (a : Addr) : Cell := .raw (ciObj p t false) [(p, methodObj (.ref 42) (.ref a))]
theorem read_turn {cx : Cx} (G : Grd (KK cx.w) cx.g) {fa cl sg : Addr} {co : Cell} {fo : Obj} {fd : FuncData} (hfo : fo.data = .func fd) (hr : ReadOK cx.prog cx.w cx.g fa cl sg co) (rm : Room cx.A 5) (V : List (PySem.Str × VP)) {I p : Addr} {t : Tok} {a d pb : Addr} (hI : I ∉ [d, cl, sg]) (ps : List VP) (n : Int) (c : Nat) (r : List Nat) (hl : (c :: r).length < 1000000) :
    CallTurn cx (KK cx.w) ⟨V, (I, rawIt p t a) :: lineRes a d pb cl sg co fo fa ps n (c :: r)⟩ I [c] ((I, rawIt p t a) :: lineRes a d pb cl sg co fo fa ps (n + nlOf (c :: r)) r) :=
  ⟨p, _, t, .ref a, 4, [(d, .inst a CN (lexF n (vInst CN (feedF fa fo)) pb)), (cl, co), (sg, .lst (sgs (c :: r)))], [(d, .inst a CN (lexF (n + nlOf (c :: r)) (vInst CN (feedF fa fo)) pb)), (cl, co), (sg, .lst (sgs r))],
    List.mem_cons_self, hI, ⟨_, _, rfl, rfl⟩, rm, read_ok G hfo hr (c :: r) hl n a d pb, fun _ => .skip (.skip (.take (.take (.take .nil)))), fun h => by cases h⟩
theorem read_turn_end {cx : Cx} (G : Grd (KK cx.w) cx.g) {fa cl sg : Addr} {co : Cell} {fo : Obj} {fd : FuncData} (hfo : fo.data = .func fd) (hr : ReadOK cx.prog cx.w cx.g fa cl sg co) (rm : Room cx.A 5) (V : List (PySem.Str × VP)) {I p : Addr} {t : Tok} {a d pb : Addr} (hI : I ∉ [d, cl, sg]) (ps : List VP) (n : Int) :
    CallTurn cx (KK cx.w) ⟨V, (I, rawIt p t a) :: lineRes a d pb cl sg co fo fa ps n []⟩ I [] ((I, .raw (ciObj p t true) []) :: lineRes a d pb cl sg co fo fa ps (n + 0) []) :=
  ⟨p, _, t, .ref a, 4, [(d, .inst a CN (lexF n (vInst CN (feedF fa fo)) pb)), (cl, co), (sg, .lst (sgs []))], [(d, .inst a CN (lexF (n + 0) (vInst CN (feedF fa fo)) pb)), (cl, co), (sg, .lst (sgs []))],
    List.mem_cons_self, hI, ⟨_, _, rfl, rfl⟩, rm, read_ok G hfo hr [] (by decide) n a d pb, fun h => absurd rfl h, fun _ => ⟨_, .skip (.skip (.take (.take (.take .nil)))), .here⟩⟩
theorem ev_read {cx : Cx} {σ : St} {x : PySem.Str} {np ap pos : Pos} (G : Grd (KK cx.w) cx.g) {fa cl sg : Addr} {co : Cell} {fo : Obj} {fd : FuncData} (hfo : fo.data = .func fd) (hr : ReadOK cx.prog cx.w cx.g fa cl sg co) (rm : Room cx.A 5) (V : List (PySem.Str × VP)) {I p : Addr} {t : Tok} {a d pb : Addr} (ps : List VP) (n : Int) (c : Nat) (r : List Nat) (hl : (c :: r).length < 1000000)
    (hσ : σ = ⟨V, (I, rawIt p t a) :: lineRes a d pb cl sg co fo fa ps n (c :: r)⟩) (ho : Ev cx σ (.Name x np) (vVal (.ref a)) σ)
    (hk : ∃ pl, PySem.eval (.Call (.Attribute (.Name x np) (PySem.Str.ofString "_read_char") ap) [] [] pos) cx.env = (do
      let ov ← PySem.eval (.Name x np) cx.env
      standAt ap.atName
      let (f, first) ← holding [ov] (getMethod ov (PySem.Str.ofString "_read_char") pl)
      callWith pos f first (backTo pos (starEach [] cx.env)) (backToKw pos (keywordEach [] cx.env))) := by exact ⟨_, by with_unfolding_all rfl⟩) :
    Ev cx σ (.Call (.Attribute (.Name x np) (PySem.Str.ofString "_read_char") ap) [] [] pos) (vStr [c]) ⟨V, (I, rawIt p t a) :: lineRes a d pb cl sg co fo fa ps (n + nlOf (c :: r)) r⟩ := by
  subst hσ
  exact Ev.callM0 (K := KK cx.w) (f := 42) G ⟨_, _, rfl, rfl⟩ ho (HasMeth.owned (C := CN) (x := a) (d := d) (fs := lexF n (vInst CN (feedF fa fo)) pb) G ⟨rfl, rfl, rfl⟩ (by walk_at "rmem") rfl) (read_ok G hfo hr (c :: r) hl n a d pb) (rm.le (by decide)) (.skip (.skip (.take (.take (.take .nil))))) hk
theorem get_read {prog : Program} {w : World} {g : Heap} (G : Grd (KK w) g) {fa cl sg : Addr} {co : Cell} {fo : Obj} {fd : FuncData} (hfo : fo.data = .func fd) (hr : ReadOK prog w g fa cl sg co) (l x r : List Nat) (hl : l.length < 1000000) (ht : tok l = some (x, r)) (n : Int) (a d pb : Addr) :
    FnD prog w g (.ref 49) 6 [vVal (.ref a)] (lineRes a d pb cl sg co fo fa [] n l) (vStr x) (lineRes a d pb cl sg co fo fa [] (n + nls l - nls r) r) := by
  refine FnR.of_vars (K := KK w) G (by walk_at "isfn") [(PySem.Str.ofString "self", vVal (.ref a))] rfl (vals1 fun a => rfl) rfl (by with_unfolding_all rfl) fun A F s L rm => ?_
  refine Exs.iff (by exact Tst.list (Ev.srcO (Ev.attrO (K := KK w) (C := CN) G (by walk_at "own") (by walk_at "ev") (by walk_at "rmem") (by walk_at "mem") handed_ref) (by walk_at "rmem")) (fun _ => rfl) (Nat.zero_le _)) (fun h => by cases h) fun h => ?_
  refine Exs.nil (Exs.assign (p := vStr []) (by exact Ev.cStr rfl) (As.name (by walk_at "put")) ?_)
  refine Exs.assignIter (f := 42) (self := .ref a) (by walk_at "ev") (EvAll.cons (by exact Ev.bound (K := KK w) (C := CN) G ⟨⟨_, rfl, rfl⟩, ⟨rfl, rfl, rfl⟩, rfl, rfl, rfl⟩ (by walk_at "ev") (by walk_at "rmem") rfl) (EvAll.cons (by exact Ev.cStr rfl) EvAll.nil)) fun I p t hI => ⟨_, by walk_at "put", ?_⟩
  refine Exs.nodup fun nd => ?_
  have hIR : I ∉ [d, cl, sg] := by
    intro q
    have := (List.nodup_cons.mp nd).1
    exact this (List.mem_cons_of_mem _ q)
  refine Exs.forCall (K := KK w) G (fun m σ => ∃ l' n', (m = l'.length ∧ tok l' = some (x, r) ∧ n' = n + nls l - nls l' ∧ l'.length ≤ l.length) ∧ σ = { vars := [(PySem.Str.ofString "fiter", vVal (.ref I)), (PySem.Str.ofString "token", vStr []), (PySem.Str.ofString "self", vVal (.ref a))], res := (I, rawIt p t a) :: lineRes a d pb cl sg co fo fa [] (n') l' }) l.length (by walk_at "ev") ⟨_, _, _, List.mem_cons_self⟩ ⟨_, by walk_at "wk", l, n, ⟨rfl, ht, by first | lia | omega, Nat.le_refl _⟩, rfl⟩ fun m σm hi => ?_
  obtain ⟨l', n', ⟨rfl, ht', hn', hle⟩, rfl⟩ := hi
  cases l' with
  | nil =>
    refine ⟨[], _, read_turn_end G hfo hr rm.in_ _ hIR [] n', fun q => absurd rfl q, fun _ => ?_⟩
    cases ht'
    refine Exs.ret (by walk_at "ev") ⟨lineRes a d pb cl sg co fo fa [] (n + nls l - nls []) [], ?_, rfl, rfl⟩
    rw [hn', Int.add_zero]
    exact List.Sublist.cons _ (List.Sublist.refl _)
  | cons c l' =>
    refine ⟨[c], _, read_turn G hfo hr rm.in_ _ hIR [] n' c l' (by first | lia | omega), fun _ => ⟨_, As.name (by walk_at "put"), ?_⟩, fun q => by cases q⟩
    have hn2 : n' + nlOf (c :: l') = n + nls l - nls l' := by rw [hn', nls_cons]; first | lia | omega
    generalize n' + nlOf (c :: l') = n2 at *
    have hle2 : l'.length < l.length := by simp at hle; first | lia | omega
    unfold tok at ht'
    refine Exs.iff (by exact Tst.inS (by walk_at "ev") (Ev.attrO (K := KK w) (C := CN) G (by walk_at "own") (by walk_at "ev") (by walk_at "rmem") (by walk_at "mem") handed_str)) (fun h => ?_) fun h => ?_
    · have hw : isWs c = true := by rw [← h, isIn_one]; rfl
      rw [if_pos hw] at ht'
      exact Exs.cont ⟨_, by walk_at "wk", l'.length, by simp, l', n2, ⟨rfl, ht', hn2, by first | lia | omega⟩, rfl⟩
    · have hw : ¬ isWs c = true := by unfold isWs; rw [isIn_one] at h; rw [h]; simp
      rw [if_neg hw] at ht'
      refine Exs.nil (Exs.iff (by walk_at "tst") (fun h2 => ?_) fun h2 => ?_)
      · have hc : c = 34 := by have : ([c] == [34]) = true := h2; simpa using this
        rw [if_pos hc] at ht'
        refine Exs.forCall (K := KK w) G (fun m σ => ∃ tk l3 n3, (m = l3.length ∧ inQ tk l3 = some (x, r) ∧ n3 = n + nls l - nls l3 ∧ tk.length + l3.length ≤ l.length) ∧ σ = { vars := [(PySem.Str.ofString "fiter", vVal (.ref I)), (PySem.Str.ofString "token", vStr tk), (PySem.Str.ofString "self", vVal (.ref a))], res := (I, rawIt p t a) :: lineRes a d pb cl sg co fo fa [] (n3) l3 }) l'.length (by walk_at "ev") ⟨_, _, _, List.mem_cons_self⟩ ⟨_, by walk_at "wk", [], l', n2, ⟨rfl, ht', hn2, by simp; first | lia | omega⟩, rfl⟩ fun m σm hi => ?_
        obtain ⟨tk, l3, n3, ⟨rfl, ht3, hn3, hle3⟩, rfl⟩ := hi
        cases l3 with
        | nil => cases ht3
        | cons e l3 =>
          refine ⟨[e], _, read_turn G hfo hr rm.in_ _ hIR [] n3 e l3 (by first | lia | omega), fun _ => ⟨_, As.name (by walk_at "put"), ?_⟩, fun q => by cases q⟩
          have hn4 : n3 + nlOf (e :: l3) = n + nls l - nls l3 := by rw [hn3, nls_cons]; first | lia | omega
          generalize n3 + nlOf (e :: l3) = n4 at *
          have hle4 : tk.length + 1 + l3.length ≤ l.length := by simp at hle3; first | lia | omega
          have hz : tk.length + 1 ≤ sizeLine := by rw [sizeLine_is]; first | lia | omega
          unfold inQ at ht3
          refine Exs.iff (by walk_at "tst") (fun h5 => ?_) fun h5 => ?_
          · have he : e = 34 := by have : ([e] == [34]) = true := h5; simpa using this
            rw [if_pos he] at ht3
            cases ht3
            refine Exs.ret (by walk_at "ev") ⟨lineRes a d pb cl sg co fo fa [] (n + nls l - nls r) r, ?_, rfl, rfl⟩
            rw [hn4]
            exact List.Sublist.cons _ (List.Sublist.refl _)
          · have he : e ≠ 34 := by have : ([e] == [34]) = false := h5; simpa using this
            rw [if_neg he] at ht3
            refine Exs.iff (by walk_at "tst") (fun h6 => ?_) fun h6 => ?_
            · have he2 : e = 92 := by have : ([e] == [92]) = true := h6; simpa using this
              rw [if_pos he2] at ht3
              cases l3 with
              | nil => cases ht3
              | cons f l3 =>
                refine Exs.assign (by exact ev_read (p := p) (t := t) (I := I) G hfo hr rm.in_ _ [] n4 f l3 (by simp at hle4 ⊢; first | lia | omega) rfl (by walk_at "ev")) (As.name (by walk_at "put")) (Exs.nil (Exs.nil ?_))
                refine Exs.augAddS (At.mem (by walk_at "mem")) (by walk_at "ev") hz (by walk_at "put") ?_
                exact Exs.nil ⟨_, by walk_at "wk", l3.length, by simp; first | lia | omega, tk ++ [f], l3, n4 + nlOf (f :: l3), ⟨rfl, ht3, by rw [hn4, nls_cons]; first | lia | omega, by simp at hle4 ⊢; first | lia | omega⟩, rfl⟩
            · have he2 : e ≠ 92 := by have : ([e] == [92]) = false := h6; simpa using this
              rw [if_neg he2] at ht3
              refine Exs.nil (Exs.nil (Exs.augAddS (At.mem (by walk_at "mem")) (by walk_at "ev") hz (by walk_at "put") ?_))
              exact Exs.nil ⟨_, by walk_at "wk", l3.length, by simp, tk ++ [e], l3, n4, ⟨rfl, ht3, hn4, by simp at hle4 ⊢; first | lia | omega⟩, rfl⟩
      · have hc : c ≠ 34 := by have : ([c] == [34]) = false := h2; simpa using this
        rw [if_neg hc] at ht'
        refine Exs.iffM (fun σ => ∃ e l3 n3, (inB [e] l3 = some (x, r) ∧ n3 = n + nls l - nls l3 ∧ 1 + l3.length ≤ l.length) ∧ σ = { vars := [(PySem.Str.ofString "ch", vStr [e]), (PySem.Str.ofString "fiter", vVal (.ref I)), (PySem.Str.ofString "token", vStr []), (PySem.Str.ofString "self", vVal (.ref a))], res := (I, rawIt p t a) :: lineRes a d pb cl sg co fo fa [] (n3) l3 }) (by walk_at "tst") (fun h3 => ?_) (fun h3 => ?_) fun σ' h3 => ?_
        · have hc2 : c = 92 := by have : ([c] == [92]) = true := h3; simpa using this
          rw [if_pos hc2] at ht'
          cases l' with
          | nil => cases ht'
          | cons f l3 =>
            refine Exs.assign (by exact ev_read (p := p) (t := t) (I := I) G hfo hr rm.in_ _ [] n2 f l3 (by simp at hle2 ⊢; first | lia | omega) rfl (by walk_at "ev")) (As.name (by walk_at "put")) (Exs.nil ?_)
            exact ⟨_, by walk_at "wk", f, l3, n2 + nlOf (f :: l3), ⟨ht', by rw [hn2, nls_cons]; first | lia | omega, by simp at hle2 ⊢; first | lia | omega⟩, rfl⟩
        · have hc2 : c ≠ 92 := by have : ([c] == [92]) = false := h3; simpa using this
          rw [if_neg hc2] at ht'
          exact Exs.nil ⟨_, by walk_at "wk", c, l', n2, ⟨ht', hn2, by first | lia | omega⟩, rfl⟩
        · obtain ⟨e, l3, n3, ⟨ht3, hn3, hle3⟩, rfl⟩ := h3
          refine Exs.augAddS (At.mem (by walk_at "mem")) (by walk_at "ev") (Nat.le_of_ble_eq_true rfl) (by walk_at "put") ?_
          refine Exs.forCall (K := KK w) G (fun m σ => ∃ tk l3 n3, (m = l3.length ∧ inB tk l3 = some (x, r) ∧ n3 = n + nls l - nls l3 ∧ tk.length + l3.length ≤ l.length) ∧ σ = { vars := [(PySem.Str.ofString "fiter", vVal (.ref I)), (PySem.Str.ofString "token", vStr tk), (PySem.Str.ofString "self", vVal (.ref a))], res := (I, rawIt p t a) :: lineRes a d pb cl sg co fo fa [] (n3) l3 }) l3.length (by walk_at "ev") ⟨_, _, _, List.mem_cons_self⟩ ⟨_, by walk_at "wk", [e], l3, n3, ⟨rfl, ht3, hn3, hle3⟩, rfl⟩ fun m σm hi => ?_
          clear ht3 hn3 hle3
          obtain ⟨tk, l3, n3, ⟨rfl, ht3, hn3, hle3⟩, rfl⟩ := hi
          cases l3 with
          | nil => cases ht3
          | cons e l3 =>
            refine ⟨[e], _, read_turn G hfo hr rm.in_ _ hIR [] n3 e l3 (by first | lia | omega), fun _ => ⟨_, As.name (by walk_at "put"), ?_⟩, fun q => by cases q⟩
            have hn4 : n3 + nlOf (e :: l3) = n + nls l - nls l3 := by rw [hn3, nls_cons]; first | lia | omega
            generalize n3 + nlOf (e :: l3) = n4 at *
            have hle4 : tk.length + 1 + l3.length ≤ l.length := by simp at hle3; first | lia | omega
            have hz : tk.length + 1 ≤ sizeLine := by rw [sizeLine_is]; first | lia | omega
            unfold inB at ht3
            refine Exs.iff (by exact Tst.inS (by walk_at "ev") (Ev.attrO (K := KK w) (C := CN) G (by walk_at "own") (by walk_at "ev") (by walk_at "rmem") (by walk_at "mem") handed_str)) (fun h5 => ?_) fun h5 => ?_
            · have he : isWs e = true := by rw [← h5, isIn_one]; rfl
              rw [if_pos he] at ht3
              cases ht3
              refine Exs.ret (by walk_at "ev") ⟨lineRes a d pb cl sg co fo fa [] (n + nls l - nls r) r, ?_, rfl, rfl⟩
              rw [hn4]
              exact List.Sublist.cons _ (List.Sublist.refl _)
            · have he : ¬ isWs e = true := by unfold isWs; rw [isIn_one] at h5; rw [h5]; simp
              rw [if_neg he] at ht3
              refine Exs.iff (by walk_at "tst") (fun h6 => ?_) fun h6 => ?_
              · have he2 : e = 92 := by have : ([e] == [92]) = true := h6; simpa using this
                rw [if_pos he2] at ht3
                cases l3 with
                | nil => cases ht3
                | cons f l3 =>
                  refine Exs.assign (by exact ev_read (p := p) (t := t) (I := I) G hfo hr rm.in_ _ [] n4 f l3 (by simp at hle4 ⊢; first | lia | omega) rfl (by walk_at "ev")) (As.name (by walk_at "put")) (Exs.nil (Exs.nil ?_))
                  refine Exs.augAddS (At.mem (by walk_at "mem")) (by walk_at "ev") hz (by walk_at "put") ?_
                  exact Exs.nil ⟨_, by walk_at "wk", l3.length, by simp; first | lia | omega, tk ++ [f], l3, n4 + nlOf (f :: l3), ⟨rfl, ht3, by rw [hn4, nls_cons]; first | lia | omega, by simp at hle4 ⊢; first | lia | omega⟩, rfl⟩
              · have he2 : e ≠ 92 := by have : ([e] == [92]) = false := h6; simpa using this
                rw [if_neg he2] at ht3
                refine Exs.nil (Exs.nil (Exs.augAddS (At.mem (by walk_at "mem")) (by walk_at "ev") hz (by walk_at "put") ?_))
                exact Exs.nil ⟨_, by walk_at "wk", l3.length, by simp, tk ++ [e], l3, n4, ⟨rfl, ht3, hn4, by simp at hle4 ⊢; first | lia | omega⟩, rfl⟩
/-- the common head's length -/
noncomputable def comPre : List Nat → List Nat → Nat
  | a :: x, b :: y => if a = b then comPre x y + 1 else 0
  | _, _ => 0
noncomputable def headEq : List Nat → List Nat → Bool
  | a :: _, b :: _ => a == b
  | _, _ => false
theorem comPre_head (x y : List Nat) : comPre x y = if headEq x y then comPre (x.drop 1) (y.drop 1) + 1 else 0 := by
  cases x <;> cases y <;> simp [comPre, headEq]
theorem headEq_len {x y : List Nat} (h : headEq x y = true) : 0 < x.length ∧ 0 < y.length := by
  cases x <;> cases y <;> simp_all [headEq]
noncomputable def lvRow (c : Nat) : Int → Int → List Nat → List Int → List Int
  | dist, res, x :: a, d :: row => min (min res d + 2) (dist + subc [c] [x]) :: lvRow c d (min (min res d + 2) (dist + subc [c] [x])) a row
  | _, _, _, _ => []
noncomputable def minOf (m : Int) (row : List Int) : Int := row.foldl min m
noncomputable def lvGo (a : List Nat) (mx : Int) : Nat → List Nat → List Int → Option (List Int)
  | _, [], row => some row
  | i, c :: b, row =>
    if mx < minOf 9223372036854775807 (lvRow c (2 * (i : Int)) (2 * (i : Int)) a row) then none
    else lvGo a mx (i + 1) b (lvRow c (2 * (i : Int)) (2 * (i : Int)) a row)
noncomputable def row0 (n : Nat) : List Int := (List.range n).map fun (i : Nat) => 2 + (i : Int) * 2
noncomputable def lev2 (a b : List Nat) (mx : Int) : Int :=
  if mx < ((b.length : Int) - (a.length : Int)) * 2 then mx + 1
  else match lvGo a mx 0 b (row0 a.length) with
    | none => mx + 1
    | some row => row.getLastD 0
noncomputable def cutPre (x : List Nat) (k : Nat) : List Nat := x.drop k
noncomputable def cutPost (x : List Nat) (k : Nat) : List Nat := (x.reverse.drop k).reverse
noncomputable def lev3 (a b : List Nat) (mx : Int) : Int :=
  if a = [] ∨ b = [] then 2 * ((a.length : Int) + (b.length : Int))
  else if 40 < a.length ∨ 40 < b.length then mx + 1
  else if b.length < a.length then lev2 b a mx else lev2 a b mx
noncomputable def lev (a b : List Nat) (mx : Int) : Int :=
  if a = b then 0
  else lev3 (cutPost (cutPre a (comPre a b)) (comPre (cutPre a (comPre a b)).reverse (cutPre b (comPre a b)).reverse)) (cutPost (cutPre b (comPre a b)) (comPre (cutPre a (comPre a b)).reverse (cutPre b (comPre a b)).reverse)) mx
theorem lvRow_length (c : Nat) : ∀ (dist res : Int) (a : List Nat) (row : List Int), row.length = a.length → (lvRow c dist res a row).length = a.length
  | _, _, [], _, _ => by simp [lvRow]
  | dist, res, x :: a, d :: row, h => by simp only [lvRow, List.length_cons]; rw [lvRow_length c _ _ a row (by simpa using h)]
  | _, _, x :: a, [], h => by simp at h
theorem sub_1 {prog : Program} {w : World} {g : Heap} (G : Grd (KK w) g) (c d : Nat) : FnD prog w g (.ref 136) 1 [vStr [c], vStr [d]] [] (vInt (subc [c] [d])) [] := by
  have h : ∀ c : Nat, (Txt.lower (L2S [c])).length ≤ sizeLine := fun c => by
    have := len_lower (L2S [c])
    rw [L2S_len] at this
    rw [sizeLine_is]
    simp at this
    first | lia | omega
  exact sub_ok G [c] [d] (h c) (h d)
theorem cutPost_take (x : List Nat) (k : Nat) : cutPost x k = x.take (x.length - k) := by
  unfold cutPost
  rw [List.reverse_drop]; simp
theorem sl_post (x : List Nat) (k : Nat) : sl x none (if -(k : Int) = 0 then none else some (-(k : Int))) = cutPost x k := by
  rw [cutPost_take]
  by_cases h : k = 0
  · subst h; rw [if_pos (by rfl), sl_all]; simp
  · rw [if_neg (by first | lia | omega), sl_uptoNeg x k (by first | lia | omega)]
theorem getD_min {i j : Int} : (if j < i then j else i) = min i j := by split <;> first | lia | omega
theorem rangeRow (n : Nat) (h : n ≤ 40) : Builtin.Range.small 2 (2 * ((n : Int) + 1)) 2 = true ∧ Builtin.Range.rangeSize 2 (2 * ((n : Int) + 1)) 2 = n := by
  have : ∀ m : Fin 41, Builtin.Range.small 2 (2 * ((m.val : Int) + 1)) 2 = true ∧ Builtin.Range.rangeSize 2 (2 * ((m.val : Int) + 1)) 2 = m.val := by decide +kernel
  exact this ⟨n, by first | lia | omega⟩
theorem minOf_snoc (m : Int) (l : List Int) (x : Int) : minOf m (l ++ [x]) = min (minOf m l) x := by unfold minOf; rw [List.foldl_append]; rfl
theorem getLastD_snoc {α : Type} (l : List α) (x d : α) : (l ++ [x]).getLastD d = x := List.getLastD_concat
theorem getLastD_ne {α : Type} (l : List α) (h : l ≠ []) (d e : α) : l.getLastD d = l.getLastD e := by cases l with | nil => exact absurd rfl h | cons a l => rfl
theorem app_ne (l : List Nat) (x : Nat) : (l ++ [x] != []) = true := by cases l <;> rfl
theorem idx_neg {k n : Nat} (h : k < n) : seqIndex? (-(k : Int) - 1) n = some (n - 1 - k) := by
  unfold seqIndex?
  have h1 : (-(k : Int) - 1) < 0 := by first | lia | omega
  simp only [h1, if_true]
  rw [if_pos (by simp; first | lia | omega)]
  congr 1
  first | lia | omega
theorem lev_ok {prog : Program} {w : World} {g : Heap} (G : Grd (KK w) g) (x y : List Nat) (mx : Int) (hx : x.length ≤ 1000) (hy : y.length ≤ 1000) :
    FnD prog w g (.ref 143) 2 [vStr x, vStr y, vInt mx] [] (vInt (lev x y mx)) [] := by
  refine FnR.of_vars (K := KK w) G (by walk_at "isfn") [(PySem.Str.ofString "a", vStr x), (PySem.Str.ofString "b", vStr y), (PySem.Str.ofString "max_cost", vInt mx)] rfl (vals3 fun a b c => rfl) rfl (by with_unfolding_all rfl) fun A F s L rm => ?_
  have zx : x.length ≤ sizeLine := by rw [sizeLine_is]; first | lia | omega
  have zy : y.length ≤ sizeLine := by rw [sizeLine_is]; first | lia | omega
  refine Exs.iff (by walk_at "tst") (fun h => ?_) fun h => ?_
  · refine Exs.ret Ev.cInt ⟨[], .slnil, ?_, rfl⟩
    have h' : x = y := by simpa using h
    unfold lev; rw [if_pos h']
  have hxy : ¬ x = y := by simpa using h
  refine Exs.nil (Exs.assign (p := vInt (((0 : Nat)) : Int)) (by exact Ev.cInt) (As.name (by walk_at "put")) ?_)
  refine Exs.whlI (fun n σ => ∃ k, (n = x.length - k ∧ comPre (x.drop k) (y.drop k) + k = comPre x y) ∧ σ = { vars := [(PySem.Str.ofString "pre", vInt (k : Int)), (PySem.Str.ofString "a", vStr x), (PySem.Str.ofString "b", vStr y), (PySem.Str.ofString "max_cost", vInt mx)] }) x.length ⟨_, by walk_at "wk", 0, ⟨rfl, rfl⟩, rfl⟩ fun n σn hi => ?_
  obtain ⟨k, ⟨rfl, hk⟩, rfl⟩ := hi
  refine ⟨headEq (x.drop k) (y.drop k), _, by
    have ex : ∀ q : List Nat, sl q (some (k : Int)) none = q.drop k := fun q => sl_from q k
    refine Tst.eq (b := (x.drop k != []) && ((y.drop k != []) && (headEq (x.drop k) (y.drop k) && true))) (Tst.all (TAll.consA (Tst.str (Ev.eq (Ev.slS (by walk_at "ev") (.int (by walk_at "ev")) .no zx) (by rw [ex])) (fun _ => rfl) (by simp; first | lia | omega)) fun h1 => TAll.consA (Tst.str (Ev.eq (Ev.slS (by walk_at "ev") (.int (by walk_at "ev")) .no zy) (by rw [ex])) (fun _ => rfl) (by simp; first | lia | omega)) fun h2 => TAll.consA ?_ fun _ => TAll.nilA)) (by cases x.drop k <;> cases y.drop k <;> first | rfl | exact Bool.and_true _)
    obtain ⟨c, cs, hc⟩ : ∃ c cs, x.drop k = c :: cs := by cases hq : x.drop k with | nil => rw [hq] at h1; cases h1 | cons c cs => exact ⟨c, cs, rfl⟩
    obtain ⟨d, ds, hd⟩ : ∃ c cs, y.drop k = c :: cs := by cases hq : y.drop k with | nil => rw [hq] at h2; cases h2 | cons c cs => exact ⟨c, cs, rfl⟩
    have gc : x[k]? = some c := by have := List.getElem?_drop (xs := x) (i := k) (j := 0); rw [hc] at this; simpa using this.symm
    have gd : y[k]? = some d := by have := List.getElem?_drop (xs := y) (i := k) (j := 0); rw [hd] at this; simpa using this.symm
    refine Tst.eq (b := [c] == [d]) (by exact Tst.eqS (Ev.atS (by walk_at "ev") (by walk_at "ev") gc zx) (Ev.atS (by walk_at "ev") (by walk_at "ev") gd zy)) ?_
    rw [hc, hd]
    simp [headEq], fun ht => ?_, fun ht => ?_⟩
  · have hl := headEq_len ht
    refine Exs.augAddI (At.mem (by walk_at "mem")) (by walk_at "ev") (by walk_at "put") ?_
    refine Exs.nil ⟨_, by walk_at "wk", x.length - (k + 1), by simp at hl; first | lia | omega, k + 1, ⟨rfl, ?_⟩, rfl⟩
    rw [comPre_head, if_pos ht, List.drop_drop, List.drop_drop] at hk
    first | lia | omega
  have hpre : comPre x y = k := by rw [comPre_head, if_neg (by rw [ht]; simp)] at hk; first | lia | omega
  have ex : ∀ q : List Nat, sl q (some (k : Int)) none = cutPre q k := fun q => sl_from q k
  refine Exs.assign (p := vStr (cutPre x k)) (by exact Ev.eq (Ev.slS (by walk_at "ev") (.int (by walk_at "ev")) .no zx) (by rw [ex])) (As.name (by walk_at "put")) ?_
  refine Exs.assign (p := vStr (cutPre y k)) (by exact Ev.eq (Ev.slS (by walk_at "ev") (.int (by walk_at "ev")) .no zy) (by rw [ex])) (As.name (by walk_at "put")) ?_
  have hlev : lev x y mx = lev3 (cutPost (cutPre x k) (comPre (cutPre x k).reverse (cutPre y k).reverse)) (cutPost (cutPre y k) (comPre (cutPre x k).reverse (cutPre y k).reverse)) mx := by unfold lev; rw [if_neg hxy, hpre]
  have hx1 : (cutPre x k).length ≤ 1000 := by unfold cutPre; simp; first | lia | omega
  have hy1 : (cutPre y k).length ≤ 1000 := by unfold cutPre; simp; first | lia | omega
  rw [hlev]
  generalize cutPre x k = a at *
  generalize cutPre y k = b at *
  clear hk hpre hlev zx zy ht hxy h ex hx hy
  have za : a.length ≤ sizeLine := by rw [sizeLine_is]; first | lia | omega
  have zb : b.length ≤ sizeLine := by rw [sizeLine_is]; first | lia | omega
  refine Exs.assign (p := vInt (-(((0 : Nat)) : Int))) (by exact Ev.cInt) (As.name (by walk_at "put")) ?_
  refine Exs.whlI (fun n σ => ∃ k, (n = a.length - k ∧ comPre (a.reverse.drop k) (b.reverse.drop k) + k = comPre a.reverse b.reverse) ∧ σ = { vars := [(PySem.Str.ofString "post", vInt (-(k : Int))), (PySem.Str.ofString "a", vStr a), (PySem.Str.ofString "b", vStr b), (PySem.Str.ofString "max_cost", vInt mx)] }) a.length ⟨_, by walk_at "wk", 0, ⟨rfl, rfl⟩, rfl⟩ fun n σn hi => ?_
  obtain ⟨k, ⟨rfl, hk⟩, rfl⟩ := hi
  refine ⟨headEq (a.reverse.drop k) (b.reverse.drop k), _, by
    refine Tst.eq (b := (cutPost a k != []) && ((cutPost b k != []) && (headEq (a.reverse.drop k) (b.reverse.drop k) && true))) (Tst.all (TAll.consA (Tst.str (Ev.eq (Ev.slS (by walk_at "ev") .no (.part (Ev.orNone (by walk_at "ev"))) za) (by rw [sl_post])) (fun _ => rfl) (by unfold cutPost; simp; first | lia | omega)) fun h1 => TAll.consA (Tst.str (Ev.eq (Ev.slS (by walk_at "ev") .no (.part (Ev.orNone (by walk_at "ev"))) zb) (by rw [sl_post])) (fun _ => rfl) (by unfold cutPost; simp; first | lia | omega)) fun h2 => TAll.consA ?_ fun _ => TAll.nilA)) (by unfold cutPost; cases a.reverse.drop k <;> cases b.reverse.drop k <;> simp [headEq, app_ne])
    have h1' : a.reverse.drop k ≠ [] := fun q => by unfold cutPost at h1; rw [q] at h1; cases h1
    have h2' : b.reverse.drop k ≠ [] := fun q => by unfold cutPost at h2; rw [q] at h2; cases h2
    obtain ⟨c, cs, hc⟩ : ∃ c cs, a.reverse.drop k = c :: cs := by cases hq : a.reverse.drop k with | nil => exact absurd hq h1' | cons c cs => exact ⟨c, cs, rfl⟩
    obtain ⟨d, ds, hd⟩ : ∃ c cs, b.reverse.drop k = c :: cs := by cases hq : b.reverse.drop k with | nil => exact absurd hq h2' | cons c cs => exact ⟨c, cs, rfl⟩
    have ga : k < a.length := by have := congrArg List.length hc; simp at this; first | lia | omega
    have gb : k < b.length := by have := congrArg List.length hd; simp at this; first | lia | omega
    have gc : a[a.length - 1 - k]? = some c := by have := List.getElem?_drop (xs := a.reverse) (i := k) (j := 0); rw [hc] at this; rw [Nat.add_zero, List.getElem?_reverse ga] at this; simpa using this.symm
    have gd : b[b.length - 1 - k]? = some d := by have := List.getElem?_drop (xs := b.reverse) (i := k) (j := 0); rw [hd] at this; rw [Nat.add_zero, List.getElem?_reverse gb] at this; simpa using this.symm
    have ia : seqIndex? (-(k : Int) - 1) a.length = some (a.length - 1 - k) := idx_neg ga
    have ib : seqIndex? (-(k : Int) - 1) b.length = some (b.length - 1 - k) := idx_neg gb
    refine Tst.eq (b := [c] == [d]) (by exact Tst.eqS (Ev.itemS (by walk_at "ev") (Ev.sub (by walk_at "ev") (by walk_at "ev")) (fun _ _ => rfl) ia gc za) (Ev.itemS (by walk_at "ev") (Ev.sub (by walk_at "ev") (by walk_at "ev")) (fun _ _ => rfl) ib gd zb)) ?_
    rw [hc, hd]
    simp [headEq], fun ht => ?_, fun ht => ?_⟩
  · have hl := headEq_len ht
    refine Exs.augSubI (At.mem (by walk_at "mem")) (by walk_at "ev") (by walk_at "put") ?_
    have e1 : -(k : Int) - 1 = -((k + 1 : Nat) : Int) := by first | lia | omega
    rw [e1]
    refine Exs.nil ⟨_, by walk_at "wk", a.length - (k + 1), by simp at hl; first | lia | omega, k + 1, ⟨rfl, ?_⟩, rfl⟩
    rw [comPre_head, if_pos ht, List.drop_drop, List.drop_drop] at hk
    first | lia | omega
  have hpost : comPre a.reverse b.reverse = k := by rw [comPre_head, if_neg (by rw [ht]; simp)] at hk; first | lia | omega
  refine Exs.assign (p := vStr (cutPost a k)) (by exact Ev.eq (Ev.slS (by walk_at "ev") .no (.part (Ev.orNone (by walk_at "ev"))) za) (by rw [sl_post])) (As.name (by walk_at "put")) ?_
  refine Exs.assign (p := vStr (cutPost b k)) (by exact Ev.eq (Ev.slS (by walk_at "ev") .no (.part (Ev.orNone (by walk_at "ev"))) zb) (by rw [sl_post])) (As.name (by walk_at "put")) ?_
  have hx2 : (cutPost a k).length ≤ 1000 := by unfold cutPost; simp; first | lia | omega
  have hy2 : (cutPost b k).length ≤ 1000 := by unfold cutPost; simp; first | lia | omega
  rw [hpost]
  generalize cutPost a k = x at *
  generalize cutPost b k = y at *
  clear hpost hk za zb ht hx1 hy1
  have zx : x.length ≤ sizeLine := by rw [sizeLine_is]; first | lia | omega
  have zy : y.length ≤ sizeLine := by rw [sizeLine_is]; first | lia | omega
  refine Exs.iff (by exact Tst.all (TAll.consO (Tst.not (Tst.str (by walk_at "ev") (fun _ => rfl) zx)) fun _ => TAll.consO (Tst.not (Tst.str (by walk_at "ev") (fun _ => rfl) zy)) fun _ => TAll.nilO)) (fun h => ?_) fun h => ?_
  · refine Exs.ret (by exact Ev.mul (by walk_at "ev") (Ev.add (Ev.lenS (by walk_at "ev") (by walk_at "ev") zx) (Ev.lenS (by walk_at "ev") (by walk_at "ev") zy)) (mulOk (.inl (by decide)))) ⟨[], .slnil, ?_, rfl⟩
    have h' : x = [] ∨ y = [] := by simpa using h
    unfold lev3; rw [if_pos h']
  have h0 : ¬ (x = [] ∨ y = []) := by simpa using h
  refine Exs.nil (Exs.iff (by exact Tst.all (TAll.consO (Tst.gtI (Ev.lenS (by walk_at "ev") (by walk_at "ev") zx) (by walk_at "ev")) fun _ => TAll.consO (Tst.gtI (Ev.lenS (by walk_at "ev") (by walk_at "ev") zy) (by walk_at "ev")) fun _ => TAll.nilO)) (fun h => ?_) fun h => ?_)
  · refine Exs.ret (by walk_at "ev") ⟨[], .slnil, ?_, rfl⟩
    have h' : 40 < x.length ∨ 40 < y.length := by simp at h; first | lia | omega
    unfold lev3; rw [if_neg h0, if_pos h']
  have h4 : ¬ (40 < x.length ∨ 40 < y.length) := by simp at h; first | lia | omega
  refine Exs.nil (Exs.iffM (fun σ => ∃ a b, (a ≠ [] ∧ a.length ≤ 40 ∧ b.length ≤ 40 ∧ b ≠ [] ∧ lev3 x y mx = lev2 a b mx) ∧ σ = { vars := [(PySem.Str.ofString "a", vStr a), (PySem.Str.ofString "b", vStr b), (PySem.Str.ofString "max_cost", vInt mx)] }) (by exact Tst.ltI (Ev.lenS (by walk_at "ev") (by walk_at "ev") zy) (Ev.lenS (by walk_at "ev") (by walk_at "ev") zx)) (fun h => ?_) (fun h => ?_) fun σ' hm => ?_)
  · have h' : y.length < x.length := by simpa using h
    refine Exs.swap (x := PySem.Str.ofString "a") (y := PySem.Str.ofString "b") (p := vStr y) (q := vStr x) (.tup (.cons (by walk_at "ev") (.cons (by walk_at "ev") .nil)) (Nat.le_of_ble_eq_true rfl)) (by walk_at "put") (by walk_at "put") ?_
    refine Exs.nil ⟨_, by walk_at "wk", y, x, ⟨fun q => h0 (.inr q), by first | lia | omega, by first | lia | omega, fun q => h0 (.inl q), ?_⟩, rfl⟩
    unfold lev3; rw [if_neg h0, if_neg h4, if_pos h']
  · have h' : ¬ y.length < x.length := by simpa using h
    refine Exs.nil ⟨_, by walk_at "wk", x, y, ⟨fun q => h0 (.inl q), by first | lia | omega, by first | lia | omega, fun q => h0 (.inr q), ?_⟩, rfl⟩
    unfold lev3; rw [if_neg h0, if_neg h4, if_neg h']
  obtain ⟨a, b, ⟨ha0, ha, hb, hb0, hl3⟩, rfl⟩ := hm
  rw [hl3]
  clear hl3 h4 h0 h zx zy hx2 hy2
  have za : a.length ≤ sizeLine := by rw [sizeLine_is]; first | lia | omega
  have zb : b.length ≤ sizeLine := by rw [sizeLine_is]; first | lia | omega
  refine Exs.iff (by exact Tst.gtI (Ev.mul (Ev.sub (Ev.lenS (by walk_at "ev") (by walk_at "ev") zb) (Ev.lenS (by walk_at "ev") (by walk_at "ev") za)) (by walk_at "ev") (mulOk (.inr (by decide)))) (by walk_at "ev")) (fun h => ?_) fun h => ?_
  · refine Exs.ret (by walk_at "ev") ⟨[], .slnil, ?_, rfl⟩
    have h' : mx < ((b.length : Int) - (a.length : Int)) * 2 := by simpa using h
    unfold lev2; rw [if_pos h']
  have h' : ¬ mx < ((b.length : Int) - (a.length : Int)) * 2 := by simpa using h
  have hlev : lev2 a b mx = match lvGo a mx 0 b (row0 a.length) with | none => mx + 1 | some row => row.getLastD 0 := by unfold lev2; rw [if_neg h']
  rw [hlev]
  clear hlev h h'
  have hl24 : a.length ≤ 2 ^ 24 := by first | lia | omega
  refine Exs.nil (Exs.asOwn (ps := (row0 a.length).map vInt) (by exact EvN.eq (EvN.listR (by walk_at "ev") (Ev.range3 (by walk_at "ev") (EvAll.cons (by walk_at "ev") (EvAll.cons (Ev.mul (by walk_at "ev") (Ev.add (Ev.lenS (by walk_at "ev") (by walk_at "ev") za) (by walk_at "ev")) (mulOk (.inl (by decide)))) (EvAll.cons (by walk_at "ev") EvAll.nil))) (by decide) (by decide)) (rangeRow a.length ha).1 (rangeRow a.length ha).2 hl24) (by unfold row0; rw [List.map_map]; rfl)) fun e he => ⟨_, by walk_at "put", ?_⟩)
  refine Exs.assign (p := vInt 0) (by exact Ev.cInt) (As.name (by walk_at "put")) ?_
  refine Exs.forI (EvIter.rangeN (a := 0) (b := b.length) (by exact Ev.range1 (by walk_at "ev") (Ev.lenS (by walk_at "ev") (by walk_at "ev") zb)) calm_name (by first | lia | omega) (by first | lia | omega))
    (fun k σ => ∃ row res, (row.length = a.length ∧ lvGo a mx k (b.drop k) row = lvGo a mx 0 b (row0 a.length) ∧ (0 < k → res = row.getLastD 0)) ∧ σ = { vars := [(PySem.Str.ofString "result", vInt res), (PySem.Str.ofString "row", vVal (.ref e)), (PySem.Str.ofString "a", vStr a), (PySem.Str.ofString "b", vStr b), (PySem.Str.ofString "max_cost", vInt mx)], res := [(e, .lst (row.map vInt))] })
    ⟨_, by walk_at "wk", row0 a.length, 0, ⟨by simp [row0], rfl, fun q => absurd q (Nat.lt_irrefl 0)⟩, rfl⟩ (fun k p pv σk hp hi => ?_) fun σk hi => ?_
  · obtain ⟨row, res, ⟨hrl, hgo, _⟩, rfl⟩ := hi
    obtain ⟨hk, rfl⟩ := rangeN_at hp
    have hkb : k < b.length := by first | lia | omega
    obtain ⟨c, hc⟩ : ∃ c, b[k]? = some c := ⟨b[k], List.getElem?_eq_getElem hkb⟩
    rw [drop_at hc, lvGo] at hgo
    rw [show 0 + k = k from Nat.zero_add k]
    refine ⟨_, As.name (by walk_at "put"), ?_⟩
    refine Exs.assign (p := vStr [c]) (by exact Ev.atS (by walk_at "ev") (by walk_at "ev") hc zb) (As.name (by walk_at "put")) ?_
    refine Exs.assign2 (p := vInt (2 * (k : Int))) (by exact Ev.eq (Ev.mul (by walk_at "ev") (by walk_at "ev") (mulOk (.inr (by decide)))) (by rw [Int.mul_comm])) (As.name (by walk_at "put")) (As.name (by walk_at "put")) ?_
    refine Exs.assign (p := vInt 9223372036854775807) (by exact Ev.cInt) (As.name (by walk_at "put")) ?_
    generalize hD : 2 * (k : Int) = D at *
    refine Exs.forI (EvIter.rangeN (a := 0) (b := a.length) (by exact Ev.range1 (by walk_at "ev") (Ev.lenS (by walk_at "ev") (by walk_at "ev") za)) calm_name (by first | lia | omega) (by first | lia | omega))
      (fun j σ => ∃ pre dist res, (pre.length = j ∧ pre ++ lvRow c dist res (a.drop j) (row.drop j) = lvRow c D D a row ∧ res = pre.getLastD D) ∧ σ = { vars := [(PySem.Str.ofString "minimum", vInt (minOf 9223372036854775807 pre)), (PySem.Str.ofString "distance", vInt dist), (PySem.Str.ofString "result", vInt res), (PySem.Str.ofString "bchar", vStr [c]), (PySem.Str.ofString "row", vVal (.ref e)), (PySem.Str.ofString "a", vStr a), (PySem.Str.ofString "b", vStr b), (PySem.Str.ofString "max_cost", vInt mx)], res := [(e, .lst ((pre ++ row.drop j).map vInt))] })
      ⟨_, by walk_at "wk", [], D, D, ⟨rfl, rfl, rfl⟩, rfl⟩ (fun j p pv2 σj hp hi => ?_) fun σj hi => ?_
    · obtain ⟨pre, dist, res, ⟨hpl, hrow, hres⟩, rfl⟩ := hi
      obtain ⟨hj, rfl⟩ := rangeN_at hp
      have hja : j < a.length := by first | lia | omega
      obtain ⟨x, hxj⟩ : ∃ c, a[j]? = some c := ⟨a[j], List.getElem?_eq_getElem hja⟩
      obtain ⟨d, hdj⟩ : ∃ c, row[j]? = some c := ⟨row[j]'(by first | lia | omega), List.getElem?_eq_getElem (by first | lia | omega)⟩
      rw [drop_at hxj, drop_at hdj, lvRow] at hrow
      rw [show 0 + j = j from Nat.zero_add j]
      have hget : ((pre ++ row.drop j).map vInt)[j]? = some (vInt d) := by
        rw [List.getElem?_map, List.getElem?_append_right (by first | lia | omega), hpl, Nat.sub_self, drop_at hdj]; rfl
      have hsz : ((pre ++ row.drop j).map vInt).length ≤ sizeLine := by rw [List.length_map, List.length_append, List.length_drop, sizeLine_is]; first | lia | omega
      have hset : ((pre ++ row.drop j).map vInt).set j (vInt (min (min res d + 2) (dist + subc [c] [x]))) = ((pre ++ [min (min res d + 2) (dist + subc [c] [x])]) ++ row.drop (j + 1)).map vInt := by
        rw [drop_at hdj, ← List.map_set, List.set_append_right _ _ (by first | lia | omega), hpl, Nat.sub_self, List.set_cons_zero, List.append_assoc]; rfl
      have hjl : j < ((pre ++ row.drop j).map vInt).length := by rw [List.length_map, List.length_append, List.length_drop]; first | lia | omega
      refine ⟨_, As.name (by walk_at "put"), ?_⟩
      refine Exs.assign (p := vInt (dist + subc [c] [x])) (by exact Ev.add (by walk_at "ev") (Ev.callF (K := KK w) G (by walk_at "isfn") (by walk_at "ev") (EvAll.cons (by walk_at "ev") (EvAll.cons (Ev.atS (by walk_at "ev") (by walk_at "ev") hxj za) EvAll.nil)) (sub_1 G c x) rm.in_ (Upd.none _))) (As.name (by walk_at "put")) ?_
      refine Exs.assign (p := vInt d) (by exact Ev.atL (ps := (pre ++ row.drop j).map vInt) (by walk_at "src") (by walk_at "ev") hget hsz) (As.name (by walk_at "put")) ?_
      refine Exs.assign (p := vInt (min res d + 2)) (by exact Ev.eq (Ev.add (Ev.min2 (f := .Name (PySem.Str.ofString "x") ⟨0, 0, 0, 0⟩) (by walk_at "ev") (EvAll.cons (by walk_at "ev") (EvAll.cons (by walk_at "ev") EvAll.nil))) (by walk_at "ev")) (by rw [getD_min])) (As.name (by walk_at "put")) ?_
      refine Exs.assign (p := vInt (min (min res d + 2) (dist + subc [c] [x]))) (by exact Ev.eq (Ev.min2 (f := .Name (PySem.Str.ofString "x") ⟨0, 0, 0, 0⟩) (by walk_at "ev") (EvAll.cons (by walk_at "ev") (EvAll.cons (by walk_at "ev") EvAll.nil))) (by rw [getD_min])) (As.name (by walk_at "put")) ?_
      generalize hr : min (min res d + 2) (dist + subc [c] [x]) = r' at *
      refine Exs.putItem (((pre ++ [r']) ++ row.drop (j + 1)).map vInt) (by walk_at "ev") (by walk_at "ev") (by walk_at "ev") (by walk_at "rset") hjl hset hsz ?_
      refine Exs.iffM (fun σ => σ = { vars := [(PySem.Str.ofString "minimum", vInt (minOf 9223372036854775807 (pre ++ [r']))), (PySem.Str.ofString "distance", vInt d), (PySem.Str.ofString "result", vInt r'), (PySem.Str.ofString "bchar", vStr [c]), (PySem.Str.ofString "row", vVal (.ref e)), (PySem.Str.ofString "a", vStr a), (PySem.Str.ofString "b", vStr b), (PySem.Str.ofString "max_cost", vInt mx)], res := [(e, .lst (((pre ++ [r']) ++ row.drop (j + 1)).map vInt))] }) (by walk_at "tst") (fun h => ?_) (fun h => ?_) fun σ' hm => ?_
      · have h' : r' < minOf 9223372036854775807 pre := by simpa using h
        refine Exs.assign (by walk_at "ev") (As.name (by walk_at "put")) ?_
        rw [minOf_snoc, show min (minOf 9223372036854775807 pre) r' = r' from by first | lia | omega]
        exact Exs.nil ⟨_, by walk_at "wk", rfl⟩
      · have h' : ¬ r' < minOf 9223372036854775807 pre := by simpa using h
        rw [minOf_snoc, show min (minOf 9223372036854775807 pre) r' = minOf 9223372036854775807 pre from by first | lia | omega]
        exact Exs.nil ⟨_, by walk_at "wk", rfl⟩
      · subst hm
        exact Exs.nil ⟨_, by walk_at "wk", pre ++ [r'], d, r', ⟨by simp; first | lia | omega, by rw [← hrow]; simp, by rw [getLastD_snoc]⟩, rfl⟩
    · obtain ⟨pre, dist, res, ⟨hpl, hrow, hres⟩, rfl⟩ := hi
      rw [List.length_map, List.length_range, Nat.sub_zero] at hpl hrow
      rw [List.drop_length, show ∀ q, lvRow c dist res [] q = [] from fun q => by simp [lvRow], List.append_nil] at hrow
      · rw [List.length_map, List.length_range, Nat.sub_zero]
        rw [← hrow] at hgo
        rw [show row.drop a.length = [] from by rw [← hrl, List.drop_length], List.append_nil]
        have hpn : pre ≠ [] := fun q => by subst q; simp at hpl; exact ha0 (List.eq_nil_of_length_eq_zero hpl.symm)
        refine Exs.iff (by walk_at "tst") (fun h => ?_) fun h => ?_
        · have h' : mx < minOf 9223372036854775807 pre := by simpa using h
          rw [if_pos h'] at hgo
          refine Exs.ret (by walk_at "ev") ⟨[], List.nil_sublist _, ?_, rfl⟩
          rw [← hgo]
        · have h' : ¬ mx < minOf 9223372036854775807 pre := by simpa using h
          rw [if_neg h'] at hgo
          exact Exs.nil (Exs.nil ⟨_, by walk_at "wk", pre, res, ⟨hpl, hgo, fun _ => by rw [hres]; exact getLastD_ne pre hpn D 0⟩, rfl⟩)
  · obtain ⟨row, res, ⟨hrl, hgo, hres⟩, rfl⟩ := hi
    rw [List.length_map, List.length_range, Nat.sub_zero] at hgo hres
    rw [List.drop_length, lvGo] at hgo
    refine Exs.ret (by walk_at "ev") ⟨[], List.nil_sublist _, ?_, rfl⟩
    rw [← hgo]
    congr 1
    exact hres (List.length_pos_iff.mpr hb0)
theorem take1 (c : Nat) (r : List Nat) : joinL [] [[c]] = [c] := by unfold joinL S2 Txt.join; rfl
theorem open_ok {prog : Program} {w : World} {g : Heap} (G : Grd (KK w) g) (LG : LamG g 163 159) (l : List Nat) (sg : Addr) :
    FnR prog w g (.ref 164) 8 [vVal (.ref sg)] [(sg, .lst (sgs l)), (159, .raw (tabObj #[]) [])] fun q S => ∃ a d pb cl co fo fa fd ts fz, q = vVal (.ref a) ∧ fo.data = .func fd ∧ ReadOK prog w g fa cl sg co ∧
      S = [(cl, co), (pb, .lst []), (d, .inst a CN (lexF 1 (vInst CN (feedF fa fo)) pb)), (sg, .lst (sgs l)), (159, .raw (tabObj ts) fz)] := by
  refine FnR.of_cell (K := KK w) G (x := PySem.Str.ofString "signs") ⟨⟨_, rfl, rfl⟩, rfl, by with_unfolding_all rfl, rfl, rfl, rfl, rfl, rfl, rfl, rfl, fun n => rfl⟩ (fun v => rfl) fun A F s L rm => ?_
  refine Exs.assignE (EvE.callC (K := KK w) (C := CN) (L := [(sg, .lst (sgs l)), (159, .raw (tabObj #[]) [])]) G rfl (by walk_at "ev") (EvAll.cons (by walk_at "ev") EvAll.nil) (FnR.cls (fI := 35) G ⟨rfl, rfl, rfl⟩ fun x dx => lexInit_ok G (vVal .none) x dx) (rm.in_.le (by decide)) (.right (.right .nil))) fun p σ' h => ?_
  obtain ⟨R', ⟨x, dx, rfl, pbf, rfl⟩, hn, rfl⟩ := h
  have hdx : s.heap.get? dx = none := (hn dx (List.mem_cons_of_mem _ List.mem_cons_self)).resolve_left (fun q => List.not_mem_nil q)
  refine ⟨_, As.name (by walk_at "put"), ?_⟩
  refine Exs.setAttrE (K := KK w) (C := CN) G (by walk_at "set") (EvE.lambda (c := 163) (tb := 159) (fun ce => [(pbf, .lst []), (dx, .inst x CN (lexF 1 (vVal .none) pbf)), (sg, .lst (sgs l)), (159, ce)]) LG rfl (fun ce => by walk_at "rset") (fun ce ce' => by walk_at "rset") rfl (clos := [(PySem.Str.ofString "signs", L + 1)]) (by with_unfolding_all rfl)) fun p σ' h => ?_
  obtain ⟨fa, c', oc, vs, t, pm, ctv, ts, rfl, hoc, hv, rfl⟩ := h
  refine ⟨x, dx, _, _, _, by walk_at "ev", by walk_at "rset", FPut.new rfl, Nat.le_of_ble_eq_true rfl, ?_⟩
  refine Exs.freezeI (C := CN) (fs' := feedF fa _) (x := PySem.Str.ofString "feed") (o := x) (a := dx) (At.mem (by walk_at "mem")) (by walk_at "rdel") (.same (.any (.same (.same (.same .nil))))) (by walk_at "rep") hdx ?_
  refine Exs.retCell (x := PySem.Str.ofString "signs") (c := L + 1) (u := .ref sg) (EvE.callC (K := KK w) (C := CN) G rfl (by walk_at "ev") (EvAll.cons (by walk_at "ev") EvAll.nil) (FnR.cls (fI := 35) G ⟨rfl, rfl, rfl⟩ fun x dx => lexInit_ok G _ x dx) (rm.in_.le (by decide)) (.right (.right (.right .nil)))) rfl rfl rfl fun p σ' h => ?_
  obtain ⟨R', ⟨a, d, rfl, pb, rfl⟩, hn2, rfl⟩ := h
  refine ⟨At.mem (by walk_at "mem"), _, fun F s ok => ok.frozen (a := 159) (.there (.there (.there (.there .here)))), fun co hco => ?_⟩
  refine ⟨[(L + 1, .raw co _), (pb, .lst []), (d, .inst a CN _), (sg, .lst (sgs l)), (159, _)], .cons_cons _ (.cons_cons _ (.cons_cons _ (.cons _ (List.Sublist.refl _)))), a, d, pb, L + 1, _, _, fa, _, ts, _, rfl, rfl, ?_, rfl⟩
  · intro l hl
    refine FnD.lam (x := PySem.Str.ofString "signs") (y := PySem.Str.ofString "count") G hoc hv hco (fun v => rfl) rfl rfl rfl rfl rfl rfl (by decide) (by decide) fun A F s L2 rm => ?_
    have hmem : ∀ l : List Nat, (PySem.Str.ofString "signs", vVal (.ref sg)) ∈ [(PySem.Str.ofString "count", vInt 1), (PySem.Str.ofString "signs", vVal (.ref sg))] := fun _ => List.mem_cons_of_mem _ List.mem_cons_self
    cases l with
    | nil =>
      refine Ev.eq (p := vStr (joinL [] [])) (Ev.join (x := []) (ls := []) (by walk_at "ev") ?_ rfl) rfl
      refine Ev.srcL ?_
      refine Ev.comp (ps := []) (R0 := []) (σ₁ := { vars := [(PySem.Str.ofString "count", vInt 1), (PySem.Str.ofString "signs", vVal (.ref sg))], res := [(sg, .lst (sgs []))] }) ?i ?s (fun _ => [(sg, .lst (sgs []))]) rfl (fun _ => rfl) (fun k x hx => (List.not_mem_nil hx).elim) (fun _ => []) rfl (fun _ => true) (fun _ => vStr []) (fun k hk => absurd hk (Nat.not_lt_zero k)) (fun _ _ => Nat.zero_le _) (cl := [(PySem.Str.ofString "signs", L + 1)]) (cv := [(PySem.Str.ofString "signs", vVal (.ref sg))]) (fun C F0 s0 W pv k p hp => by cases hp)
      case i =>
        refine EvIter.rangeN (a := 0) (b := 0) ?_ calm_name (Nat.le_of_ble_eq_true rfl) (Nat.le_of_ble_eq_true rfl)
        refine Ev.range1 (by walk_at "ev") (Ev.eq (p := vInt (if ((sgs []).length : Int) < 1 then ((sgs []).length : Int) else 1)) ?_ (congrArg vInt (by decide)))
        refine Ev.min2 (f := .Name (PySem.Str.ofString "x") ⟨0, 0, 0, 0⟩) (by walk_at "ev") ?_
        exact (EvAll.cons (by walk_at "ev") (EvAll.cons (Ev.lenL (ps := sgs []) (by walk_at "ev") (by walk_at "src") (Nat.zero_le _)) EvAll.nil))
      case s =>
        refine ⟨by with_unfolding_all rfl, rfl, by decide, by decide, fun z c h => h, List.pairwise_singleton _ _, fun z p hz => ?_, List.nodup_cons.mpr ⟨List.not_mem_nil, List.nodup_nil⟩⟩
        cases List.mem_singleton.mp hz
        exact ⟨List.mem_cons_of_mem _ List.mem_cons_self, (show (some NameKind.free : Option NameKind) ≠ some NameKind.local from by decide), rfl, .inr ⟨by with_unfolding_all rfl, by decide⟩⟩
    | cons c r =>
      refine Ev.eq (p := vStr (joinL [] [[c]])) (Ev.join (x := []) (ls := [[c]]) (by walk_at "ev") ?_ rfl) rfl
      refine Ev.srcL ?_
      have hln : (if ((sgs (c :: r)).length : Int) < 1 then ((sgs (c :: r)).length : Int) else 1) = ((1 : Nat) : Int) := by
        rw [if_neg (by simp [vStrs]; first | lia | omega)]; rfl
      have hsz : (sgs (c :: r)).length ≤ sizeLine := by rw [sizeLine_is]; simp [vStrs] at hl ⊢; first | lia | omega
      have hsz2 : (sgs r).length < sizeLine := by rw [sizeLine_is]; simp [vStrs] at hl ⊢; first | lia | omega
      refine Ev.comp (ps := [vInt ((0 : Nat) : Int)]) (R0 := []) (σ₁ := { vars := [(PySem.Str.ofString "count", vInt 1), (PySem.Str.ofString "signs", vVal (.ref sg))], res := [(sg, .lst (sgs (c :: r)))] }) ?i ?s (fun k => [(sg, .lst (if k = 0 then sgs (c :: r) else sgs r))]) rfl (fun _ => rfl) (fun k x hx => (List.not_mem_nil hx).elim) (fun k => if k = 0 then [] else [vStr [c]]) rfl (fun _ => true) (fun _ => vStr [c]) (fun k hk => by cases (Nat.lt_one_iff.mp hk); rfl) (fun k _ => by by_cases q : k = 0 <;> simp [q, sizeLine_is]) (cl := [(PySem.Str.ofString "signs", L + 1)]) (cv := [(PySem.Str.ofString "signs", vVal (.ref sg))]) (fun C F0 s0 W pv k p hp => ?_)
      case i =>
        refine EvIter.rangeN (a := 0) (b := 1) ?_ calm_name (Nat.le_of_ble_eq_true rfl) (Nat.le_of_ble_eq_true rfl)
        refine Ev.range1 (by walk_at "ev") (Ev.eq (p := vInt (if ((sgs (c :: r)).length : Int) < 1 then ((sgs (c :: r)).length : Int) else 1)) ?_ (congrArg vInt hln))
        refine Ev.min2 (f := .Name (PySem.Str.ofString "x") ⟨0, 0, 0, 0⟩) (by walk_at "ev") ?_
        exact (EvAll.cons (by walk_at "ev") (EvAll.cons (Ev.lenL (ps := sgs (c :: r)) (by walk_at "ev") (by walk_at "src") hsz) EvAll.nil))
      case s =>
        refine ⟨by with_unfolding_all rfl, rfl, by decide, by decide, fun z c h => h, List.pairwise_singleton _ _, fun z p hz => ?_, List.nodup_cons.mpr ⟨List.not_mem_nil, List.nodup_nil⟩⟩
        cases List.mem_singleton.mp hz
        exact ⟨List.mem_cons_of_mem _ List.mem_cons_self, (show (some NameKind.free : Option NameKind) ≠ some NameKind.local from by decide), rfl, .inr ⟨by with_unfolding_all rfl, by decide⟩⟩
      case _ =>
        have hk : k = 0 := by
          have := (List.getElem?_eq_some_iff.mp hp).1
          simpa using this
        subst hk
        refine ⟨_, _, As.name (Put.newL (by with_unfolding_all rfl) rfl), rfl, .nil _, (fun q => by cases q), fun _ => ⟨_, Ev.pop0 (ps := sgs r) (a := sg) (by walk_at "ev") (by exact Ev.cInt) (R' := [(sg, .lst (sgs r))]) RSet.here hsz2, rfl⟩⟩
noncomputable def wFree (q : Bool) (told : List Nat) (c : Nat) : Bool := if q then !isIn [c] [92, 34] else (!isIn [c] [92, 32, 9, 10, 13] && ([c] != [34] || told != []))
noncomputable def wStep (q odd : Bool) (told : List Nat) (c : Nat) : List Nat := (if odd || !wFree q told c then told ++ [92] else told) ++ [c]
noncomputable def wBody (q odd : Bool) (word : List Nat) : List Nat := word.foldl (wStep q odd) []
noncomputable def wQuo (m : Int) (word : List Nat) : Bool := decide (m > 1) || (word == [])
noncomputable def wOdd (m : Int) : Bool := m.fmod 2 == 1
noncomputable def written (word : List Nat) (m : Int) (e : List Nat) : List Nat := if wQuo m word then [34] ++ wBody (wQuo m word) (wOdd m) word ++ [34] else wBody (wQuo m word) (wOdd m) word ++ e
theorem wStep_len (q odd : Bool) (told : List Nat) (c : Nat) : (wStep q odd told c).length ≤ told.length + 2 := by
  unfold wStep; split <;> simp
theorem wBody_snoc (q odd : Bool) (x : List Nat) (c : Nat) : wBody q odd (x ++ [c]) = wStep q odd (wBody q odd x) c := by unfold wBody; rw [List.foldl_append]; rfl
theorem wBody_len (q odd : Bool) (x : List Nat) : (wBody q odd x).length ≤ 2 * x.length := by
  have : ∀ (l told : List Nat), (l.foldl (wStep q odd) told).length ≤ told.length + 2 * l.length := by
    intro l
    induction l with
    | nil => intro told; simp
    | cons c l ih => intro told; have h1 := ih (wStep q odd told c); have h2 := wStep_len q odd told c; simp only [List.foldl_cons, List.length_cons]; first | lia | omega
  have := this x []; simpa [wBody] using this
theorem written_ok {prog : Program} {w : World} {g : Heap} (G : Grd (KK w) g) (x : List Nat) (m : Int) (e : List Nat) (hx : x.length ≤ 1000) (he : e.length ≤ 1000) :
    FnD prog w g (.ref 157) 1 [vStr x, vInt m, vStr e] [] (vStr (written x m e)) [] := by
  refine FnR.of_vars (K := KK w) G (by walk_at "isfn") [(PySem.Str.ofString "word", vStr x), (PySem.Str.ofString "manner", vInt m), (PySem.Str.ofString "end", vStr e)] rfl (vals3 fun a b c => rfl) rfl (by with_unfolding_all rfl) fun A F s L rm => ?_
  refine Exs.assign (p := vBool (wQuo m x)) (by exact Ev.orB (Ev.gtI (by walk_at "ev") (by walk_at "ev")) fun _ => Ev.eqS (by walk_at "ev") (by exact Ev.cStr rfl)) (As.name (by walk_at "put")) ?_
  generalize hq : wQuo m x = q
  refine Exs.assign (p := vStr []) (by exact Ev.cStr rfl) (As.name (by walk_at "put")) ?_
  refine Exs.forI (EvIter.str (by walk_at "ev") calm_name)
    (fun k σ => ∃ told, (told = wBody q (wOdd m) (x.take k)) ∧ σ = { vars := [(PySem.Str.ofString "told", vStr told), (PySem.Str.ofString "quoted", vBool q), (PySem.Str.ofString "word", vStr x), (PySem.Str.ofString "manner", vInt m), (PySem.Str.ofString "end", vStr e)] })
    ⟨_, by walk_at "wk", [], rfl, rfl⟩ (fun k p pv σk hp hi => ?_) fun σk hi => ?_
  · obtain ⟨told, ht, rfl⟩ := hi
    obtain ⟨c, hc, rfl⟩ := strs_at hp
    have hk : k < x.length := (List.getElem?_eq_some_iff.mp hc).1
    have htl : told.length ≤ 2000 := by have := wBody_len q (wOdd m) (x.take k); rw [← ht] at this; simp at this; first | lia | omega
    refine ⟨_, As.name (by walk_at "put"), ?_⟩
    
    
    have hfree : wFree q told c = ((!isIn [c] (if q then [92, 34] else [92, 32, 9, 10, 13])) && (q || ([c] != [34] || told != []))) := by
      unfold wFree; cases q
      · rfl
      · show _ = (_ && true); rw [Bool.and_true]; rfl
    refine Exs.assign (p := vBool (!isIn [c] (if q then [92, 34] else [92, 32, 9, 10, 13]))) (by exact Ev.ninS (by walk_at "ev") (Ev.ifx (c := q) (Tst.bool (by walk_at "ev") (fun _ => rfl)) (fun h => Ev.eq (Ev.cStr (l := [92, 34]) rfl) (by rw [if_pos h])) (fun h => Ev.eq (Ev.cStr (l := [92, 32, 9, 10, 13]) rfl) (by rw [if_neg (by rw [h]; decide)])))) (As.name (by walk_at "put")) ?_
    refine Exs.assign (p := vBool (wFree q told c)) (by exact Ev.eq (Ev.andB (by walk_at "ev") fun _ => Ev.orC (by walk_at "ev") fun _ => Ev.orB (Ev.neS (by walk_at "ev") (Ev.cStr (l := [34]) rfl)) fun _ => Ev.neS (by walk_at "ev") (Ev.cStr (l := []) rfl)) (by rw [hfree])) (As.name (by walk_at "put")) ?_
    
    refine Exs.iffM (fun σ => σ = { vars := [(PySem.Str.ofString "sign", vStr [c]), (PySem.Str.ofString "told", vStr (if wOdd m || !wFree q told c then told ++ [92] else told)), (PySem.Str.ofString "quoted", vBool q), (PySem.Str.ofString "word", vStr x), (PySem.Str.ofString "manner", vInt m), (PySem.Str.ofString "end", vStr e)] }) (by exact Tst.all (TAll.consO (Tst.eqI (Ev.mod (by walk_at "ev") (by walk_at "ev") (by decide)) (by walk_at "ev")) fun _ => TAll.consO (Tst.not (Tst.bool (by walk_at "ev") (fun _ => rfl))) fun _ => TAll.nilO)) (fun h => ?_) (fun h => ?_) fun σ' h => ?_
    · have h' : (wOdd m || !wFree q told c) = true := by rw [← h]; unfold wOdd; simp
      rw [if_pos h']
      refine Exs.assign (p := vStr (told ++ [92])) (by exact Ev.addS (by walk_at "ev") (by exact Ev.cStr rfl) (by rw [sizeLine_is]; simp; first | lia | omega)) (As.name (by walk_at "put")) ?_
      exact Exs.nil ⟨_, by walk_at "wk", rfl⟩
    · have h' : ¬ (wOdd m || !wFree q told c) = true := fun h2 => by rw [show (wOdd m || !wFree q told c) = false from by rw [← h]; unfold wOdd; simp] at h2; cases h2
      rw [if_neg h']
      exact Exs.nil ⟨_, by walk_at "wk", rfl⟩
    subst h
    have hz : (if wOdd m || !wFree q told c then told ++ [92] else told).length + 1 ≤ sizeLine := by rw [sizeLine_is]; split <;> simp <;> first | lia | omega
    refine Exs.assign (p := vStr (wStep q (wOdd m) told c)) (by exact Ev.addS (by walk_at "ev") (by walk_at "ev") hz) (As.name (by walk_at "put")) ?_
    exact Exs.nil ⟨_, by walk_at "wk", _, by rw [take_snoc hc, wBody_snoc, ht], rfl⟩
  · obtain ⟨told, ht, rfl⟩ := hi
    rw [strs_len, List.take_length] at ht
    have htl : told.length ≤ 2000 := by have := wBody_len q (wOdd m) x; rw [← ht] at this; first | lia | omega
    refine Exs.iff (Tst.bool (by walk_at "ev") (fun _ => rfl)) (fun h => ?_) fun h => ?_
    · refine Exs.ret (by exact Ev.addS (Ev.addS (x := [34]) (by exact Ev.cStr rfl) (by walk_at "ev") (by rw [sizeLine_is]; simp; first | lia | omega)) (y := [34]) (by exact Ev.cStr rfl) (by rw [sizeLine_is]; simp; first | lia | omega)) ⟨[], .slnil, ?_, rfl⟩
      unfold written
      rw [hq, if_pos h, ht]
    · refine Exs.nil (Exs.ret (by exact Ev.addS (by walk_at "ev") (by walk_at "ev") (by rw [sizeLine_is]; first | lia | omega)) ⟨[], .slnil, ?_, rfl⟩)
      unfold written
      rw [hq, if_neg (by rw [h]; decide), ht]
theorem Ev.tailS {cx : Cx} {σ : St} {pos : Pos} {value lo : Expr} {p : Pos} {a : Nat} {x : List Nat} (hv : Ev cx σ value (vStr (a :: x)) σ) (hl : Ev cx σ lo (vInt 1) σ) (hsz : (a :: x).length ≤ sizeLine) : Ev cx σ (.Subscript value (.Slice (some lo) none none p) pos) (vStr x) σ :=
  (Ev.slS hv (.int hl) .no hsz).eq (by rw [show (1 : Int) = ((1 : Nat) : Int) from rfl, sl_from]; rfl)
noncomputable def upE (a b : Nat) : Bool := S2 (Txt.upper (L2S [a])) == S2 (Txt.upper (L2S [b]))
noncomputable def within : List Nat → List Nat → Int → Bool
  | [], o, left => decide (2 * (((([] : List Nat).length : Nat) : Int) + (o.length : Int)) ≤ left)
  | a :: w, [], left => decide (2 * (((a :: w).length : Int) + ((([] : List Nat).length : Nat) : Int)) ≤ left)
  | a :: w, b :: o, left =>
    if a = b then within w o left
    else if (decide (left ≥ (if upE a b then 1 else 2)) && within w o (left - (if upE a b then 1 else 2))) = true then true
    else if left < 2 then false
    else within w (b :: o) (left - 2) || within (a :: w) o (left - 2)
termination_by w o => w.length + o.length
theorem within_edge {x y : List Nat} (left : Int) (h : x = [] ∨ y = []) : within x y left = decide (2 * ((x.length : Int) + (y.length : Int)) ≤ left) := by
  cases x with
  | nil => rw [within]
  | cons a x => cases y with
    | nil => rw [within]
    | cons b y => rcases h with h | h <;> cases h
theorem up_fit (a : Nat) : (Txt.upper (L2S [a])).length ≤ sizeLine := by have := len_upper (L2S [a]); rw [L2S_len] at this; rw [sizeLine_is]; simp at this; omega
theorem within_ok {prog : Program} {w : World} {g : Heap} (G : Grd (KK w) g) : ∀ (n : Nat) (x y : List Nat) (left : Int), x.length + y.length ≤ n → n ≤ 200 →
    FnD prog w g (.ref 183) (n + 1) [vStr x, vStr y, vInt left] [] (vBool (within x y left)) [] := by
  intro n
  induction n using Nat.strongRecOn with
  | ind n ih =>
    intro x y left hn h200
    refine FnR.of_vars (K := KK w) G (by walk_at "isfn") [(PySem.Str.ofString "word", vStr x), (PySem.Str.ofString "other", vStr y), (PySem.Str.ofString "left", vInt left)] rfl (vals3 fun a b c => rfl) rfl (by with_unfolding_all rfl) fun A F s L rm => ?_
    have zx : x.length ≤ sizeLine := by rw [sizeLine_is]; omega
    have zy : y.length ≤ sizeLine := by rw [sizeLine_is]; omega
    refine Exs.iff (by exact Tst.all (TAll.consO (Tst.eqS (by walk_at "ev") (Ev.cStr (l := []) rfl)) fun _ => TAll.consO (Tst.eqS (by walk_at "ev") (Ev.cStr (l := []) rfl)) fun _ => TAll.nilO)) (fun h => ?_) fun h => ?_
    · have h' : x = [] ∨ y = [] := by simpa using h
      refine Exs.ret (by exact Ev.leI (Ev.mul (by walk_at "ev") (Ev.add (Ev.lenS (by walk_at "ev") (by walk_at "ev") zx) (Ev.lenS (by walk_at "ev") (by walk_at "ev") zy)) (mulOk (.inl (by decide)))) (by walk_at "ev")) ⟨[], .slnil, ?_, rfl⟩
      rw [within_edge left h']
    · have h' : ¬ (x = [] ∨ y = []) := by simpa using h
      obtain ⟨a, x, rfl⟩ : ∃ a x', x = a :: x' := by cases x with | nil => exact absurd (.inl rfl) h' | cons a x => exact ⟨a, x, rfl⟩
      obtain ⟨b, y, rfl⟩ : ∃ b y', y = b :: y' := by cases y with | nil => exact absurd (.inr rfl) h' | cons b y => exact ⟨b, y, rfl⟩
      obtain ⟨k, rfl⟩ : ∃ k, n = k + 1 := ⟨n - 1, by simp at hn; omega⟩
      have i1 := fun l => ih k (Nat.lt_succ_self k) x y l (by simp at hn; omega) (by omega)
      have i2 := fun l => ih k (Nat.lt_succ_self k) x (b :: y) l (by simp at hn ⊢; omega) (by omega)
      have i3 := fun l => ih k (Nat.lt_succ_self k) (a :: x) y l (by simp at hn ⊢; omega) (by omega)
      clear ih
      refine Exs.nil (Exs.iff (by exact Tst.eqS (Ev.atS (k := 0) (by walk_at "ev") (by exact Ev.cInt) rfl zx) (Ev.atS (k := 0) (by walk_at "ev") (by exact Ev.cInt) rfl zy)) (fun h2 => ?_) fun h2 => ?_)
      · have hab : a = b := by have : ([a] == [b]) = true := h2; simpa using this
        refine Exs.ret (by exact Ev.callP (K := KK w) G (by walk_at "isfn") (by walk_at "ev") (EvAll.cons (Ev.tailS (by walk_at "ev") (by walk_at "ev") zx) (EvAll.cons (Ev.tailS (by walk_at "ev") (by walk_at "ev") zy) (EvAll.cons (by walk_at "ev") EvAll.nil))) (i1 left) rm.in_) ⟨[], .slnil, ?_, rfl⟩
        rw [within, if_pos hab]
      · have hab : a ≠ b := by have : ([a] == [b]) = false := h2; simpa using this
        have hw : within (a :: x) (b :: y) left = (if (decide (left ≥ (if upE a b then 1 else 2)) && within x y (left - (if upE a b then 1 else 2))) = true then true else if left < 2 then false else within x (b :: y) (left - 2) || within (a :: x) y (left - 2)) := by rw [within, if_neg hab]
        rw [hw]
        refine Exs.nil (Exs.assign (p := vInt (if upE a b then 1 else 2)) (by exact Ev.ifx (c := upE a b) (Tst.eqS (Ev.upper (Ev.atS (k := 0) (by walk_at "ev") (by exact Ev.cInt) rfl zx) (up_fit a)) (Ev.upper (Ev.atS (k := 0) (by walk_at "ev") (by exact Ev.cInt) rfl zy) (up_fit b))) (fun hq => Ev.eq Ev.cInt (by rw [if_pos hq])) (fun hq => Ev.eq Ev.cInt (by rw [hq]; rfl))) (As.name (by walk_at "put")) ?_)
        generalize (if upE a b = true then (1 : Int) else 2) = toll
        refine Exs.iff (by exact Tst.all (TAll.consA (by walk_at "tst") fun _ => TAll.consA (Tst.bool (Ev.callP (K := KK w) G (by walk_at "isfn") (by walk_at "ev") (EvAll.cons (Ev.tailS (by walk_at "ev") (by walk_at "ev") zx) (EvAll.cons (Ev.tailS (by walk_at "ev") (by walk_at "ev") zy) (EvAll.cons (by walk_at "ev") EvAll.nil))) (i1 (left - toll)) rm.in_) (fun _ => rfl)) fun _ => TAll.nilA)) (fun h3 => ?_) fun h3 => ?_
        · rw [Bool.and_true] at h3
          refine Exs.ret Ev.cBool ⟨[], .slnil, ?_, rfl⟩
          rw [if_pos h3]
        · rw [Bool.and_true] at h3
          rw [if_neg (by rw [h3]; decide)]
          refine Exs.nil (Exs.iff (by walk_at "tst") (fun h4 => ?_) fun h4 => ?_)
          · refine Exs.ret Ev.cBool ⟨[], .slnil, ?_, rfl⟩
            rw [if_pos (of_decide_eq_true h4)]
          · rw [if_neg (of_decide_eq_false h4)]
            refine Exs.nil (Exs.ret (by exact Ev.orB (Ev.callP (K := KK w) G (by walk_at "isfn") (by walk_at "ev") (EvAll.cons (Ev.tailS (by walk_at "ev") (by walk_at "ev") zx) (EvAll.cons (by walk_at "ev") (EvAll.cons (by walk_at "ev") EvAll.nil))) (i2 (left - 2)) rm.in_) fun _ => Ev.callP (K := KK w) G (by walk_at "isfn") (by walk_at "ev") (EvAll.cons (by walk_at "ev") (EvAll.cons (Ev.tailS (by walk_at "ev") (by walk_at "ev") zy) (EvAll.cons (by walk_at "ev") EvAll.nil))) (i3 (left - 2)) rm.in_) ⟨[], .slnil, rfl, rfl⟩)
noncomputable def costFrom (x y : List Nat) : Nat → Nat → Nat
  | l, 0 => 5
  | l, n + 1 => if within x y (l : Int) then l else costFrom x y (l + 1) n
noncomputable def costOf (x y : List Nat) : Nat := costFrom x y 0 5
theorem cost_ok {prog : Program} {w : World} {g : Heap} (G : Grd (KK w) g) (x y : List Nat) (hx : x.length ≤ 60) (hy : y.length ≤ 60) :
    FnD prog w g (.ref 190) 130 [vStr x, vStr y] [] (vInt (costOf x y : Int)) [] := by
  refine FnR.of_vars (K := KK w) G (by walk_at "isfn") [(PySem.Str.ofString "word", vStr x), (PySem.Str.ofString "other", vStr y)] rfl (vals2 fun a b => rfl) rfl (by with_unfolding_all rfl) fun A F s L rm => ?_
  refine Exs.forI (EvIter.rangeN (a := 0) (b := 5) (by exact Ev.range1 (by walk_at "ev") (by exact Ev.cInt)) calm_name (Nat.le_of_ble_eq_true rfl) (Nat.le_of_ble_eq_true rfl))
    (fun k σ => costOf x y = costFrom x y k (5 - k) ∧ σ = { vars := [(PySem.Str.ofString "word", vStr x), (PySem.Str.ofString "other", vStr y)] })
    ⟨_, by walk_at "wk", rfl, rfl⟩ (fun k p pv σk hp hi => ?_) fun σk hi => ?_
  · obtain ⟨hc, rfl⟩ := hi
    obtain ⟨hk, rfl⟩ := rangeN_at hp
    rw [show 0 + k = k from Nat.zero_add k]
    have hw := within_ok (prog := prog) (w := w) G 128 x y (k : Int) (by omega) (by decide)
    rw [show 5 - k = (5 - (k + 1)) + 1 from by omega, costFrom] at hc
    refine ⟨_, As.name (by walk_at "put"), ?_⟩
    refine Exs.iff (Tst.bool (by exact Ev.callP (K := KK w) (p := vBool (within x y (k : Int))) G (by walk_at "isfn") (by walk_at "ev") (EvAll.cons (by walk_at "ev") (EvAll.cons (by walk_at "ev") (EvAll.cons (by walk_at "ev") EvAll.nil))) hw rm.in_) (fun _ => rfl)) (fun h => ?_) fun h => ?_
    · refine Exs.ret (by walk_at "ev") ⟨[], .slnil, ?_, rfl⟩
      rw [hc, if_pos h]
    · rw [if_neg (by rw [h]; decide)] at hc
      exact Exs.nil (Exs.nil ⟨_, by walk_at "wk", hc, rfl⟩)
  · obtain ⟨hc, rfl⟩ := hi
    rw [List.length_map, List.length_range, Nat.sub_zero, Nat.sub_self, costFrom] at hc
    refine Exs.ret Ev.cInt ⟨[], .slnil, ?_, rfl⟩
    rw [hc]; rfl
/-! a written word is read back -/
theorem inQ_cons (tk : List Nat) (c : Nat) (r : List Nat) : inQ tk (c :: r) = (if c = 34 then some (tk, r) else if c = 92 then (match r with
      | [] => none
      | e :: r => inQ (tk ++ [e]) r) else inQ (tk ++ [c]) r) := by rw [inQ.eq_def]; try (cases r <;> rfl)
theorem inB_cons (tk : List Nat) (c : Nat) (r : List Nat) : inB tk (c :: r) = (if isWs c then some (tk, r) else if c = 92 then (match r with
      | [] => none
      | e :: r => inB (tk ++ [e]) r) else inB (tk ++ [c]) r) := by rw [inB.eq_def]; try (cases r <;> rfl)
theorem tok_cons (c : Nat) (r : List Nat) : tok (c :: r) = (if isWs c then tok r else if c = 34 then inQ [] r else if c = 92 then (match r with
      | [] => none
      | e :: r => inB [e] r) else inB [c] r) := by rw [tok.eq_def]; try (cases r <;> rfl)
noncomputable def pFree (q ne : Bool) (c : Nat) : Bool := if q then !isIn [c] [92, 34] else (!isIn [c] [92, 32, 9, 10, 13] && ([c] != [34] || ne))
noncomputable def enc (q odd : Bool) : Bool → List Nat → List Nat
  | _, [] => []
  | ne, c :: r => (if odd || !pFree q ne c then [92, c] else [c]) ++ enc q odd true r
theorem app_ne' (l : List Nat) (x : Nat) : ((l ++ [x]) != []) = true := by cases l <;> rfl
theorem fold_enc (q odd : Bool) : ∀ (l told : List Nat), l.foldl (wStep q odd) told = told ++ enc q odd (told != []) l
  | [], told => by simp [enc]
  | c :: r, told => by
    rw [List.foldl_cons, fold_enc q odd r]
    have h1 : wStep q odd told c = told ++ (if odd || !pFree q (told != []) c then [92, c] else [c]) := by
      unfold wStep
      have : wFree q told c = pFree q (told != []) c := by unfold wFree pFree; rfl
      rw [this]
      split <;> simp
    have h2 : (wStep q odd told c != []) = true := by unfold wStep; exact app_ne' _ c
    rw [h2, h1, enc, List.append_assoc]
theorem wBody_enc (q odd : Bool) (x : List Nat) : wBody q odd x = enc q odd false x := by
  unfold wBody; rw [fold_enc]; rfl
theorem not_in {c : Nat} {l : List Nat} (h : (!isIn [c] l) = true) : c ∉ l := by
  rw [isIn_one] at h
  intro q
  rw [decide_eq_true q] at h
  cases h
theorem inQ_enc (odd : Bool) (rest : List Nat) : ∀ (l tk : List Nat) (ne : Bool), inQ tk (enc true odd ne l ++ 34 :: rest) = some (tk ++ l, rest)
  | [], tk, ne => by
    show inQ tk (34 :: rest) = _
    rw [inQ_cons, if_pos rfl, List.append_nil]
  | c :: r, tk, ne => by
    rw [enc]
    by_cases h : (odd || !pFree true ne c) = true
    · rw [if_pos h]
      show inQ tk (92 :: c :: (enc true odd true r ++ 34 :: rest)) = _
      rw [inQ_cons, if_neg (by decide), if_pos rfl]
      show inQ (tk ++ [c]) _ = _
      rw [inQ_enc odd rest r (tk ++ [c]) true, List.append_assoc]; rfl
    · rw [if_neg h]
      show inQ tk (c :: (enc true odd true r ++ 34 :: rest)) = _
      have hf : pFree true ne c = true := by
        cases hp : pFree true ne c with
        | true => rfl
        | false => rw [hp] at h; simp at h
      have hc := not_in (l := [92, 34]) (by unfold pFree at hf; rw [if_pos rfl] at hf; exact hf)
      have h34 : ¬ c = 34 := fun q => hc (by rw [q]; decide)
      have h92 : ¬ c = 92 := fun q => hc (by rw [q]; decide)
      rw [inQ_cons, if_neg h34, if_neg h92, inQ_enc odd rest r (tk ++ [c]) true, List.append_assoc]; rfl
theorem inB_enc (odd : Bool) (e : Nat) (he : isWs e = true) (rest : List Nat) : ∀ (l tk : List Nat), inB tk (enc false odd true l ++ e :: rest) = some (tk ++ l, rest)
  | [], tk => by
    show inB tk (e :: rest) = _
    rw [inB_cons, if_pos he]; simp
  | c :: r, tk => by
    rw [enc]
    by_cases h : (odd || !pFree false true c) = true
    · rw [if_pos h]
      show inB tk (92 :: c :: (enc false odd true r ++ e :: rest)) = _
      rw [inB_cons, if_neg (by decide), if_pos rfl]
      show inB (tk ++ [c]) _ = _
      rw [inB_enc odd e he rest r (tk ++ [c]), List.append_assoc]; rfl
    · rw [if_neg h]
      show inB tk (c :: (enc false odd true r ++ e :: rest)) = _
      have hf : pFree false true c = true := by
        cases hp : pFree false true c with
        | true => rfl
        | false => rw [hp] at h; simp at h
      have hc := not_in (l := [92, 32, 9, 10, 13]) (by
        unfold pFree at hf
        rw [if_neg (by decide)] at hf
        exact (Bool.and_eq_true _ _ ▸ hf).1)
      have h92 : ¬ c = 92 := fun q => hc (by rw [q]; decide)
      have hw : ¬ isWs c = true := fun q => hc (by
        have := of_decide_eq_true q
        simp at this ⊢; first | lia | omega)
      rw [inB_cons, if_neg hw, if_neg h92, inB_enc odd e he rest r (tk ++ [c]), List.append_assoc]; rfl
theorem tok_written (x : List Nat) (m : Int) (e : Nat) (he : isWs e = true) (rest : List Nat) : tok (written x m [e] ++ rest) = some (x, rest) := by
  unfold written
  rw [wBody_enc]
  cases hq : wQuo m x with
  | true =>
    rw [if_pos rfl]
    show tok (34 :: (enc true (wOdd m) false x ++ [34]) ++ rest) = _
    rw [show 34 :: (enc true (wOdd m) false x ++ [34]) ++ rest = 34 :: (enc true (wOdd m) false x ++ 34 :: rest) from by simp]
    rw [tok_cons, if_neg (by decide), if_pos rfl, inQ_enc]; rfl
  | false =>
    rw [if_neg (by decide)]
    cases x with
    | nil => unfold wQuo at hq; simp at hq
    | cons c r =>
      rw [enc]
      by_cases h : (wOdd m || !pFree false false c) = true
      · rw [if_pos h]
        rw [show [92, c] ++ enc false (wOdd m) true r ++ [e] ++ rest = 92 :: c :: (enc false (wOdd m) true r ++ e :: rest) from by simp]
        rw [tok_cons, if_neg (by decide), if_neg (by decide), if_pos rfl]
        show inB [c] _ = _
        rw [inB_enc _ e he]; rfl
      · rw [if_neg h]
        rw [show [c] ++ enc false (wOdd m) true r ++ [e] ++ rest = c :: (enc false (wOdd m) true r ++ e :: rest) from by simp]
        have hf : pFree false false c = true := by
          cases hp : pFree false false c with
          | true => rfl
          | false => rw [hp] at h; simp at h
        unfold pFree at hf
        rw [if_neg (by decide)] at hf
        obtain ⟨hf1, hf2⟩ := (Bool.and_eq_true _ _ ▸ hf : _ ∧ _)
        have hc := not_in (l := [92, 32, 9, 10, 13]) hf1
        have h92 : ¬ c = 92 := fun q => hc (by rw [q]; decide)
        have h34 : ¬ c = 34 := by simpa using hf2
        have hw : ¬ isWs c = true := fun q => hc (by
          have := of_decide_eq_true q
          simp at this ⊢; first | lia | omega)
        rw [tok_cons, if_neg hw, if_neg h34, if_neg h92, inB_enc _ e he]; rfl
/-! a lead's columns are its indent levels -/
noncomputable def stepN (ts c : Int) (n : Nat) : Int := (c + n) + ts - (c + n).fmod ts
noncomputable def gl (ts : Int) : Int → List Nat → Int
  | c, [] => c
  | c, [n] => c + n
  | c, n :: m :: r => gl ts (stepN ts c n) (m :: r)
noncomputable def lens (x : List Nat) : List Nat := (spl 9 x).map List.length
noncomputable def addHead (b : Nat) : List Nat → List Nat
  | [] => []
  | n :: r => (n + b) :: r
noncomputable def colR (ts : Int) : Int → Nat → List Nat → Int
  | c, b, [] => c + b
  | c, b, d :: r => if d = 9 then colR ts (stepN ts c b) 0 r else colR ts c (b + 1) r
theorem lens_ne (x : List Nat) : lens x ≠ [] := by unfold lens; simp [spl_ne]
theorem gl_cons (ts c : Int) (n : Nat) (l : List Nat) (h : l ≠ []) : gl ts c (n :: l) = gl ts (stepN ts c n) l := by
  cases l with
  | nil => exact absurd rfl h
  | cons m r => rfl
theorem colR_gl (ts : Int) : ∀ (x : List Nat) (c : Int) (b : Nat), colR ts c b x = gl ts c (addHead b (lens x))
  | [], c, b => by simp [lens, spl, addHead, gl, colR]
  | d :: r, c, b => by
    rw [colR]
    by_cases h : d = 9
    · rw [if_pos h, colR_gl ts r]
      have e : lens (d :: r) = 0 :: lens r := by unfold lens; rw [spl, if_pos h]; rfl
      rw [e]
      show _ = gl ts c ((0 + b) :: lens r)
      rw [gl_cons _ _ _ _ (lens_ne r), Nat.zero_add]
      congr 1
      cases hl : lens r with
      | nil => exact absurd hl (lens_ne r)
      | cons m s => rfl
    · rw [if_neg h, colR_gl ts r]
      congr 1
      unfold lens
      rw [show spl 9 (d :: r) = match spl 9 r with | [] => [[d]] | p :: ps => (d :: p) :: ps from by rw [spl, if_neg h]; try rfl]
      cases hs : spl 9 r with
      | nil => exact absurd hs (spl_ne 9 r)
      | cons p ps => simp [addHead]; first | lia | omega
theorem colAt_gl (ts : Int) : ∀ (runs : List (List Nat)) (c : Int), runs ≠ [] → runs.dropLast.foldl (colStep ts) c + (runs.getLastD []).length = gl ts c (runs.map List.length)
  | [], _, h => absurd rfl h
  | [p], c, _ => by simp [gl, List.getLastD]
  | p :: q :: r, c, _ => by
    have ih := colAt_gl ts (q :: r) (colStep ts c p) (by simp)
    rw [List.dropLast_cons_of_ne_nil (by simp), List.foldl_cons]
    rw [show ((p :: q :: r).getLastD []) = ((q :: r).getLastD []) from by simp [List.getLastD]]
    rw [ih]; rfl
theorem addHead_zero (l : List Nat) : addHead 0 l = l := by cases l <;> rfl
theorem colAt_R (x : List Nat) (ts : Int) : colAt (splitL x [9]) ts = colR ts 0 0 x := by
  rw [colR_gl, addHead_zero, splitL_spl]
  exact colAt_gl ts (spl 9 x) 0 (spl_ne 9 x)
noncomputable def Wf (ts : Nat) : Nat → List Nat → Int
  | _, [] => 0
  | i, c :: r => ((i / ts : Nat) : Int) * (c : Int) + Wf ts (i + 1) r
theorem Wf_app (ts : Nat) : ∀ (a b : List Nat) (i : Nat), Wf ts i (a ++ b) = Wf ts i a + Wf ts (i + a.length) b
  | [], b, i => by simp [Wf]
  | c :: a, b, i => by
    rw [List.cons_append, Wf, Wf, Wf_app ts a b (i + 1), List.length_cons, show i + (a.length + 1) = i + 1 + a.length from by first | lia | omega]
    first | lia | omega
theorem Wf_zero (ts : Nat) : ∀ (n i : Nat), Wf ts i (List.replicate n 0) = 0
  | 0, i => rfl
  | n + 1, i => by rw [List.replicate_succ, Wf, Wf_zero ts n (i + 1)]; simp
theorem Wf_set (ts : Nat) : ∀ (l : List Nat) (i b : Nat), b < l.length → Wf ts i (l.set b (l.getD b 0 + 1)) = Wf ts i l + (((i + b) / ts : Nat) : Int)
  | [], i, b, h => by simp at h
  | c :: l, i, 0, _ => by
    show Wf ts i ((c + 1) :: l) = _
    have : (((c + 1 : Nat)) : Int) = (c : Int) + 1 := by first | lia | omega
    rw [Wf, Wf, show i + 0 = i from rfl, this, Int.mul_add]; first | lia | omega
  | c :: l, i, b + 1, h => by
    have ih := Wf_set ts l (i + 1) b (by simp at h; first | lia | omega)
    show Wf ts i (c :: l.set b (l.getD b 0 + 1)) = _
    rw [Wf, Wf, ih, show i + 1 + b = i + (b + 1) from by first | lia | omega]; first | lia | omega
theorem Wf_low (ts : Nat) : ∀ (l : List Nat) (i : Nat), i + l.length ≤ ts → Wf ts i l = 0
  | [], i, _ => rfl
  | c :: l, i, h => by
    rw [Wf, Wf_low ts l (i + 1) (by simp at h; first | lia | omega), Nat.div_eq_of_lt (by simp at h; first | lia | omega)]; simp
theorem ilSum_Wf (l : List Nat) (ts : Nat) (h1 : 1 ≤ ts) : ∀ k, k ≤ l.length - ts → ilSum l ts k = Wf ts ts ((l.drop ts).take k)
  | 0, _ => by simp [ilSum, Wf]
  | k + 1, h => by
    have hk : ts + k < l.length := by first | lia | omega
    have hd : (l.drop ts)[k]? = some (l.getD (ts + k) 0) := by
      rw [List.getElem?_drop, List.getElem?_eq_getElem hk]
      simp [List.getD, List.getElem?_eq_getElem hk]
    rw [ilSum, ilSum_Wf l ts h1 k (by first | lia | omega), take_snoc hd, Wf_app]
    have hl : ((l.drop ts).take k).length = k := by rw [List.length_take, List.length_drop]; first | lia | omega
    rw [hl, Wf, Wf]
    have : ((ts + k : Nat) : Int).fdiv ts = (((ts + k) / ts : Nat) : Int) := by
      rw [Int.fdiv_eq_ediv_of_nonneg _ (by first | lia | omega)]; rfl
    rw [this]; first | lia | omega
theorem ilSum_all (l : List Nat) (ts : Nat) (h1 : 1 ≤ ts) : ilSum l ts (l.length - ts) = Wf ts 0 l := by
  rw [ilSum_Wf l ts h1 _ (Nat.le_refl _)]
  have e : (l.drop ts).take (l.length - ts) = l.drop ts := by rw [← List.length_drop]; exact List.take_length
  rw [e]
  have h2 : Wf ts 0 l = Wf ts 0 (l.take ts) + Wf ts (0 + (l.take ts).length) (l.drop ts) := by rw [← Wf_app, List.take_append_drop]
  rw [h2, Wf_low ts (l.take ts) 0 (by rw [List.length_take]; omega), Int.zero_add, Nat.zero_add, List.length_take]
  by_cases hl : ts ≤ l.length
  · rw [Nat.min_eq_left hl]
  · rw [List.drop_eq_nil_of_le (by omega)]; simp [Wf]
theorem Wf_pad (ts : Nat) (u : WS) : Wf ts 0 u.pad = Wf ts 0 u.count := by
  unfold WS.pad
  split
  · rw [Wf_app, Wf_zero]; first | lia | omega
  · rfl
theorem Wf_tab (ts : Nat) (u : WS) : Wf ts 0 u.tab.count = Wf ts 0 u.count + ((u.b / ts : Nat) : Int) := by
  unfold WS.tab
  show Wf ts 0 (u.pad.set u.b (u.pad.getD u.b 0 + 1)) = _
  rw [Wf_set ts u.pad 0 u.b (WS.pad_len u).1, Wf_pad, Nat.zero_add]
theorem indent_R (ts : Nat) (h1 : 1 ≤ ts) : ∀ (x : List Nat) (u : WS), (∀ c ∈ x, c = 32 ∨ c = 9) → indentOf (WS.run u x) ts = colR ts ((ts : Int) * (Wf ts 0 u.count + (u.nt : Int))) u.b x
  | [], u, _ => by
    unfold WS.run indentOf colR
    rw [ilSum_all _ _ h1]; first | lia | omega
  | c :: r, u, h => by
    have hr : ∀ d ∈ r, d = 32 ∨ d = 9 := fun d hd => h d (List.mem_cons_of_mem _ hd)
    rw [WS.run, colR]
    by_cases h32 : c = 32
    · rw [if_pos h32, if_neg (by first | lia | omega), indent_R ts h1 r _ hr]
    · have h9 : c = 9 := (h c List.mem_cons_self).resolve_left h32
      rw [if_neg h32, if_pos h9, if_pos h9, indent_R ts h1 r _ hr, Wf_tab]
      congr 1
      show (ts : Int) * (Wf ts 0 u.count + ((u.b / ts : Nat) : Int) + ((u.nt + 1 : Nat) : Int)) = stepN ts ((ts : Int) * (Wf ts 0 u.count + (u.nt : Int))) u.b
      unfold stepN
      have hm : ((ts : Int) * (Wf ts 0 u.count + (u.nt : Int)) + (u.b : Int)).fmod ts = ((u.b % ts : Nat) : Int) := by
        rw [Int.fmod_eq_emod_of_nonneg _ (by first | lia | omega), Int.add_comm, Int.add_mul_emod_self_left]; rfl
      rw [hm]
      have hd : (u.b : Int) = (ts : Int) * ((u.b / ts : Nat) : Int) + ((u.b % ts : Nat) : Int) := by
        have := Nat.div_add_mod u.b ts
        rw [← Int.natCast_mul, ← Int.natCast_add, this]
      have e1 : ((u.nt + 1 : Nat) : Int) = (u.nt : Int) + 1 := by first | lia | omega
      rw [e1]
      simp only [Int.mul_add, Int.mul_one]
      first | lia | omega
/-- the column at a tab size is the indent level -/
theorem indent_col (x : List Nat) (ts : Nat) (h1 : 1 ≤ ts) (h : ∀ c ∈ x, c = 32 ∨ c = 9) : indentOf (wsOf x) ts = colAt (splitL x [9]) ts := by
  rw [colAt_R]
  unfold wsOf
  rw [indent_R ts h1 x _ h]
  simp [Wf]
/-! the least cost as a distance -/
noncomputable def dist {α β : Type} (c : α → β → Int) : List α → List β → Int
  | [], ys => 2 * (ys.length : Int)
  | x :: xs, [] => 2 * ((x :: xs).length : Int)
  | x :: xs, y :: ys => min (min (2 + dist c xs (y :: ys)) (2 + dist c (x :: xs) ys)) (c x y + dist c xs ys)
termination_by x y => x.length + y.length
theorem dist_nil {α β : Type} (c : α → β → Int) (ys : List β) : dist c [] ys = 2 * (ys.length : Int) := by rw [dist]
theorem dist_nil' {α β : Type} (c : α → β → Int) (xs : List α) : dist c xs [] = 2 * (xs.length : Int) := by cases xs <;> rw [dist]; simp
theorem dist_cons {α β : Type} (c : α → β → Int) (x : α) (xs : List α) (y : β) (ys : List β) : dist c (x :: xs) (y :: ys) = min (min (2 + dist c xs (y :: ys)) (2 + dist c (x :: xs) ys)) (c x y + dist c xs ys) := by rw [dist]
theorem dist_map {α β γ δ : Type} (c : γ → δ → Int) (f : α → γ) (g : β → δ) : ∀ (xs : List α) (ys : List β), dist c (xs.map f) (ys.map g) = dist (fun x y => c (f x) (g y)) xs ys
  | [], ys => by rw [List.map_nil, dist_nil, dist_nil, List.length_map]
  | x :: xs, [] => by rw [List.map_nil, dist_nil', dist_nil', List.length_map]
  | x :: xs, y :: ys => by
    rw [List.map_cons, List.map_cons, dist_cons, dist_cons, ← dist_map c f g xs ys, ← dist_map c f g xs (y :: ys), ← dist_map c f g (x :: xs) ys]; rfl
termination_by xs ys => xs.length + ys.length
theorem dist_congr {α β : Type} {c d : α → β → Int} : ∀ (xs : List α) (ys : List β), (∀ x ∈ xs, ∀ y ∈ ys, c x y = d x y) → dist c xs ys = dist d xs ys
  | [], ys, _ => by rw [dist_nil, dist_nil]
  | x :: xs, [], _ => by rw [dist_nil', dist_nil']
  | x :: xs, y :: ys, h => by
    rw [dist_cons, dist_cons, dist_congr xs ys fun a ha b hb => h a (List.mem_cons_of_mem _ ha) b (List.mem_cons_of_mem _ hb), dist_congr xs (y :: ys) fun a ha b hb => h a (List.mem_cons_of_mem _ ha) b hb,
      dist_congr (x :: xs) ys fun a ha b hb => h a ha b (List.mem_cons_of_mem _ hb), h x List.mem_cons_self y List.mem_cons_self]
termination_by xs ys => xs.length + ys.length
theorem dist_ins {α β : Type} (c : α → β → Int) (xs : List α) (y : β) (ys : List β) : dist c xs (y :: ys) ≤ 2 + dist c xs ys := by
  cases xs with
  | nil => rw [dist_nil, dist_nil]; simp; omega
  | cons x xs => rw [dist_cons]; omega
theorem dist_del {α β : Type} (c : α → β → Int) (x : α) (xs : List α) (ys : List β) : dist c (x :: xs) ys ≤ 2 + dist c xs ys := by
  cases ys with
  | nil => rw [dist_nil', dist_nil']; simp; omega
  | cons y ys => rw [dist_cons]; omega
/-! alignments -/
inductive Al {α β : Type} (c : α → β → Int) : List α → List β → Int → Prop
  | nil : Al c [] [] 0
  | del {xs ys n} (x : α) : Al c xs ys n → Al c (x :: xs) ys (2 + n)
  | ins {xs ys n} (y : β) : Al c xs ys n → Al c xs (y :: ys) (2 + n)
  | sub {xs ys n} (x : α) (y : β) : Al c xs ys n → Al c (x :: xs) (y :: ys) (c x y + n)
theorem Al.eq {α β : Type} {c : α → β → Int} {xs : List α} {ys : List β} {n m : Int} (h : Al c xs ys n) (e : n = m) : Al c xs ys m := e ▸ h
theorem al_ins {α β : Type} (c : α → β → Int) : ∀ ys : List β, Al c ([] : List α) ys (2 * (ys.length : Int))
  | [] => .nil
  | y :: ys => (al_ins c ys).ins y |>.eq (by simp; first | lia | omega)
theorem al_del {α β : Type} (c : α → β → Int) : ∀ xs : List α, Al c xs ([] : List β) (2 * (xs.length : Int))
  | [] => .nil
  | x :: xs => (al_del c xs).del x |>.eq (by simp; first | lia | omega)
theorem al_dist {α β : Type} (c : α → β → Int) : ∀ (xs : List α) (ys : List β), Al c xs ys (dist c xs ys)
  | [], ys => by rw [dist_nil]; exact al_ins c ys
  | x :: xs, [] => by rw [dist_nil']; exact al_del c (x :: xs)
  | x :: xs, y :: ys => by
    have h1 := (al_dist c xs (y :: ys)).del x
    have h2 := (al_dist c (x :: xs) ys).ins y
    have h3 := (al_dist c xs ys).sub x y
    rw [dist_cons]
    have : (min (min (2 + dist c xs (y :: ys)) (2 + dist c (x :: xs) ys)) (c x y + dist c xs ys) = 2 + dist c xs (y :: ys)) ∨ (min (min (2 + dist c xs (y :: ys)) (2 + dist c (x :: xs) ys)) (c x y + dist c xs ys) = 2 + dist c (x :: xs) ys) ∨ (min (min (2 + dist c xs (y :: ys)) (2 + dist c (x :: xs) ys)) (c x y + dist c xs ys) = c x y + dist c xs ys) := by first | lia | omega
    rcases this with h | h | h <;> rw [h]
    · exact h1
    · exact h2
    · exact h3
termination_by xs ys => xs.length + ys.length
theorem dist_al {α β : Type} {c : α → β → Int} {xs : List α} {ys : List β} {n : Int} (h : Al c xs ys n) : dist c xs ys ≤ n := by
  induction h with
  | nil => rw [dist_nil]; simp
  | @del xs ys n x _ ih => have := dist_del c x xs ys; first | lia | omega
  | @ins xs ys n y _ ih => have := dist_ins c xs y ys; first | lia | omega
  | sub x y _ ih => rw [dist_cons]; first | lia | omega
theorem al_app {α β : Type} {c : α → β → Int} {xs : List α} {ys : List β} {n : Int} (h : Al c xs ys n) {xs' : List α} {ys' : List β} {m : Int} (h' : Al c xs' ys' m) : Al c (xs ++ xs') (ys ++ ys') (n + m) := by
  induction h with
  | nil => exact h'.eq (by first | lia | omega)
  | del x _ ih => exact (ih.del x).eq (by first | lia | omega)
  | ins y _ ih => exact (ih.ins y).eq (by first | lia | omega)
  | sub x y _ ih => exact (ih.sub x y).eq (by first | lia | omega)
theorem al_rev {α β : Type} {c : α → β → Int} {xs : List α} {ys : List β} {n : Int} (h : Al c xs ys n) : Al c xs.reverse ys.reverse n := by
  induction h with
  | nil => exact .nil
  | del x _ ih => rw [List.reverse_cons]; have := al_app ih (Al.nil.del (c := c) x); rw [List.append_nil] at this; exact this.eq (by first | lia | omega)
  | ins y _ ih => rw [List.reverse_cons]; have := al_app ih (Al.nil.ins (c := c) y); rw [List.append_nil] at this; exact this.eq (by first | lia | omega)
  | sub x y _ ih => rw [List.reverse_cons, List.reverse_cons]; exact (al_app ih (Al.nil.sub (c := c) x y)).eq (by first | lia | omega)
theorem al_sym {α β : Type} {c : α → β → Int} {xs : List α} {ys : List β} {n : Int} (h : Al c xs ys n) : Al (fun y x => c x y) ys xs n := by
  induction h with
  | nil => exact .nil
  | del x _ ih => exact ih.ins x
  | ins y _ ih => exact ih.del y
  | sub x y _ ih => exact ih.sub y x
theorem dist_rev {α β : Type} (c : α → β → Int) (xs : List α) (ys : List β) : dist c xs.reverse ys.reverse = dist c xs ys := by
  apply Int.le_antisymm
  · exact dist_al (al_rev (al_dist c xs ys))
  · have := dist_al (al_rev (al_dist c xs.reverse ys.reverse))
    rw [List.reverse_reverse, List.reverse_reverse] at this; exact this
theorem dist_sym {α β : Type} (c : α → β → Int) (xs : List α) (ys : List β) : dist (fun y x => c x y) ys xs = dist c xs ys := by
  apply Int.le_antisymm
  · exact dist_al (al_sym (al_dist c xs ys))
  · exact dist_al (al_sym (al_dist (fun y x => c x y) ys xs))
theorem al_rem {α β : Type} {c : α → β → Int} (h0 : ∀ x y, 0 ≤ c x y) {xs : List α} {zs : List β} {n : Int} (h : Al c xs zs n) : ∀ y ys, zs = y :: ys → ∃ m, m ≤ 2 + n ∧ Al c xs ys m := by
  induction h with
  | nil => intro y ys e; cases e
  | del x _ ih => intro y ys e; obtain ⟨m, hm, ha⟩ := ih y ys e; exact ⟨2 + m, by first | lia | omega, ha.del x⟩
  | ins z h ih => intro y ys e; cases e; exact ⟨_, by first | lia | omega, h⟩
  | sub x z h ih => intro y ys e; cases e; exact ⟨_, by have := h0 x z; first | lia | omega, h.del x⟩
theorem dist_rem {α β : Type} {c : α → β → Int} (h0 : ∀ x y, 0 ≤ c x y) (xs : List α) (y : β) (ys : List β) : dist c xs ys ≤ 2 + dist c xs (y :: ys) := by
  obtain ⟨m, hm, ha⟩ := al_rem h0 (al_dist c xs (y :: ys)) y ys rfl
  have := dist_al ha; first | lia | omega
theorem dist_rem' {α β : Type} {c : α → β → Int} (h0 : ∀ x y, 0 ≤ c x y) (x : α) (xs : List α) (ys : List β) : dist c xs ys ≤ 2 + dist c (x :: xs) ys := by
  have := dist_rem (c := fun y x => c x y) (fun y x => h0 x y) ys x xs
  rw [dist_sym c xs ys, dist_sym c (x :: xs) ys] at this; exact this
theorem al_low {α β : Type} {c : α → β → Int} (h0 : ∀ x y, 0 ≤ c x y) {xs : List α} {ys : List β} {n : Int} (h : Al c xs ys n) : 2 * ((ys.length : Int) - (xs.length : Int)) ≤ n := by
  induction h with
  | nil => simp
  | del x _ ih => simp; first | lia | omega
  | ins y _ ih => simp; first | lia | omega
  | sub x y _ ih => have := h0 x y; simp; first | lia | omega
theorem dist_low {α β : Type} {c : α → β → Int} (h0 : ∀ x y, 0 ≤ c x y) (xs : List α) (ys : List β) : 2 * ((ys.length : Int) - (xs.length : Int)) ≤ dist c xs ys := al_low h0 (al_dist c xs ys)
theorem dist_head {α : Type} {c : α → α → Int} (h0 : ∀ x y, 0 ≤ c x y) (x : α) (hx : c x x = 0) (xs ys : List α) : dist c (x :: xs) (x :: ys) = dist c xs ys := by
  have h1 := dist_rem h0 xs x ys
  have h2 := dist_rem' h0 x xs ys
  rw [dist_cons, hx]; first | lia | omega
/-! _levenshtein_distance gives the distance -/
noncomputable def sc (a b : Nat) : Int := subc [a] [b]
theorem sc_range (a b : Nat) : 0 ≤ sc a b ∧ sc a b ≤ 2 := by unfold sc subc; split <;> (try split) <;> first | lia | omega
theorem sc_self (a : Nat) : sc a a = 0 := by unfold sc subc; rw [if_pos (by simp)]
theorem sc_sym (a b : Nat) : sc a b = sc b a := by
  unfold sc subc
  have h : ∀ x y : List Nat, (x == y) = (y == x) := fun x y => by
    rw [Bool.eq_iff_iff, beq_iff_eq, beq_iff_eq]; exact ⟨Eq.symm, Eq.symm⟩
  rw [h [a] [b], h (S2 (Txt.lower (L2S [a])))]
theorem dist_pre : ∀ (a b : List Nat), dist sc (a.drop (comPre a b)) (b.drop (comPre a b)) = dist sc a b
  | [], b => by simp [comPre]
  | x :: a, [] => by simp [comPre]
  | x :: a, y :: b => by
    unfold comPre
    by_cases h : x = y
    · subst h
      rw [if_pos rfl, List.drop_succ_cons, List.drop_succ_cons, dist_pre a b, dist_head (fun x y => (sc_range x y).1) x (sc_self x)]
    · rw [if_neg h]; rfl
theorem dist_post (a b : List Nat) : dist sc (cutPost a (comPre a.reverse b.reverse)) (cutPost b (comPre a.reverse b.reverse)) = dist sc a b := by
  unfold cutPost
  rw [dist_rev, dist_pre, dist_rev]
section dp
variable (a b : List Nat)
noncomputable def EE (i j : Nat) : Int := dist sc ((b.take i).reverse) ((a.take j).reverse)
theorem EE_left (j : Nat) (h : j ≤ a.length) : EE a b 0 j = 2 * (j : Int) := by
  unfold EE; rw [List.take_zero, List.reverse_nil, dist_nil, List.length_reverse, List.length_take, Nat.min_eq_left h]
theorem EE_right (i : Nat) (h : i ≤ b.length) : EE a b i 0 = 2 * (i : Int) := by
  unfold EE; rw [List.take_zero, List.reverse_nil, dist_nil', List.length_reverse, List.length_take, Nat.min_eq_left h]
theorem EE_succ {i j y x : Nat} (hy : b[i]? = some y) (hx : a[j]? = some x) : EE a b (i + 1) (j + 1) = min (min (2 + EE a b i (j + 1)) (2 + EE a b (i + 1) j)) (sc y x + EE a b i j) := by
  unfold EE
  rw [take_snoc hy, take_snoc hx, List.reverse_append, List.reverse_append]
  show dist sc (y :: (b.take i).reverse) (x :: (a.take j).reverse) = _
  rw [dist_cons]; rfl
noncomputable def rowE (i j : Nat) : List Int := (List.range (a.length - j)).map fun (k : Nat) => EE a b i (j + k + 1)
theorem rowE_cons (i j : Nat) (h : j < a.length) : rowE a b i j = EE a b i (j + 1) :: rowE a b i (j + 1) := by
  unfold rowE
  rw [show a.length - j = (a.length - (j + 1)) + 1 from by first | lia | omega, List.range_succ_eq_map, List.map_cons, List.map_map]
  congr 1
  apply List.map_congr_left
  intro k _
  show EE a b i (j + (k + 1) + 1) = EE a b i (j + 1 + k + 1)
  congr 1; first | lia | omega
theorem lvRow_E {i y : Nat} (hy : b[i]? = some y) : ∀ (d j : Nat), a.length - j = d → lvRow y (EE a b i j) (EE a b (i + 1) j) (a.drop j) (rowE a b i j) = rowE a b (i + 1) j
  | 0, j, h => by
    have e : a.drop j = [] := List.drop_eq_nil_of_le (by first | lia | omega)
    unfold rowE
    rw [e, h]; simp [lvRow]
  | d + 1, j, h => by
    have hj : j < a.length := by first | lia | omega
    have hx : a[j]? = some a[j] := List.getElem?_eq_getElem hj
    rw [drop_at hx, rowE_cons a b i j hj, rowE_cons a b (i + 1) j hj, lvRow]
    have e : min (min (EE a b (i + 1) j) (EE a b i (j + 1)) + 2) (EE a b i j + subc [y] [a[j]]) = EE a b (i + 1) (j + 1) := by
      rw [EE_succ a b hy hx]; unfold sc; first | lia | omega
    rw [e, lvRow_E hy d (j + 1) (by first | lia | omega)]
theorem lvRow_0 {i y : Nat} (hy : b[i]? = some y) (ha : a ≠ []) : lvRow y (2 * (i : Int)) (2 * (i : Int)) a (rowE a b i 0) = rowE a b (i + 1) 0 := by
  have hi : i < b.length := (List.getElem?_eq_some_iff.mp hy).1
  cases a with
  | nil => exact absurd rfl ha
  | cons x a' =>
    have h0 : 0 < (x :: a').length := Nat.succ_pos _
    have h1 := EE_right (x :: a') b i (by omega)
    have h2 := EE_right (x :: a') b (i + 1) (by omega)
    have hs := sc_range y x
    have hr := lvRow_E (x :: a') b hy ((x :: a').length - 1) 1 rfl
    rw [List.drop_succ_cons, List.drop_zero] at hr
    rw [rowE_cons (x :: a') b i 0 h0, rowE_cons (x :: a') b (i + 1) 0 h0]
    have hE := EE_succ (x :: a') b (j := 0) hy (show (x :: a')[0]? = some x from rfl)
    rw [Nat.zero_add] at hE ⊢
    rw [lvRow]
    have e2 : min (min (2 * (i : Int)) (EE (x :: a') b i 1) + 2) (2 * (i : Int) + subc [y] [x]) = EE (x :: a') b (i + 1) 1 := by
      rw [hE, h1, h2]; unfold sc at *; omega
    rw [e2, hr]
theorem minOf_le : ∀ (l : List Int) (m : Int), minOf m l ≤ m ∧ ∀ x ∈ l, minOf m l ≤ x
  | [], m => ⟨Int.le_refl _, fun x h => (List.not_mem_nil h).elim⟩
  | y :: l, m => by
    obtain ⟨h1, h2⟩ := minOf_le l (min m y)
    have e : minOf m (y :: l) = minOf (min m y) l := rfl
    rw [e]
    refine ⟨by first | lia | omega, fun x hx => ?_⟩
    rcases List.mem_cons.mp hx with h | h
    · subst h; first | lia | omega
    · exact h2 x h
theorem gt_cut {i : Nat} {mx : Int} (hi : i < b.length) (ha : a ≠ []) (h : mx < minOf 9223372036854775807 (rowE a b (i + 1) 0)) : ∀ j, j ≤ a.length → mx < EE a b (i + 1) j := by
  have h0 : 0 < a.length := List.length_pos_iff.mpr ha
  have hpos : ∀ j, j < a.length → mx < EE a b (i + 1) (j + 1) := fun j hj => by
    have := (minOf_le (rowE a b (i + 1) 0) 9223372036854775807).2 (EE a b (i + 1) (0 + j + 1)) (List.mem_map.mpr ⟨j, by simpa using hj, rfl⟩)
    rw [Nat.zero_add] at this; first | lia | omega
  intro j hj
  cases j with
  | succ j => exact hpos j (by first | lia | omega)
  | zero =>
    have hx : a[0]? = some a[0] := List.getElem?_eq_getElem h0
    have hy : b[i]? = some b[i] := List.getElem?_eq_getElem hi
    have h1 := EE_right a b i (by first | lia | omega)
    have h2 := EE_right a b (i + 1) (by first | lia | omega)
    have hE := EE_succ a b hy hx
    have hs := sc_range b[i] a[0]
    have := hpos 0 h0
    rw [hE, h1, h2] at this
    rw [h2]; first | lia | omega
theorem gt_step {i : Nat} {mx : Int} (hi : i < b.length) (h : ∀ j, j ≤ a.length → mx < EE a b i j) : ∀ j, j ≤ a.length → mx < EE a b (i + 1) j
  | 0, _ => by
    have := h 0 (Nat.zero_le _)
    rw [EE_right a b i (by first | lia | omega)] at this
    rw [EE_right a b (i + 1) (by first | lia | omega)]; first | lia | omega
  | j + 1, hj => by
    have hx : a[j]? = some a[j] := List.getElem?_eq_getElem (by first | lia | omega)
    have hy : b[i]? = some b[i] := List.getElem?_eq_getElem hi
    have ih := gt_step hi h j (by first | lia | omega)
    have h1 := h j (by first | lia | omega)
    have h2 := h (j + 1) hj
    have hs := sc_range b[i] a[j]
    rw [EE_succ a b hy hx]; first | lia | omega
theorem gt_end {mx : Int} : ∀ (d i : Nat), b.length - i = d → i ≤ b.length → (∀ j, j ≤ a.length → mx < EE a b i j) → mx < EE a b b.length a.length
  | 0, i, hd, hi, h => by
    have : i = b.length := by omega
    subst this; exact h a.length (Nat.le_refl _)
  | d + 1, i, hd, hi, h => gt_end d (i + 1) (by omega) (by omega) (gt_step a b (by omega) h)
theorem lvGo_E {mx : Int} (ha : a ≠ []) : ∀ (d i : Nat), b.length - i = d → i ≤ b.length →
    lvGo a mx i (b.drop i) (rowE a b i 0) = some (rowE a b b.length 0) ∨ (lvGo a mx i (b.drop i) (rowE a b i 0) = none ∧ mx < EE a b b.length a.length)
  | 0, i, hd, hi => by
    have : i = b.length := by first | lia | omega
    subst this
    rw [List.drop_length, lvGo]; exact .inl rfl
  | d + 1, i, hd, hi => by
    have hib : i < b.length := by first | lia | omega
    have hy : b[i]? = some b[i] := List.getElem?_eq_getElem hib
    rw [drop_at hy, lvGo, lvRow_0 a b hy ha]
    by_cases hc : mx < minOf 9223372036854775807 (rowE a b (i + 1) 0)
    · rw [if_pos hc]
      exact .inr ⟨rfl, gt_end a b _ (i + 1) rfl (by first | lia | omega) (gt_cut a b hib ha hc)⟩
    · rw [if_neg hc]
      exact lvGo_E ha d (i + 1) (by first | lia | omega) (by first | lia | omega)
theorem EE_end : EE a b b.length a.length = dist sc a b := by
  unfold EE
  rw [List.take_length, List.take_length, dist_rev, ← dist_sym sc a b]
  exact dist_congr _ _ fun x _ y _ => sc_sym x y
theorem row0_E : row0 a.length = rowE a b 0 0 := by
  unfold row0 rowE
  rw [Nat.sub_zero]
  apply List.map_congr_left
  intro k hk
  have hk' : k < a.length := by simpa using hk
  rw [EE_left a b (0 + k + 1) (by first | lia | omega)]; first | lia | omega
theorem rowE_last (ha : a ≠ []) (i : Nat) : (rowE a b i 0).getLastD 0 = EE a b i a.length := by
  have h0 : 0 < a.length := List.length_pos_iff.mpr ha
  unfold rowE
  rw [show a.length - 0 = (a.length - 1) + 1 from by first | lia | omega, List.range_succ, List.map_append]
  rw [show [a.length - 1].map (fun (k : Nat) => EE a b i (0 + k + 1)) = [EE a b i a.length] from by
    show [EE a b i (0 + (a.length - 1) + 1)] = _
    rw [show 0 + (a.length - 1) + 1 = a.length from by first | lia | omega]]
  exact getLastD_snoc _ _ _
end dp
theorem lev2_dist (a b : List Nat) (mx : Int) (ha : a ≠ []) : lev2 a b mx = dist sc a b ∨ (mx < dist sc a b ∧ lev2 a b mx = mx + 1) := by
  unfold lev2
  by_cases h : mx < ((b.length : Int) - (a.length : Int)) * 2
  · rw [if_pos h]
    have := dist_low (c := sc) (fun x y => (sc_range x y).1) a b
    exact .inr ⟨by first | lia | omega, rfl⟩
  · rw [if_neg h, row0_E a b]
    have hE := EE_end a b
    rcases lvGo_E a b (mx := mx) ha b.length 0 (Nat.sub_zero _) (Nat.zero_le _) with e | ⟨e, hg⟩
    · rw [List.drop_zero] at e
      rw [e]
      exact .inl (by show (rowE a b b.length 0).getLastD 0 = _; rw [rowE_last a b ha, hE])
    · rw [List.drop_zero] at e
      rw [e]
      exact .inr ⟨by rw [← hE]; exact hg, rfl⟩
theorem lev3_dist (a b : List Nat) (mx : Int) (ha : a.length ≤ 40) (hb : b.length ≤ 40) : lev3 a b mx = dist sc a b ∨ (mx < dist sc a b ∧ lev3 a b mx = mx + 1) := by
  unfold lev3
  by_cases h : a = [] ∨ b = []
  · rw [if_pos h]
    left
    rcases h with h | h
    · subst h; rw [dist_nil]; simp
    · subst h; rw [dist_nil']; simp
  · rw [if_neg h, if_neg (by first | lia | omega)]
    by_cases hl : b.length < a.length
    · rw [if_pos hl]
      have e : dist sc b a = dist sc a b := by rw [← dist_sym sc a b]; exact dist_congr _ _ fun x _ y _ => sc_sym x y
      rw [← e]
      exact lev2_dist b a mx fun q => h (.inr q)
    · rw [if_neg hl]; exact lev2_dist a b mx fun q => h (.inl q)
theorem lev_dist (a b : List Nat) (mx : Int) (ha : a.length ≤ 40) (hb : b.length ≤ 40) : lev a b mx = dist sc a b ∨ (mx < dist sc a b ∧ lev a b mx = mx + 1) := by
  unfold lev
  by_cases h : a = b
  · rw [if_pos h]
    left
    subst h
    have : ∀ a : List Nat, dist sc a a = 0 := fun a => by
      induction a with
      | nil => rw [dist_nil]; rfl
      | cons x a ih => rw [dist_head (fun x y => (sc_range x y).1) x (sc_self x), ih]
    rw [this]
  · rw [if_neg h]
    have h1 := dist_pre a b
    have hla : (cutPre a (comPre a b)).length ≤ 40 := by unfold cutPre; rw [List.length_drop]; omega
    have hlb : (cutPre b (comPre a b)).length ≤ 40 := by unfold cutPre; rw [List.length_drop]; omega
    have h2 := dist_post (cutPre a (comPre a b)) (cutPre b (comPre a b))
    have h3 : dist sc (cutPre a (comPre a b)) (cutPre b (comPre a b)) = dist sc a b := h1
    rw [← h3, ← h2]
    refine lev3_dist _ _ mx ?_ ?_
    · rw [cutPost_take, List.length_take]; omega
    · rw [cutPost_take, List.length_take]; omega
/-! less, by columns -/
structure WS.ok (u : WS) : Prop where
  nt : u.nt ≤ u.n
  b : u.b ≤ u.n - u.nt
  len : u.count.length ≤ u.n - u.nt + 1
  one : (u.n : Int) = u.b + Wf 1 0 u.count + u.nt
theorem ws_run_ok : ∀ (x : List Nat) (u : WS), u.ok → (WS.run u x).ok
  | [], u, h => h
  | c :: r, u, h => by
    obtain ⟨h1, h2, h3, h4⟩ := h
    unfold WS.run
    split
    · exact ws_run_ok r _ ⟨Nat.le_succ_of_le h1, by show u.b + 1 ≤ u.n + 1 - u.nt; omega, by show u.count.length ≤ u.n + 1 - u.nt + 1; omega, by show ((u.n + 1 : Nat) : Int) = ((u.b + 1 : Nat) : Int) + Wf 1 0 u.count + u.nt; omega⟩
    · split
      · have p := (WS.pad_len u).2.1
        have t := Wf_tab 1 u
        refine ws_run_ok r _ ⟨Nat.succ_le_succ h1, Nat.zero_le _, ?_, ?_⟩
        · show (u.pad.set _ _).length ≤ u.n + 1 - (u.nt + 1) + 1
          rw [List.length_set]; omega
        · show ((u.n + 1 : Nat) : Int) = ((0 : Nat) : Int) + Wf 1 0 u.tab.count + ((u.nt + 1 : Nat) : Int)
          rw [t, Nat.div_one]; omega
      · exact ⟨h1, h2, h3, h4⟩
theorem wsOf_ok (x : List Nat) : (wsOf x).ok := ws_run_ok x _ ⟨Nat.le_refl _, Nat.le_refl _, Nat.zero_le _, rfl⟩
theorem indent_W (u : WS) (ts : Nat) (h : 1 ≤ ts) : indentOf u ts = u.b + (ts : Int) * (Wf ts 0 u.count + (u.nt : Int)) := by unfold indentOf; rw [ilSum_all _ _ h]
theorem indent_hi (u : WS) (ts : Nat) (h : 1 ≤ ts) (hl : u.count.length ≤ ts) : indentOf u ts = u.b + (ts : Int) * (u.nt : Int) := by
  rw [indent_W u ts h, Wf_low ts u.count 0 (by omega), Int.zero_add]
theorem indent_one {u : WS} (h : u.ok) : indentOf u 1 = u.n := by
  rw [indent_W u 1 (Nat.le_refl 1), h.one]; omega
/-- below at all sizes from one on -/
theorem up_from {b c : Int} {p q M t : Nat} (hM : M ≤ t) (h : b + (M : Int) * p < c + (M : Int) * q) (hpq : p ≤ q) : b + (t : Int) * p < c + (t : Int) * q := by
  obtain ⟨d, rfl⟩ := Nat.exists_eq_add_of_le hM
  have h2 : (d : Int) * p ≤ (d : Int) * q := Int.mul_le_mul_of_nonneg_left (by omega) (by omega)
  have e : ∀ z : Nat, ((M + d : Nat) : Int) * z = (M : Int) * z + (d : Int) * z := fun z => by rw [Int.natCast_add, Int.add_mul]
  rw [e, e]; omega
theorem slope {b c : Int} {p q M : Nat} (hc : c < M) (hb : 0 ≤ b) (h : b + (M : Int) * p < c + (M : Int) * q) : p ≤ q := by
  refine Nat.le_of_not_lt fun hn => ?_
  have h2 : (M : Int) * ((q + 1 : Nat) : Int) ≤ (M : Int) * p := Int.mul_le_mul_of_nonneg_left (by omega) (by omega)
  rw [Int.natCast_add, Int.mul_add] at h2
  omega
theorem less_cols (x y : List Nat) (hx : (wsOf x).n - (wsOf x).nt ≤ 8) (hy : (wsOf y).n - (wsOf y).nt ≤ 8) :
    lessOf x y = true ↔ ∀ i, i < 10 → indentOf (wsOf x) (1 + i) < indentOf (wsOf y) (1 + i) := by
  have ox := wsOf_ok x
  have oy := wsOf_ok y
  unfold lessOf
  generalize wsOf x = u at *
  generalize wsOf y = v at *
  obtain ⟨u1, u2, u3, _⟩ := id ox
  obtain ⟨v1, v2, v3, _⟩ := id oy
  have e1 : indentOf u 1 = u.n := indent_one ox
  have e2 : indentOf v 1 = v.n := indent_one oy
  by_cases hn : v.n ≤ u.n
  · rw [if_pos hn]
    exact ⟨fun h => (nomatch h), fun h => by have h0 := h 0 (by decide); rw [Nat.add_zero, e1, e2] at h0; omega⟩
  · rw [if_neg hn]
    by_cases hs : u.count.length ≤ 1 ∧ v.count.length ≤ 1
    · rw [if_pos hs, decide_eq_true_iff]
      have iu : ∀ i, indentOf u (1 + i) = u.b + ((1 + i : Nat) : Int) * u.nt := fun i => indent_hi u (1 + i) (by omega) (by omega)
      have iv : ∀ i, indentOf v (1 + i) = v.b + ((1 + i : Nat) : Int) * v.nt := fun i => indent_hi v (1 + i) (by omega) (by omega)
      have a1 := iu 0
      have a2 := iv 0
      rw [Nat.add_zero, e1] at a1
      rw [Nat.add_zero, e2] at a2
      constructor
      · intro h i _
        rw [iu, iv]
        exact up_from (M := 1) (by omega) (by rw [← a1, ← a2]; omega) h
      · intro h
        have h9 := h 9 (by decide)
        rw [iu, iv] at h9
        omega
    · rw [if_neg hs, List.all_eq_true]
      have hm : ∀ i, i ∈ List.range (max (lrN u) (lrN v)) ↔ i < max (lrN u) (lrN v) := fun i => List.mem_range
      have hM : 1 ≤ max (lrN u) (lrN v) ∧ max (lrN u) (lrN v) ≤ 8 ∧ u.count.length ≤ max (lrN u) (lrN v) + 1 ∧ v.count.length ≤ max (lrN u) (lrN v) + 1 ∧ v.b ≤ max (lrN u) (lrN v) := by unfold lrN; omega
      generalize max (lrN u) (lrN v) = m at *
      obtain ⟨m1, m2, m3, m4, m5⟩ := hM
      constructor
      · intro h i hi
        by_cases h0 : i = 0
        · subst h0; rw [Nat.add_zero, e1, e2]; omega
        · by_cases hle : i ≤ m
          · have := of_decide_eq_true (h (i - 1) ((hm _).mpr (by omega)))
            rwa [show 2 + (i - 1) = 1 + i from by omega] at this
          · have hk := of_decide_eq_true (h (m - 1) ((hm _).mpr (by omega)))
            rw [show 2 + (m - 1) = m + 1 from by omega, indent_hi u (m + 1) (by omega) m3, indent_hi v (m + 1) (by omega) m4] at hk
            rw [indent_hi u (1 + i) (by omega) (by omega), indent_hi v (1 + i) (by omega) (by omega)]
            exact up_from (by omega) hk (slope (by omega) (by omega) hk)
      · intro h i hi
        refine decide_eq_true ?_
        have := h (1 + i) (by have := (hm _).mp hi; omega)
        rwa [show 1 + (1 + i) = 2 + i from by omega] at this
/-! the search within a cost, and the distance -/
theorem dist_nonneg {α β : Type} {c : α → β → Int} (h0 : ∀ x y, 0 ≤ c x y) (xs : List α) (ys : List β) : 0 ≤ dist c xs ys := by
  have h : ∀ {xs : List α} {ys : List β} {n : Int}, Al c xs ys n → 0 ≤ n := fun h => by
    induction h with
    | nil => omega
    | del x _ ih => omega
    | ins y _ ih => omega
    | sub x y _ ih => have := h0 x y; omega
  exact h (al_dist c xs ys)
theorem sc_nonneg : ∀ a b, 0 ≤ sc a b := fun a b => (sc_range a b).1
/-- signs whose cases meet alike -/
noncomputable def Plain6 (x : List Nat) : Prop := ∀ c ∈ x, c ∈ [32, 9, 97, 65, 98, 66]
theorem toll6 : ∀ a ∈ [32, 9, 97, 65, 98, 66], ∀ b ∈ [32, 9, 97, 65, 98, 66], a ≠ b → (if upE a b = true then (1 : Int) else 2) = sc a b := by
  decide +kernel
theorem within_dist : ∀ (n : Nat) (x y : List Nat) (left : Int), x.length + y.length ≤ n → Plain6 x → Plain6 y → 0 ≤ left → within x y left = decide (dist sc x y ≤ left)
  | _, [], o, left, _, _, _, _ => by rw [within, dist_nil]; congr 1; simp
  | _, a :: w, [], left, _, _, _, _ => by rw [within, dist_nil']; rfl
  | 0, a :: w, b :: o, left, h, _, _, _ => absurd h (by simp)
  | n + 1, a :: w, b :: o, left, h, hx, hy, h0 => by
    simp only [List.length_cons] at h
    have hw : Plain6 w := fun c hc => hx c (List.mem_cons_of_mem _ hc)
    have ho : Plain6 o := fun c hc => hy c (List.mem_cons_of_mem _ hc)
    rw [within]
    by_cases hab : a = b
    · rw [if_pos hab, within_dist n w o left (by omega) hw ho h0]
      subst hab
      rw [dist_head sc_nonneg _ (sc_self _)]
    · have ht := toll6 a (hx a List.mem_cons_self) b (hy b List.mem_cons_self) hab
      rw [if_neg hab, ht, dist_cons]
      have r := sc_range a b
      have d1 := dist_nonneg sc_nonneg w (b :: o)
      have d2 := dist_nonneg sc_nonneg (a :: w) o
      have d3 := dist_nonneg sc_nonneg w o
      have w3 := within_dist n w o (left - sc a b) (by omega) hw ho
      have w1 := within_dist n w (b :: o) (left - 2) (by rw [List.length_cons]; omega) hw hy
      have w2 := within_dist n (a :: w) o (left - 2) (by rw [List.length_cons]; omega) hx ho
      generalize dist sc w (b :: o) = e1 at *
      generalize dist sc (a :: w) o = e2 at *
      generalize dist sc w o = e3 at *
      generalize sc a b = t at *
      by_cases c3 : t ≤ left
      · rw [w3 (by omega)]
        by_cases c4 : e3 ≤ left - t
        · rw [if_pos (by rw [decide_eq_true c3, decide_eq_true c4]; rfl)]
          exact (decide_eq_true (by omega)).symm
        · rw [if_neg (by rw [decide_eq_false c4, Bool.and_false]; decide)]
          by_cases c2 : left < 2
          · rw [if_pos c2]; exact (decide_eq_false (by omega)).symm
          · rw [if_neg c2, w1 (by omega), w2 (by omega), Bool.eq_iff_iff, Bool.or_eq_true, decide_eq_true_iff, decide_eq_true_iff, decide_eq_true_iff]; omega
      · rw [if_neg (by rw [decide_eq_false c3, Bool.false_and]; decide)]
        by_cases c2 : left < 2
        · rw [if_pos c2]; exact (decide_eq_false (by omega)).symm
        · omega
theorem costFrom_dist (x y : List Nat) (hx : Plain6 x) (hy : Plain6 y) : ∀ (k l : Nat), l + k = 5 → (l : Int) ≤ dist sc x y + 0 → (costFrom x y l k : Int) = if dist sc x y ≤ 4 then dist sc x y else 5
  | 0, l, h, hd => by rw [costFrom, if_neg (by omega)]; rfl
  | k + 1, l, h, hd => by
    rw [costFrom, within_dist _ x y l (Nat.le_refl _) hx hy (by omega)]
    by_cases c : dist sc x y ≤ (l : Int)
    · rw [if_pos (decide_eq_true c), if_pos (by omega)]; omega
    · rw [if_neg (by rw [decide_eq_false c]; decide)]
      exact costFrom_dist x y hx hy k (l + 1) (by omega) (by omega)
theorem cost_dist (x y : List Nat) (hx : Plain6 x) (hy : Plain6 y) : (costOf x y : Int) = if dist sc x y ≤ 4 then dist sc x y else 5 :=
  costFrom_dist x y hx hy 5 0 rfl (by have := dist_nonneg sc_nonneg x y; omega)
/-- the two reckonings of a change -/
theorem lev_cost (x y : List Nat) (hx : Plain6 x) (hy : Plain6 y) (lx : x.length ≤ 40) (ly : y.length ≤ 40) : (lev x y 4 ≤ 4 ↔ costOf x y < 5) ∧ (costOf x y < 5 → lev x y 4 = (costOf x y : Int)) := by
  have c := cost_dist x y hx hy
  rcases lev_dist x y 4 lx ly with h | ⟨h1, h2⟩
  · rw [h]
    split at c <;> omega
  · rw [h2]
    rw [if_neg (by omega)] at c
    omega
/-! the rows of law 01 -/
noncomputable abbrev Row := List Nat × List Int × List Nat
noncomputable def dg (cell : Int) (i : Nat) : Int := (digL cell [7, 8, 4, 4, 4, 4, 4]).getD i 0
noncomputable def turnedL (runs : List (List Nat)) : List (List Nat) := runs.dropLast.reverse ++ runs.drop (runs.length - 1)
noncomputable def turnedS (old : List Nat) : List Nat := joinL [9] (turnedL (splitL old [9]))
noncomputable def leadN (old : List Nat) (deed : Nat) : List Nat := [turnedS old, old ++ [32], old ++ [9], old ++ [32, 9], old.dropLast, [32] ++ old, [9] ++ old].getD deed []
noncomputable def aAbB : List Nat := [97, 65, 98, 66]
noncomputable def lettersN (count : Int) (a b : Nat) : List Nat := (([a, b] : List Nat).take (count.fmod 3).toNat).map fun p => aAbB.getD p 0
noncomputable def oldIx (n : Nat) (back : Int) : Nat := n - 1 - (back.fmod n).toNat
noncomputable def rowLead (leads : List (List Nat)) (cell : Int) : List Nat := leadN (leads.getD (oldIx leads.length (dg cell 1)) []) (dg cell 0).toNat
noncomputable def rowWord (leads : List (List Nat)) (cell : Int) : List Nat := rowLead leads cell ++ lettersN (dg cell 2) (dg cell 3).toNat (dg cell 4).toNat
noncomputable def rowOf (leads : List (List Nat)) (cell : Int) : Row := (rowWord leads cell, colsOf (rowLead leads cell), written (rowWord leads cell) (dg cell 5) [[10, 13, 32, 9].getD (dg cell 6).toNat 0])
noncomputable def rStep (st : List (List Nat) × List Row) (cell : Int) : List (List Nat) × List Row := (st.1 ++ [rowLead st.1 cell], st.2 ++ [rowOf st.1 cell])
noncomputable def rState (cells : List Int) : List (List Nat) × List Row := cells.foldl rStep ([[]], [])
theorem rState_snoc (cells : List Int) (c : Int) : rState (cells ++ [c]) = rStep (rState cells) c := by unfold rState; rw [List.foldl_append]; rfl
theorem dg_is (cell : Int) : digL cell [7, 8, 4, 4, 4, 4, 4] = [dg cell 0, dg cell 1, dg cell 2, dg cell 3, dg cell 4, dg cell 5, dg cell 6] := rfl
theorem fmod_lt (x m : Int) (h : 0 < m) : 0 ≤ x.fmod m ∧ x.fmod m < m := by
  rw [Int.fmod_eq_emod_of_nonneg _ (by omega)]
  exact ⟨Int.emod_nonneg _ (by omega), Int.emod_lt_of_pos _ h⟩
theorem dg_lt (cell : Int) : (0 ≤ dg cell 0 ∧ dg cell 0 < 7) ∧ (0 ≤ dg cell 3 ∧ dg cell 3 < 4) ∧ (0 ≤ dg cell 4 ∧ dg cell 4 < 4) ∧ (0 ≤ dg cell 6 ∧ dg cell 6 < 4) :=
  ⟨fmod_lt _ _ (by decide), fmod_lt _ _ (by decide), fmod_lt _ _ (by decide), fmod_lt _ _ (by decide)⟩
theorem oldIx_lt {n : Nat} (back : Int) (h : 0 < n) : oldIx n back < n := by unfold oldIx; omega
/-! leads -/
noncomputable def blank (x : List Nat) : Prop := ∀ c ∈ x, c = 32 ∨ c = 9
theorem count_join (c : Nat) : ∀ ls : List (List Nat), ls ≠ [] → (joinL [9] ls).count c = (ls.map (List.count c)).sum + (ls.length - 1) * ([9] : List Nat).count c
  | [], h => absurd rfl h
  | [x], _ => by rw [joinL_one]; simp
  | x :: y :: r, _ => by
    rw [joinL_cons, List.count_append, List.count_append, count_join c (y :: r) (by simp)]
    simp only [List.map_cons, List.sum_cons, List.length_cons]
    rw [show r.length + 1 + 1 - 1 = (r.length + 1 - 1) + 1 from by omega, Nat.add_mul]
    omega
theorem turnedL_perm (runs : List (List Nat)) : (turnedL runs).Perm runs := by
  unfold turnedL
  have h : runs.dropLast ++ runs.drop (runs.length - 1) = runs := by rw [List.dropLast_eq_take]; exact List.take_append_drop _ _
  exact ((List.reverse_perm _).append_right _).trans (List.Perm.of_eq h)
theorem turned_perm (old : List Nat) : (turnedS old).Perm old := by
  have hs : splitL old [9] ≠ [] := by rw [splitL_spl]; exact spl_ne 9 old
  have hp := turnedL_perm (splitL old [9])
  refine List.perm_iff_count.mpr fun c => ?_
  have ht : turnedL (splitL old [9]) ≠ [] := fun q => hs (by rw [q] at hp; exact hp.symm.eq_nil)
  have e : old.count c = (joinL [9] (splitL old [9])).count c := by rw [join_splitL]
  unfold turnedS
  rw [e, count_join c _ ht, count_join c _ hs, hp.length_eq, (hp.map (List.count c)).sum_nat]
structure LeadP (k : Nat) (l : List Nat) : Prop where
  blank : blank l
  sp : l.count 32 ≤ k
  tb : l.count 9 ≤ k
theorem blank_len : ∀ {l : List Nat}, blank l → l.length = l.count 32 + l.count 9
  | [], _ => rfl
  | c :: r, h => by
    have := blank_len (l := r) fun d hd => h d (List.mem_cons_of_mem _ hd)
    rcases h c List.mem_cons_self with rfl | rfl <;> simp <;> omega
theorem LeadP.len {k l} (h : LeadP k l) : l.length ≤ 2 * k := by have := blank_len h.blank; have := h.sp; have := h.tb; omega
theorem LeadP.le {k m l} (h : LeadP k l) (q : k ≤ m) : LeadP m l := ⟨h.blank, Nat.le_trans h.sp q, Nat.le_trans h.tb q⟩
theorem LeadP.perm {k l l'} (h : LeadP k l) (p : l'.Perm l) : LeadP k l' := ⟨fun c hc => h.blank c (p.mem_iff.mp hc), by rw [p.count_eq]; exact h.sp, by rw [p.count_eq]; exact h.tb⟩
theorem LeadP.sub {k l l'} (h : LeadP k l) (p : l'.Sublist l) : LeadP k l' := ⟨fun c hc => h.blank c (p.subset hc), Nat.le_trans (p.count_le _) h.sp, Nat.le_trans (p.count_le _) h.tb⟩
theorem LeadP.app {k l} (h : LeadP k l) {s : List Nat} (hs : LeadP 1 s) : LeadP (k + 1) (l ++ s) := ⟨fun c hc => (List.mem_append.mp hc).elim (h.blank c) (hs.blank c), by rw [List.count_append]; have := h.sp; have := hs.sp; omega, by rw [List.count_append]; have := h.tb; have := hs.tb; omega⟩
theorem lead1 : LeadP 1 [32] ∧ LeadP 1 [9] ∧ LeadP 1 [32, 9] :=
  ⟨⟨fun c hc => .inl (List.mem_singleton.mp hc), by decide, by decide⟩, ⟨fun c hc => .inr (List.mem_singleton.mp hc), by decide, by decide⟩, ⟨fun c hc => (List.mem_cons.mp hc).imp id fun h => List.mem_singleton.mp h, by decide, by decide⟩⟩
theorem leadN_p {k : Nat} {old : List Nat} (h : LeadP k old) : ∀ {deed : Nat}, deed < 7 → LeadP (k + 1) (leadN old deed)
  | 0, _ => (h.perm (turned_perm old)).le (Nat.le_succ k)
  | 1, _ => h.app lead1.1
  | 2, _ => h.app lead1.2.1
  | 3, _ => h.app lead1.2.2
  | 4, _ => (h.sub (List.dropLast_sublist old)).le (Nat.le_succ k)
  | 5, _ => (h.app lead1.1).perm List.perm_append_comm
  | 6, _ => (h.app lead1.2.1).perm List.perm_append_comm
  | n + 7, q => absurd q (by omega)
/-- what a row is -/
structure RowP (r : Row) : Prop where
  ex : ∃ lead ls : List Nat, r.1 = lead ++ ls ∧ LeadP 7 lead ∧ (∀ c ∈ ls, c ∈ aAbB) ∧ ls.length ≤ 2 ∧ r.2.1 = colsOf lead
  text : ∃ (m : Int) (e : Nat), r.2.2 = written r.1 m [e] ∧ isWs e = true
structure StP (k : Nat) (st : List (List Nat) × List Row) : Prop where
  nl : st.1.length = k + 1
  nr : st.2.length = k
  leads : ∀ l ∈ st.1, LeadP k l
  rows : ∀ r ∈ st.2, RowP r
theorem getD_mem {α : Type} {l : List α} {i : Nat} (d : α) (h : i < l.length) : l.getD i d ∈ l := by
  rw [List.getD_eq_getElem?_getD, List.getElem?_eq_getElem h]; exact List.getElem_mem h
theorem letters_p (count : Int) (a b : Nat) (ha : a < 4) (hb : b < 4) : (∀ c ∈ lettersN count a b, c ∈ aAbB) ∧ (lettersN count a b).length ≤ 2 := by
  unfold lettersN
  refine ⟨fun c hc => ?_, by rw [List.length_map, List.length_take]; exact Nat.min_le_right _ _⟩
  obtain ⟨p, hp, rfl⟩ := List.mem_map.mp hc
  have hp2 := List.take_subset _ _ hp
  have : p < aAbB.length := by
    rcases List.mem_cons.mp hp2 with rfl | h
    · exact ha
    · rw [List.mem_singleton.mp h]; exact hb
  exact getD_mem 0 this
theorem ws_end : ∀ e : Nat, e < 4 → isWs (([10, 13, 32, 9] : List Nat).getD e 0) = true
  | 0, _ | 1, _ | 2, _ | 3, _ => by decide
  | n + 4, h => absurd h (by omega)
theorem rowLead_p {k : Nat} {st : List (List Nat) × List Row} (h : StP k st) (cell : Int) : LeadP (k + 1) (rowLead st.1 cell) := by
  obtain ⟨⟨a0, a1⟩, _⟩ := dg_lt cell
  refine leadN_p (h.leads _ (getD_mem [] (oldIx_lt _ ?_))) (by omega)
  rw [h.nl]; omega
theorem rStep_p {k : Nat} {st : List (List Nat) × List Row} (h : StP k st) (hk : k < 7) (cell : Int) : StP (k + 1) (rStep st cell) := by
  have hl := rowLead_p h cell
  obtain ⟨_, ⟨b0, b1⟩, ⟨c0, c1⟩, d0, d1⟩ := dg_lt cell
  refine ⟨by show (st.1 ++ [_]).length = _; rw [List.length_append, h.nl]; rfl, by show (st.2 ++ [_]).length = _; rw [List.length_append, h.nr]; rfl, fun l hm => ?_, fun r hm => ?_⟩
  · rcases List.mem_append.mp hm with q | q
    · exact (h.leads l q).le (Nat.le_succ k)
    · rw [List.mem_singleton.mp q]; exact hl
  · rcases List.mem_append.mp hm with q | q
    · exact h.rows r q
    · rw [List.mem_singleton.mp q]
      have hp := letters_p (dg cell 2) (dg cell 3).toNat (dg cell 4).toNat (by omega) (by omega)
      exact ⟨⟨_, _, rfl, hl.le (by omega), hp.1, hp.2, rfl⟩, _, _, rfl, ws_end _ (by omega)⟩
theorem rState_p : ∀ (n : Nat) (cells : List Int), cells.length = n → n ≤ 7 → StP n (rState cells) := by
  intro n
  induction n with
  | zero =>
    intro cells h _
    rw [List.length_eq_zero_iff.mp h]
    exact ⟨rfl, rfl, fun l hl => by rw [List.mem_singleton.mp hl]; exact ⟨fun c hc => (List.not_mem_nil hc).elim, Nat.le_refl _, Nat.le_refl _⟩, fun r hr => (List.not_mem_nil hr).elim⟩
  | succ n ih =>
    intro cells h h7
    obtain ⟨cs, c, rfl⟩ : ∃ cs c, cells = cs ++ [c] := ⟨cells.dropLast, cells.getLast (by intro q; rw [q] at h; cases h), (List.dropLast_concat_getLast _).symm⟩
    rw [rState_snoc]
    rw [List.length_append] at h
    exact rStep_p (ih cs (by simpa using h) (by omega)) (by omega) c
/-! what the law asks of its rows -/
theorem ws_stop : ∀ (lead ls : List Nat) (u : WS), blank lead → (∀ c ∈ ls, c ∈ aAbB) → WS.run u (lead ++ ls) = WS.run u lead
  | [], [], u, _, _ => rfl
  | [], c :: r, u, _, h => by
    have hc := h c List.mem_cons_self
    have h2 : ∀ c ∈ aAbB, ¬ c = 32 ∧ ¬ c = 9 := by decide
    show WS.run u (c :: r) = u
    rw [WS.run, if_neg (h2 c hc).1, if_neg (h2 c hc).2]
  | d :: r, ls, u, hb, h => by
    have hr : blank r := fun c hc => hb c (List.mem_cons_of_mem _ hc)
    rw [List.cons_append, WS.run, WS.run, ws_stop r ls _ hr h, ws_stop r ls _ hr h]
theorem ws_nt : ∀ (x : List Nat) (u : WS), blank x → (WS.run u x).n = u.n + x.length ∧ (WS.run u x).nt = u.nt + x.count 9
  | [], u, _ => ⟨rfl, rfl⟩
  | c :: r, u, h => by
    have hr : blank r := fun c hc => h c (List.mem_cons_of_mem _ hc)
    rw [WS.run, List.length_cons, List.count_cons]
    rcases h c List.mem_cons_self with rfl | rfl
    · rw [if_pos rfl, (ws_nt r _ hr).1, (ws_nt r _ hr).2]
      exact ⟨by show u.n + 1 + _ = _; omega, by show u.nt + _ = _; simp⟩
    · rw [if_neg (by decide), if_pos rfl, (ws_nt r _ hr).1, (ws_nt r _ hr).2]
      exact ⟨by show u.n + 1 + _ = _; omega, by show u.nt + 1 + _ = _; simp; omega⟩
noncomputable def below (cs ds : List Int) : Bool := decide (((cs.zip ds).filter fun p => decide (p.1 ≥ p.2)) = [])
theorem below_of {f g : Nat → Int} {n : Nat} : below ((List.range n).map f) ((List.range n).map g) = true ↔ ∀ i, i < n → f i < g i := by
  unfold below
  rw [decide_eq_true_iff, List.zip_map', List.filter_eq_nil_iff]
  constructor
  · intro h i hi
    have := h (f i, g i) (List.mem_map.mpr ⟨i, List.mem_range.mpr hi, rfl⟩)
    simp only [ge_iff_le, decide_eq_true_eq, Int.not_le] at this
    exact this
  · intro h p hp
    obtain ⟨i, hi, rfl⟩ := List.mem_map.mp hp
    have := h i (List.mem_range.mp hi)
    simp only [ge_iff_le, decide_eq_true_eq, Int.not_le]
    exact this
theorem RowP.ws {r : Row} (h : RowP r) : (wsOf r.1).n - (wsOf r.1).nt ≤ 8 ∧ r.2.1 = (List.range 10).map fun i => indentOf (wsOf r.1) (1 + i) := by
  obtain ⟨lead, ls, h1, h2, h3, _, h5⟩ := h.ex
  have e : wsOf r.1 = wsOf lead := by rw [h1]; exact ws_stop lead ls _ h2.blank h3
  rw [e]
  refine ⟨?_, ?_⟩
  · obtain ⟨a1, a2⟩ := ws_nt lead ⟨[], 0, 0, 0⟩ h2.blank
    have hl := blank_len h2.blank
    have hs := h2.sp
    unfold wsOf
    rw [a1, a2]
    show 0 + lead.length - (0 + lead.count 9) ≤ 8
    omega
  · rw [h5]
    unfold colsOf NC
    refine List.map_congr_left fun i _ => ?_
    rw [indent_col lead (1 + i) (by omega) h2.blank]; rfl
theorem row_below {q r : Row} (hq : RowP q) (hr : RowP r) : below q.2.1 r.2.1 = lessOf q.1 r.1 := by
  obtain ⟨q1, q2⟩ := hq.ws
  obtain ⟨r1, r2⟩ := hr.ws
  rw [Bool.eq_iff_iff, less_cols _ _ q1 r1, q2, r2, below_of]
theorem RowP.word {r : Row} (h : RowP r) : Plain6 r.1 ∧ r.1.length ≤ 16 := by
  obtain ⟨lead, ls, h1, h2, h3, h4, _⟩ := h.ex
  have hl := h2.len
  rw [h1]
  refine ⟨fun c hc => ?_, by rw [List.length_append]; omega⟩
  rcases List.mem_append.mp hc with q | q
  · rcases h2.blank c q with rfl | rfl <;> decide
  · have : ∀ c ∈ aAbB, c ∈ [32, 9, 97, 65, 98, 66] := by decide
    exact this c (h3 c q)
theorem RowP.tok {r : Row} (h : RowP r) (rest : List Nat) : tok (r.2.2 ++ rest) = some (r.1, rest) := by
  obtain ⟨m, e, h1, h2⟩ := h.text
  rw [h1]; exact tok_written _ _ _ h2 rest
theorem RowP.size {r : Row} (h : RowP r) : r.2.2.length ≤ 100 := by
  obtain ⟨m, e, h1, _⟩ := h.text
  have hw := h.word.2
  have hb := wBody_len (wQuo m r.1) (wOdd m) r.1
  rw [h1]; unfold written
  split <;> simp only [List.length_append, List.length_cons, List.length_nil] <;> omega
/-! the search: each word in its turn -/
theorem nd_one {α : Type} (a : α) : [a].Nodup := List.nodup_cons.mpr ⟨List.not_mem_nil, List.nodup_nil⟩
noncomputable abbrev Met := List Nat × Nat × Nat
noncomputable def words (m : List Met) : List (List Nat) := m.map (·.1)
noncomputable def goes (w o : List Nat) : Bool := lessOf w o && decide (costOf w o < 5)
noncomputable def scan1 (w : List Nat) (k : Nat) (m : List Met) (o : List Nat) : List Met :=
  if (words m).contains o then m else if goes w o then m ++ [(o, k, costOf w o)] else m
noncomputable def scan (w : List Nat) (k : Nat) (m : List Met) (os : List (List Nat)) : List Met := os.foldl (scan1 w k) m
theorem scan_snoc (w k m os o) : scan w k m (os ++ [o]) = scan1 w k (scan w k m os) o := by unfold scan; rw [List.foldl_append]; rfl
noncomputable def bfs (pool : List (List Nat)) (w0 : List Nat) : Nat → List Met
  | 0 => [(w0, 0, 0)]
  | i + 1 => match (bfs pool w0 i)[i]? with
    | none => bfs pool w0 i
    | some e => scan e.1 (e.2.1 + 1) (bfs pool w0 i) pool
/-- what a turn leaves: the old ones ahead, the new ones one step on, no word twice -/
structure Grown (pool : List (List Nat)) (k : Nat) (m m' : List Met) : Prop where
  pre : m <+: m'
  new : ∀ e ∈ m'.drop m.length, e.2.1 = k
  nd : (words m').Nodup
  sub : ∀ o ∈ words m', o ∈ pool
theorem Grown.step {pool k m m'} (h : Grown pool k m m') (w : List Nat) {o : List Nat} (ho : o ∈ pool) : Grown pool k m (scan1 w k m' o) := by
  unfold scan1
  split
  · exact h
  · split
    · rename_i hc _
      refine ⟨h.pre.trans (List.prefix_append _ _), fun e he => ?_, ?_, fun q hq => ?_⟩
      · rw [List.drop_append_of_le_length h.pre.length_le] at he
        rcases List.mem_append.mp he with q | q
        · exact h.new e q
        · rw [List.mem_singleton.mp q]
      · unfold words
        rw [List.map_append]
        refine List.nodup_append.mpr ⟨h.nd, nd_one _, fun a ha b hb q => hc ?_⟩
        subst q
        rw [List.mem_singleton.mp hb] at ha
        exact List.contains_iff_mem.mpr ha
      · unfold words at hq
        rw [List.map_append] at hq
        rcases List.mem_append.mp hq with z | z
        · exact h.sub q z
        · rw [List.mem_singleton.mp z]; exact ho
    · exact h
theorem Grown.scan {pool k m} (w : List Nat) : ∀ (os : List (List Nat)) (m' : List Met), Grown pool k m m' → (∀ o ∈ os, o ∈ pool) → Grown pool k m (scan w k m' os)
  | [], m', h, _ => h
  | o :: os, m', h, ho => Grown.scan w os _ (h.step w (ho o List.mem_cons_self)) fun q hq => ho q (List.mem_cons_of_mem _ hq)
section
variable {pool : List (List Nat)} {w0 : List Nat}
theorem bfs_ok (h0 : w0 ∈ pool) : ∀ i, (words (bfs pool w0 i)).Nodup ∧ ∀ o ∈ words (bfs pool w0 i), o ∈ pool
  | 0 => ⟨nd_one _, fun o ho => by rw [List.mem_singleton.mp ho]; exact h0⟩
  | i + 1 => by
    have ih := bfs_ok h0 i
    rw [bfs]
    split
    · exact ih
    · rename_i e _
      have := Grown.scan (pool := pool) (k := e.2.1 + 1) e.1 pool _ ⟨List.prefix_refl (bfs pool w0 i), fun e he => (by rw [List.drop_length] at he; cases he), ih.1, ih.2⟩ fun _ h => h
      exact ⟨this.nd, this.sub⟩
theorem bfs_grown (h0 : w0 ∈ pool) {i : Nat} {e : Met} (he : (bfs pool w0 i)[i]? = some e) : bfs pool w0 (i + 1) = scan e.1 (e.2.1 + 1) (bfs pool w0 i) pool ∧ Grown pool (e.2.1 + 1) (bfs pool w0 i) (bfs pool w0 (i + 1)) := by
  have e1 : bfs pool w0 (i + 1) = scan e.1 (e.2.1 + 1) (bfs pool w0 i) pool := by rw [bfs, he]
  have ih := bfs_ok h0 i
  exact ⟨e1, e1 ▸ Grown.scan (pool := pool) (k := e.2.1 + 1) e.1 pool _ ⟨List.prefix_refl (bfs pool w0 i), fun e he => (by rw [List.drop_length] at he; cases he), ih.1, ih.2⟩ fun _ h => h⟩
theorem bfs_len (h0 : w0 ∈ pool) (i : Nat) : (bfs pool w0 i).length ≤ pool.length := by
  have h := bfs_ok h0 i
  have := List.Nodup.length_le_of_subset h.1 h.2
  rwa [words, List.length_map] at this
theorem bfs_stay {i : Nat} (h : (bfs pool w0 i).length ≤ i) : ∀ d, bfs pool w0 (i + d) = bfs pool w0 i
  | 0 => rfl
  | d + 1 => by
    have e := bfs_stay h d
    rw [← Nat.add_assoc, bfs, e, List.getElem?_eq_none (by omega)]
theorem bfs_end {i j : Nat} (hi : (bfs pool w0 i).length = i) (hj : (bfs pool w0 j).length = j) : bfs pool w0 i = bfs pool w0 j := by
  rcases Nat.le_total i j with h | h
  · obtain ⟨d, rfl⟩ := Nat.exists_eq_add_of_le h; exact (bfs_stay (by omega) d).symm
  · obtain ⟨d, rfl⟩ := Nat.exists_eq_add_of_le h; exact bfs_stay (by omega) d
end
noncomputable abbrev vCol (c : List Int) : VP := vList (c.map vInt)
noncomputable abbrev vRow (r : Row) : VP := vTup [vStr r.1, vCol r.2.1, vStr r.2.2]
theorem filter_all {α : Type} (l : List α) : l.filter (fun _ => true) = l := by simp
theorem turned_lenL (runs : List (List Nat)) : (turnedL runs).length = runs.length := (turnedL_perm runs).length_eq
theorem get7 {α : Type} (d : α) : ∀ (l : List α) (k : Nat), k < l.length → l[k]? = some (l.getD k d) := fun l k h => by
  rw [List.getD_eq_getElem?_getD, List.getElem?_eq_getElem h]; rfl
/-- the statements behind the digits: a row's lead and word -/
theorem rowsFn_ok {prog : Program} {w : World} {g : Heap} (G : Grd (KK w) g) (cells : List Int) (hc7 : cells.length ≤ 7) :
    FnD prog w g (.ref 176) 3 [vListW (cells.map vInt)] [] (vList ((rState cells).2.map vRow)) [] := by
  refine FnR.of_vars (K := KK w) G (by walk_at "isfn") [(PySem.Str.ofString "cells", vListW (cells.map vInt))] rfl (vals1 fun a => rfl) rfl (by with_unfolding_all rfl) fun A F s L rm => ?_
  refine Exs.asOwn (EvN.disp (EvAll.cons (Ev.cStr (l := []) rfl) EvAll.nil) (Nat.le_of_ble_eq_true rfl)) fun aL haL => ⟨_, by walk_at "put", ?_⟩
  refine Exs.asOwn (EvN.disp .nil) fun aR haR => ⟨_, by walk_at "put", ?_⟩
  refine Exs.forI (EvIter.list (ps := cells.map vInt) (by walk_at "ev") (.inl calm_name))
    (fun k σ => ∃ st : List (List Nat) × List Row, st = rState (cells.take k) ∧ σ = { vars := [(PySem.Str.ofString "rows", vVal (.ref aR)), (PySem.Str.ofString "leads", vVal (.ref aL)), (PySem.Str.ofString "cells", vListW (cells.map vInt))], res := [(aR, .lst (st.2.map vRow)), (aL, .lst (vStrs st.1))] })
    ⟨_, by walk_at "wk", ([[]], []), rfl, rfl⟩ (fun k p pv σk hp hi => ?_) fun σk hi => ?_
  · obtain ⟨st, hst, rfl⟩ := hi
    rw [List.getElem?_map] at hp
    obtain ⟨cell, hc, rfl⟩ := Option.map_eq_some_iff.mp hp
    have hk : k < cells.length := (List.getElem?_eq_some_iff.mp hc).1
    have hP : StP k st := hst ▸ rState_p k _ (by rw [List.length_take]; omega) (by omega)
    have hnext : rStep st cell = rState (cells.take (k + 1)) := by rw [take_snoc hc, rState_snoc, hst]
    refine ⟨_, As.name (by walk_at "put"), ?_⟩
    obtain ⟨⟨d00, d01⟩, ⟨d30, d31⟩, ⟨d40, d41⟩, d60, d61⟩ := dg_lt cell
    have f0 : dg cell 0 = (((dg cell 0).toNat : Nat) : Int) := by omega
    have f3 : dg cell 3 = (((dg cell 3).toNat : Nat) : Int) := by omega
    have f4 : dg cell 4 = (((dg cell 4).toNat : Nat) : Int) := by omega
    have f6 : dg cell 6 = (((dg cell 6).toNat : Nat) : Int) := by omega
    have hdd : (digL cell [7, 8, 4, 4, 4, 4, 4]).map vInt = [vInt (((dg cell 0).toNat : Nat) : Int), vInt (dg cell 1), vInt (dg cell 2), vInt (((dg cell 3).toNat : Nat) : Int), vInt (((dg cell 4).toNat : Nat) : Int), vInt (dg cell 5), vInt (((dg cell 6).toNat : Nat) : Int)] := by
      rw [← f0, ← f3, ← f4, ← f6, dg_is]; rfl
    have hold : LeadP k (st.1.getD (oldIx st.1.length (dg cell 1)) []) := hP.leads _ (getD_mem [] (oldIx_lt _ (by rw [hP.nl]; omega)))
    have hlead : LeadP (k + 1) (rowLead st.1 cell) := rowLead_p hP cell
    have hstep : rStep st cell = (st.1 ++ [leadN (st.1.getD (oldIx st.1.length (dg cell 1)) []) (dg cell 0).toNat], st.2 ++ [(leadN (st.1.getD (oldIx st.1.length (dg cell 1)) []) (dg cell 0).toNat ++ lettersN (dg cell 2) (dg cell 3).toNat (dg cell 4).toNat, colsOf (leadN (st.1.getD (oldIx st.1.length (dg cell 1)) []) (dg cell 0).toNat), written (leadN (st.1.getD (oldIx st.1.length (dg cell 1)) []) (dg cell 0).toNat ++ lettersN (dg cell 2) (dg cell 3).toNat (dg cell 4).toNat) (dg cell 5) [[10, 13, 32, 9].getD (dg cell 6).toNat 0])]) := rfl
    have hll : (lettersN (dg cell 2) (dg cell 3).toNat (dg cell 4).toNat).length ≤ 2 := (letters_p _ _ _ (by omega) (by omega)).2
    have hdg := digits_ok (prog := prog) (w := w) G cell [7, 8, 4, 4, 4, 4, 4] (by decide) (by decide)
    rw [hstep] at hnext
    unfold rowLead at hlead
    clear f0 f3 f4 f6 hstep hst
    generalize hga : (dg cell 0).toNat = a at *
    generalize hgb : dg cell 1 = back at *
    generalize hgc : dg cell 2 = cnt at *
    generalize hgd : (dg cell 3).toNat = b at *
    generalize hge : (dg cell 4).toNat = c at *
    generalize hgf : dg cell 5 = man at *
    generalize hgg : (dg cell 6).toNat = e at *
    have ha7 : a < 7 := by omega
    have hb4 : b < 4 := by omega
    have hc4 : c < 4 := by omega
    have he4 : e < 4 := by omega
    clear d00 d01 d30 d31 d40 d41 d60 d61 hga hgb hgc hgd hge hgf hgg
    have hn := hP.nl
    have hvl : (vStrs st.1).length = st.1.length := by unfold vStrs; rw [List.length_map]
    have hz : (vStrs st.1).length ≤ sizeLine := by rw [hvl, hn, sizeLine_is]; omega
    refine Exs.assign (p := vListW [vInt (a : Int), vInt back, vInt cnt, vInt (b : Int), vInt (c : Int), vInt man, vInt (e : Int)]) (by exact Ev.eq (Ev.listW (Ev.callP (K := KK w) G (by walk_at "isfn") (by walk_at "ev") (EvAll.cons (by walk_at "ev") (EvAll.cons (Ev.listW (EvN.ev (EvN.disp (EvAll.cons (by exact Ev.cInt) (EvAll.cons (by exact Ev.cInt) (EvAll.cons (by exact Ev.cInt) (EvAll.cons (by exact Ev.cInt) (EvAll.cons (by exact Ev.cInt) (EvAll.cons (by exact Ev.cInt) (EvAll.cons (by exact Ev.cInt) EvAll.nil))))))) (Nat.le_of_ble_eq_true rfl)))) EvAll.nil)) hdg (rm.in_.le (by decide)))) (by rw [hdd])) (As.tupL (AsAll.cons (As.name (by walk_at "put")) (AsAll.cons (As.name (by walk_at "put")) (AsAll.cons (As.name (by walk_at "put")) (AsAll.cons (As.name (by walk_at "put")) (AsAll.cons (As.name (by walk_at "put")) (AsAll.cons (As.name (by walk_at "put")) (AsAll.cons (As.name (by walk_at "put")) AsAll.nil)))))))) ?_
    have hfm := fmod_lt back st.1.length (by rw [hn]; omega)
    have hix : seqIndex? (-1 - back.fmod ((vStrs st.1).length : Int)) (vStrs st.1).length = some (oldIx st.1.length back) := by
      rw [hvl]
      have e1 : -1 - back.fmod (st.1.length : Int) = -(((back.fmod st.1.length).toNat : Nat) : Int) - 1 := by omega
      rw [e1, idx_neg (by omega)]; rfl
    have hat : (vStrs st.1)[oldIx st.1.length back]? = some (vStr (st.1.getD (oldIx st.1.length back) [])) := by
      unfold vStrs
      rw [List.getElem?_map, get7 [] _ _ (oldIx_lt back (by rw [hn]; omega))]; rfl
    have hnz : ((vStrs st.1).length : Int) ≠ 0 := by rw [hvl, hn]; omega
    generalize st.1.getD (oldIx st.1.length back) [] = old at *
    refine Exs.assign (p := vStr old) (by exact Ev.itemL (by walk_at "src") (Ev.sub (by walk_at "ev") (Ev.mod (by walk_at "ev") (Ev.lenL (by walk_at "ev") (by walk_at "src") hz) hnz)) (fun _ _ => rfl) hix hat hz) (As.name (by walk_at "put")) ?_
    have hol := hold.len
    have hz2 : old.length ≤ sizeLine := by rw [sizeLine_is]; omega
    have hsl := spl_len 9 old
    rw [← splitL_spl] at hsl
    have hz3 : (splitL old [9]).length ≤ sizeLine := by rw [sizeLine_is]; omega
    refine Exs.assign (p := vList (vStrs (splitL old [9]))) (by exact EvN.ev (EvN.split (x := old) (y := [9]) (by walk_at "ev") (by exact Ev.cStr rfl) rfl hz2 hz3)) (As.name (by walk_at "put")) ?_
    have hml : ∀ p ∈ splitL old [9], p.length ≤ 14 := fun p hp => by
      rw [splitL_spl] at hp
      have := (spl_mem 9 _ p hp).2.2
      omega
    have hj : JoinOk (L2S [9]) ((turnedL (splitL old [9])).map L2S) = true := joinOk_of 15 14 (by rw [turned_lenL]; omega) (fun p hp => hml p ((turnedL_perm _).mem_iff.mp hp)) (by decide) (by decide)
    have htl : (turnedS old).length ≤ 14 := by rw [(turned_perm old).length_eq]; omega
    have hts : turnedS old = joinL [9] (turnedL (splitL old [9])) := rfl
    have hL7 : [vStr (turnedS old), vStr (old ++ [32]), vStr (old ++ [9]), vStr (old ++ [32, 9]), vStr old.dropLast, vStr ([32] ++ old), vStr ([9] ++ old)][a]? = some (vStr (leadN old a)) := by
      unfold leadN
      match a, ha7 with
      | 0, _ | 1, _ | 2, _ | 3, _ | 4, _ | 5, _ | 6, _ => rfl
    generalize turnedS old = tu at *
    generalize hR : splitL old [9] = runs at *
    have hvt : (vStrs runs).dropLast.reverse ++ (vStrs runs).drop ((vStrs runs).length - 1) = vStrs (turnedL runs) := by
      unfold turnedL vStrs
      rw [List.map_append, List.map_reverse, List.map_dropLast, List.map_drop, List.length_map]
    have hzv : (vStrs runs).length ≤ sizeLine := by unfold vStrs; rw [List.length_map]; exact hz3
    have hzz : (vStrs runs).dropLast.reverse.length + ((vStrs runs).drop ((vStrs runs).length - 1)).length ≤ sizeLine := by
      unfold vStrs
      simp only [List.length_reverse, List.length_dropLast, List.length_drop, List.length_map]; rw [sizeLine_is]; omega
    have hzd : (vStrs runs).dropLast.length ≤ sizeLine := by rw [List.length_dropLast]; omega
    refine Exs.assign (p := vStr tu) (Ev.eq (Ev.join (x := [9]) (ls := turnedL runs) (by exact Ev.cStr rfl) (Ev.srcL (EvN.ev (EvN.eq (EvN.add ?za ?zb hzz) hvt))) hj) (by rw [hts])) (As.name (by walk_at "put")) ?_
    case za => exact Ev.src (EvN.ev (EvN.rev (Ev.srcL (EvN.ev (EvN.butlast (by walk_at "src") (by walk_at "ev") hzv))) (EvPt.int (by walk_at "ev")) hzd))
    case zb => exact Ev.src (EvN.ev (EvN.lastOf (by walk_at "src") (by walk_at "ev") hzv))
    have z1 : old.length + [32].length ≤ sizeLine := by rw [sizeLine_is]; simp; omega
    have z2 : old.length + [9].length ≤ sizeLine := z1
    have z3 : old.length + [32, 9].length ≤ sizeLine := by rw [sizeLine_is]; simp; omega
    have z4 : [32].length + old.length ≤ sizeLine := by rw [Nat.add_comm]; exact z1
    have z5 : [9].length + old.length ≤ sizeLine := z4
    refine Exs.assign (p := vStr (leadN old a)) (Ev.atL (ps := [vStr tu, vStr (old ++ [32]), vStr (old ++ [9]), vStr (old ++ [32, 9]), vStr old.dropLast, vStr ([32] ++ old), vStr ([9] ++ old)]) (k := a) ?zd (by walk_at "ev") hL7 (Nat.le_of_ble_eq_true rfl)) (As.name (by walk_at "put")) ?_
    case zd =>
      refine Ev.srcL (EvN.ev (EvN.disp (EvAll.cons (by walk_at "ev") (EvAll.cons (by exact Ev.addS (by walk_at "ev") (Ev.cStr (l := [32]) rfl) z1) (EvAll.cons (by exact Ev.addS (by walk_at "ev") (Ev.cStr (l := [9]) rfl) z2) (EvAll.cons (by exact Ev.addS (by walk_at "ev") (Ev.cStr (l := [32, 9]) rfl) z3) (EvAll.cons (Ev.eq (Ev.slS (by walk_at "ev") .no (.int (by walk_at "ev")) hz2) (congrArg vStr (sl_butlast old))) (EvAll.cons (by exact Ev.addS (Ev.cStr (l := [32]) rfl) (by walk_at "ev") z4) (EvAll.cons (by exact Ev.addS (Ev.cStr (l := [9]) rfl) (by walk_at "ev") z5) EvAll.nil))))))) (Nat.le_of_ble_eq_true rfl)))
    have hln := hlead.len
    have hwr := written_ok (prog := prog) (w := w) G (leadN old a ++ lettersN cnt b c) man [[10, 13, 32, 9].getD e 0] (by rw [List.length_append]; omega) (by simp)
    have hcols := columns_ok (prog := prog) (w := w) G (leadN old a) (by omega) (fun r hr => by rw [splitL_spl] at hr; have := (spl_mem 9 _ r hr).2.2; omega)
    generalize leadN old a = lead at *
    clear hL7 hts hvt hzv hzz hzd z1 z2 z3 z4 z5 hj hml htl hat hix
    have hw3 := fmod_lt cnt 3 (by decide)
    have hn3 : cnt.fmod 3 = (((cnt.fmod 3).toNat : Nat) : Int) := by omega
    have hlt : lettersN cnt b c = (([b, c] : List Nat).take (cnt.fmod 3).toNat).map fun p => aAbB.getD p 0 := rfl
    have hmem : ∀ p ∈ ([b, c] : List Nat).take (cnt.fmod 3).toNat, p < 4 := fun p hp => by
      rcases List.mem_cons.mp (List.take_subset _ _ hp) with rfl | h
      · exact hb4
      · rw [List.mem_singleton.mp h]; exact hc4
    have htk : ([vInt (b : Int), vInt (c : Int)] : List VP).take (cnt.fmod 3).toNat = (([b, c] : List Nat).take (cnt.fmod 3).toNat).map (fun p : Nat => vInt (p : Int)) := by rw [List.map_take]; rfl
    have hxl : (([b, c] : List Nat).take (cnt.fmod 3).toNat).length ≤ 2 := by rw [List.length_take]; exact Nat.min_le_right _ _
    generalize lettersN cnt b c = ltr at *
    generalize (cnt.fmod 3).toNat = n3 at *
    generalize hxs : ([b, c] : List Nat).take n3 = xs at *
    have hfl : ((xs.filter fun _ => true).map fun p => vStr [aAbB.getD p 0]) = vStrs (ltr.map fun q => [q]) := by
      rw [hlt, filter_all]; unfold vStrs; rw [List.map_map, List.map_map]; rfl
    have hjl : joinL [] (ltr.map fun q => [q]) = ltr := by
      rw [joinL_flat]
      clear hll hfl hlt hnext hwr
      induction ltr with
      | nil => rfl
      | cons a l ih => rw [List.map_cons, List.flatten_cons, ih]; rfl
    have hjo : JoinOk (L2S []) ((ltr.map fun q => [q]).map L2S) = true := joinOk_of 2 1 (by rw [List.length_map]; exact hll) (fun l hl => by obtain ⟨q, _, rfl⟩ := List.mem_map.mp hl; exact Nat.le_refl 1) (by decide) (by decide)
    have hzx : xs.length ≤ sizeLine := by rw [sizeLine_is]; omega
    have hzw : lead.length + ltr.length ≤ sizeLine := by rw [sizeLine_is]; omega
    refine Exs.assign (p := vStr (lead ++ ltr)) (Ev.addS (by walk_at "ev") (Ev.eq (Ev.join (x := []) (ls := ltr.map fun q => [q]) (by exact Ev.cStr rfl) (Ev.srcL (Ev.eq (Ev.compP (cl := []) (cv := []) (R0 := []) xs (fun p => vInt (p : Int)) (fun _ => true) (fun p => vStr [aAbB.getD p 0]) ?zi ?zs hzx ?zt) (congrArg vList hfl))) hjo) (congrArg vStr hjl)) hzw) (As.name (by walk_at "put")) ?_
    case zi => exact EvIter.listL (EvN.ev (EvN.eq (EvN.upto (k := n3) (Ev.srcL (EvN.ev (EvN.disp (EvAll.cons (by walk_at "ev") (EvAll.cons (by walk_at "ev") EvAll.nil)) (Nat.le_of_ble_eq_true rfl)))) (Ev.eq (Ev.mod (by walk_at "ev") (by walk_at "ev") (by decide)) (congrArg vInt hn3)) (Nat.le_of_ble_eq_true rfl)) htk)) calm_name
    case zs => exact Seen.none (by decide) rfl (by decide) (by decide)
    case zt =>
      intro C F0 s0 W pv p hp
      refine ⟨_, As.name (Put.newL rfl rfl), rfl, .nil _, fun _ => ?_⟩
      exact Ev.atS (x := aAbB) (k := p) (by exact Ev.cStr rfl) (by walk_at "ev") (get7 0 _ _ (hmem p hp)) (Nat.le_of_ble_eq_true rfl)
    clear hfl hjl hjo hlt hmem htk hxl hxs
    have hge : ([10, 13, 32, 9] : List Nat)[e]? = some ([10, 13, 32, 9].getD e 0) := get7 0 _ _ he4
    have hrz : (st.2.map vRow).length ≤ sizeLine := by rw [List.length_map, hP.nr, sizeLine_is]; omega
    generalize ([10, 13, 32, 9] : List Nat).getD e 0 = ec at *
    refine Exs.exp (Ev.app (vStrs (st.1 ++ [lead])) (by walk_at "ev") (by walk_at "ev") (by walk_at "rset") (by unfold vStrs; rw [List.map_append]; rfl) hz) ?_
    refine Exs.exp (Ev.app ((st.2 ++ [(lead ++ ltr, colsOf lead, written (lead ++ ltr) man [ec])]).map vRow) (by walk_at "ev") ?zu (by walk_at "rset") (by rw [List.map_append]; rfl) hrz) ?_
    case zu =>
      refine Ev.tup (EvAll.cons (by walk_at "ev") (EvAll.cons (by exact Ev.callP (K := KK w) (p := vCol (colsOf lead)) G (by walk_at "isfn") (by walk_at "ev") (EvAll.cons (by walk_at "ev") EvAll.nil) hcols (rm.in_.le (by decide))) (EvAll.cons ?_ EvAll.nil))) (Nat.le_of_ble_eq_true rfl)
      exact Ev.callP (K := KK w) G (by walk_at "isfn") (by walk_at "ev") (EvAll.cons (by walk_at "ev") (EvAll.cons (by walk_at "ev") (EvAll.cons (Ev.atS (x := [10, 13, 32, 9]) (by exact Ev.cStr rfl) (by walk_at "ev") hge (Nat.le_of_ble_eq_true rfl)) EvAll.nil))) hwr (rm.in_.le (by decide))
    exact Exs.nil ⟨_, by walk_at "wk", _, hnext, rfl⟩
  · obtain ⟨st, hst, rfl⟩ := hi
    rw [List.length_map, List.take_length] at hst
    subst hst
    refine Exs.freeze (a := aR) (ps := (rState cells).2.map vRow) (At.mem (by walk_at "mem")) (by walk_at "rdel") (by walk_at "rep") haR ?_
    exact Exs.ret (by walk_at "ev") ⟨[], .cons _ .slnil, rfl, rfl⟩
/-! the waves: what lies ahead is what was met in this wave -/
structure AhOK (rows : List Row) (k L : Nat) (m : List Met) (ah : List Row) : Prop where
  le : L ≤ m.length
  ws : ah.map (·.1) = words (m.drop L)
  st : ∀ e ∈ m.drop L, e.2.1 = k
  rw_ : ∀ r ∈ ah, r ∈ rows
  nd : (words m).Nodup
  sub : ∀ o ∈ words m, o ∈ rows.map (·.1)
theorem AhOK.len {rows k L m ah} (h : AhOK rows k L m ah) : m.length ≤ rows.length ∧ ah.length ≤ rows.length := by
  have h1 := List.Nodup.length_le_of_subset h.nd h.sub
  have h2 := congrArg List.length h.ws
  unfold words at h1 h2
  simp only [List.length_map, List.length_drop] at h1 h2
  omega
theorem scan1_in {w k m o} (h : (words m).contains o = true) : scan1 w k m o = m := by unfold scan1; rw [if_pos h]
theorem scan1_no {w k m o} (h : (words m).contains o = false) (g : goes w o = false) : scan1 w k m o = m := by unfold scan1; rw [h, g]; rfl
theorem scan1_yes {w k m o} (h : (words m).contains o = false) (g : goes w o = true) : scan1 w k m o = m ++ [(o, k, costOf w o)] := by unfold scan1; rw [h, g]; rfl
theorem AhOK.add {rows k L m ah} (h : AhOK rows k L m ah) {r : Row} (hr : r ∈ rows) (hc : (words m).contains r.1 = false) (c : Nat) : AhOK rows k L (m ++ [(r.1, k, c)]) (ah ++ [r]) where
  le := by rw [List.length_append]; exact Nat.le_trans h.le (Nat.le_add_right _ _)
  ws := by rw [List.drop_append_of_le_length h.le, List.map_append, h.ws]; unfold words; rw [List.map_append]; rfl
  st := fun e he => by
    rw [List.drop_append_of_le_length h.le] at he
    rcases List.mem_append.mp he with q | q
    · exact h.st e q
    · rw [List.mem_singleton.mp q]
  rw_ := fun q hq => (List.mem_append.mp hq).elim (h.rw_ q) fun z => by rw [List.mem_singleton.mp z]; exact hr
  nd := by
    unfold words
    rw [List.map_append]
    refine List.nodup_append.mpr ⟨h.nd, nd_one _, fun a ha b hb q => ?_⟩
    subst q
    rw [List.mem_singleton.mp hb] at ha
    have := List.contains_iff_mem.mpr ha
    unfold words at hc
    rw [hc] at this; cases this
  sub := fun o ho => by
    unfold words at ho
    rw [List.map_append] at ho
    rcases List.mem_append.mp ho with z | z
    · exact h.sub o z
    · rw [List.mem_singleton.mp z]; exact List.mem_map_of_mem (f := fun r : Row => r.1) hr
/-- between two waves -/
structure WaveOK (rows : List Row) (w0 : List Nat) (i k : Nat) (wv : List Row) : Prop where
  le : i ≤ (bfs (rows.map (·.1)) w0 i).length
  ws : wv.map (·.1) = words ((bfs (rows.map (·.1)) w0 i).drop i)
  st : ∀ e ∈ (bfs (rows.map (·.1)) w0 i).drop i, e.2.1 = k
  rw_ : ∀ r ∈ wv, r ∈ rows
section
variable {rows : List Row} {w0 : List Nat}
theorem wave_at {i k : Nat} {wv : List Row} (h : WaveOK rows w0 i k wv) {j : Nat} {q : Row} (hq : wv[j]? = some q) (hp : bfs (rows.map (·.1)) w0 i <+: bfs (rows.map (·.1)) w0 (i + j)) (h0 : w0 ∈ rows.map (·.1)) :
    bfs (rows.map (·.1)) w0 (i + (j + 1)) = scan q.1 (k + 1) (bfs (rows.map (·.1)) w0 (i + j)) (rows.map (·.1)) ∧ bfs (rows.map (·.1)) w0 i <+: bfs (rows.map (·.1)) w0 (i + (j + 1)) := by
  have h1 : (words ((bfs (rows.map (·.1)) w0 i).drop i))[j]? = some q.1 := by rw [← h.ws, List.getElem?_map, hq]; rfl
  unfold words at h1
  rw [List.getElem?_map] at h1
  obtain ⟨e, he, hw⟩ := Option.map_eq_some_iff.mp h1
  have hk := h.st e (List.mem_of_getElem? he)
  rw [List.getElem?_drop] at he
  obtain ⟨t, ht⟩ := hp
  have he2 : (bfs (rows.map (·.1)) w0 (i + j))[i + j]? = some e := by
    rw [← ht, List.getElem?_append_left ((List.getElem?_eq_some_iff.mp he).1)]; exact he
  obtain ⟨g1, g2⟩ := bfs_grown h0 he2
  rw [hw, hk] at g1
  exact ⟨g1, List.IsPrefix.trans ⟨t, ht⟩ g2.pre⟩
theorem wave_len {i k : Nat} {wv : List Row} (h : WaveOK rows w0 i k wv) : i + wv.length = (bfs (rows.map (·.1)) w0 i).length := by
  have h2 := congrArg List.length h.ws
  unfold words at h2
  simp only [List.length_map, List.length_drop] at h2
  have := h.le
  omega
/-- a wave's start: nothing is ahead -/
theorem wave_start {i k : Nat} {wv : List Row} (h : WaveOK rows w0 i k wv) (h0 : w0 ∈ rows.map (·.1)) : AhOK rows (k + 1) (i + wv.length) (bfs (rows.map (·.1)) w0 (i + 0)) [] := by
  have hl := wave_len h
  have ok := bfs_ok h0 i
  refine ⟨by rw [Nat.add_zero]; omega, ?_, fun e he => ?_, fun r hr => (List.not_mem_nil hr).elim, ok.1, ok.2⟩
  · rw [Nat.add_zero, hl, List.drop_length]; rfl
  · rw [Nat.add_zero, hl, List.drop_length] at he; exact (List.not_mem_nil he).elim
theorem wave_next {i k : Nat} {wv ah : List Row} (h : AhOK rows (k + 1) (i + wv.length) (bfs (rows.map (·.1)) w0 (i + wv.length)) ah) : WaveOK rows w0 (i + wv.length) (k + 1) ah := ⟨h.le, h.ws, h.st, h.rw_⟩
theorem bfs_fin {i : Nat} (h0 : w0 ∈ rows.map (·.1)) (h : (bfs (rows.map (·.1)) w0 i).length = i) : bfs (rows.map (·.1)) w0 i = bfs (rows.map (·.1)) w0 rows.length := by
  have hl := bfs_len h0 i
  rw [List.length_map] at hl
  obtain ⟨d, hd⟩ := Nat.exists_eq_add_of_le (show i ≤ rows.length by omega)
  rw [hd]
  exact (bfs_stay (by omega) d).symm
theorem wave_end {i k : Nat} {wv : List Row} (h : WaveOK rows w0 i k wv) (h0 : w0 ∈ rows.map (·.1)) (he : wv = []) : bfs (rows.map (·.1)) w0 i = bfs (rows.map (·.1)) w0 rows.length := by
  have hl := wave_len h
  rw [he] at hl
  exact bfs_fin h0 (by simpa using hl.symm)
theorem wave_first {r : Row} (hr : r ∈ rows) : WaveOK rows r.1 0 0 [r] := ⟨Nat.zero_le _, rfl, fun e he => by rw [List.mem_singleton.mp he], fun q hq => by rw [List.mem_singleton.mp hq]; exact hr⟩
end
/-! tuples as data -/
theorem dk_nat : DK (fun c : Nat => PyData.int (c : Int)) 0 := ⟨fun a b => by simp only [PyData.eqv]; rw [Bool.eq_iff_iff, beq_iff_eq, decide_eq_true_iff]; omega, fun a => by simp [PyData.depth]⟩
theorem dk_tup3 {α β γ : Type} [DecidableEq α] [DecidableEq β] [DecidableEq γ] {f : α → PyData} {g : β → PyData} {h : γ → PyData} {n : Nat} (hf : DK f n) (hg : DK g n) (hh : DK h n) : DK (fun x : α × β × γ => PyData.tuple [f x.1, g x.2.1, h x.2.2]) (n + 1) := by
  refine ⟨fun a b => ?_, fun a => ?_⟩
  · obtain ⟨a1, a2, a3⟩ := a
    obtain ⟨b1, b2, b3⟩ := b
    simp only [PyData.eqv, PyData.eqvAll, hf.inj, hg.inj, hh.inj, Bool.and_true, Prod.mk.injEq, Bool.decide_and]
  · have h1 := hf.dep a.1
    have h2 := hg.dep a.2.1
    have h3 := hh.dep a.2.2
    simp only [PyData.depth, PyData.depthAll]
    omega
noncomputable abbrev dRow (r : Row) : PyData := .tuple [.str (L2S r.1), .list (r.2.1.map fun i => .int i), .str (L2S r.2.2)]
noncomputable abbrev dMet (e : Met) : PyData := .tuple [.str (L2S e.1), .int (e.2.1 : Int), .int (e.2.2 : Int)]
theorem DK.le {α : Type} [DecidableEq α] {f : α → PyData} {n m : Nat} (h : DK f n) (q : n ≤ m) : DK f m := ⟨h.inj, fun a => Nat.le_trans (h.dep a) q⟩
theorem dk_row : DK dRow 2 := dk_tup3 (f := fun x : List Nat => PyData.str (L2S x)) (g := fun c : List Int => PyData.list (c.map fun i => PyData.int i)) (h := fun x : List Nat => PyData.str (L2S x)) (dk_str.le (Nat.zero_le 1)) (dk_list dk_int) (dk_str.le (Nat.zero_le 1))
theorem dk_met : DK dMet 1 := dk_tup3 dk_str dk_nat dk_nat
theorem okS_plain {x : List Nat} (h : Plain6 x) : okS x := fun c hc => by
  have : ∀ c ∈ [32, 9, 97, 65, 98, 66], c < 1114112 := by decide
  exact this c (h c hc)
theorem enc_mem (q odd : Bool) : ∀ (l : List Nat) (ne : Bool), ∀ c ∈ enc q odd ne l, c = 92 ∨ c ∈ l
  | [], _, c, h => (List.not_mem_nil h).elim
  | d :: r, ne, c, h => by
    unfold enc at h
    rcases List.mem_append.mp h with h | h
    · split at h
      · rcases List.mem_cons.mp h with h | h
        · exact .inl h
        · exact .inr (List.mem_singleton.mp h ▸ List.mem_cons_self)
      · exact .inr (List.mem_singleton.mp h ▸ List.mem_cons_self)
    · exact (enc_mem q odd r true c h).imp id (List.mem_cons_of_mem _)
theorem RowP.okText {r : Row} (h : RowP r) : okS r.2.2 := by
  obtain ⟨m, e, h1, h2⟩ := h.text
  have hw := okS_plain h.word.1
  have he : e < 1114112 := by
    unfold isWs at h2
    have := of_decide_eq_true h2
    have h3 : ∀ c ∈ [10, 9, 13, 32], c < 1114112 := by decide
    exact h3 e this
  have hb : ∀ q odd, ∀ c ∈ wBody q odd r.1, c < 1114112 := fun q odd c hc => by
    rw [wBody_enc] at hc
    rcases enc_mem q odd r.1 false c hc with rfl | h
    · decide
    · exact hw c h
  intro c hc
  rw [h1] at hc
  unfold written at hc
  split at hc
  · rcases List.mem_append.mp hc with hc | hc
    · rcases List.mem_append.mp hc with hc | hc
      · rw [List.mem_singleton.mp hc]; decide
      · exact hb _ _ c hc
    · rw [List.mem_singleton.mp hc]; decide
  · rcases List.mem_append.mp hc with hc | hc
    · exact hb _ _ c hc
    · rw [List.mem_singleton.mp hc]; exact he
theorem can_row {r : Row} (h : RowP r) : (dRow r).canLay0 = true := by
  have h1 := can_str (okS_plain h.word.1)
  have h2 := can_str h.okText
  simp only [PyData.canLay0] at h1 h2
  have h3 : PyData.canLayAll0 (r.2.1.map fun i => PyData.int i) = true := canAll_map fun i _ => by simp [PyData.canLay0]
  simp only [PyData.canLay0, PyData.canLayAll0, h1, h2, h3, Bool.and_true]
noncomputable abbrev vMet (e : Met) : VP := vTup [vStr e.1, vInt (e.2.1 : Int), vInt (e.2.2 : Int)]
theorem vds_map {α : Type} {f : α → VP} {g : α → PyData} (h : ∀ x, VD (f x) (g x)) : ∀ l : List α, VDs (l.map f) (l.map g) := VDs.map f g h
theorem vd_row (r : Row) : VD (vRow r) (dRow r) := vd_tup (.cons (vd_str _) (.cons (vd_list (VDs.map vInt (fun i : Int => PyData.int i) vd_int r.2.1)) (.cons (vd_str _) .nil)))
theorem vd_rows (l : List Row) : VD (vList (l.map vRow)) (.list (l.map dRow)) := vd_list (vds_map vd_row l)
theorem shaped_rows (l : List Row) (h : ∀ r ∈ l, RowP r) : SeqAt.shaped (.list (l.map dRow)) = true := shaped_list dk_row (by decide) fun r hr => can_row (h r hr)
theorem vd_ints (l : List Int) : VD (vList (l.map vInt)) (.list (l.map fun i => .int i)) := vd_list (VDs.map vInt (fun i : Int => PyData.int i) vd_int l)
theorem shaped_ints (l : List Int) : SeqAt.shaped (.list (l.map fun i => .int i)) = true := shaped_list dk_int (by decide) fun i _ => by simp [PyData.canLay0]
theorem zip_vi : ∀ (cs ds : List Int), List.zipWith (fun p q => vTupW [p, q]) (cs.map vInt) (ds.map vInt) = (cs.zip ds).map fun x => vTupW [vInt x.1, vInt x.2]
  | [], _ => by simp
  | _ :: _, [] => by simp
  | b :: bs, l :: ls => by
    have := zip_vi bs ls
    simp only [List.map_cons, List.zipWith_cons_cons, List.zip_cons_cons] at this ⊢
    rw [this]
/-- a row held against another one -/
theorem waves_ok {prog : Program} {w : World} {g : Heap} (G : Grd (KK w) g) (r0 : Row) (rs : List Row) (hR : ∀ r ∈ r0 :: rs, RowP r) (hn : (r0 :: rs).length ≤ 8) :
    FnD prog w g (.ref 195) 140 [vList ((r0 :: rs).map vRow)] [] (vList ((bfs ((r0 :: rs).map (·.1)) r0.1 (r0 :: rs).length).map vMet)) [] := by
  refine FnR.of_vars (K := KK w) G (by walk_at "isfn") [(PySem.Str.ofString "rows", vList ((r0 :: rs).map vRow))] rfl (vals1 fun a => rfl) rfl (by with_unfolding_all rfl) fun A F s L rm => ?_
  have hm0 : r0 ∈ r0 :: rs := List.mem_cons_self
  have hw0 : r0.1 ∈ (r0 :: rs).map (·.1) := List.mem_cons_self
  have hr0 : ((r0 :: rs).map vRow)[0]? = some (vRow r0) := rfl
  have htk : ((r0 :: rs).map vRow).take 1 = [r0].map vRow := rfl
  have hz : ((r0 :: rs).map vRow).length ≤ sizeLine := by rw [List.length_map, sizeLine_is]; omega
  have hW0 : WaveOK (r0 :: rs) r0.1 0 0 [r0] := wave_first hm0
  have hb0 : [vTup [vStr r0.1, vInt 0, vInt 0]] = (bfs ((r0 :: rs).map (·.1)) r0.1 0).map vMet := rfl
  generalize r0 :: rs = rows at *
  refine Exs.asOwn (EvN.eq (EvN.disp (EvAll.cons (Ev.tup (EvAll.cons (Ev.atT (k := 0) (Ev.atL (k := 0) (by walk_at "src") (by exact Ev.cInt) hr0 hz) (by exact Ev.cInt) rfl (Nat.le_of_ble_eq_true rfl)) (EvAll.cons (by exact Ev.cInt) (EvAll.cons (by exact Ev.cInt) EvAll.nil))) (Nat.le_of_ble_eq_true rfl)) EvAll.nil) (Nat.le_of_ble_eq_true rfl)) hb0) fun aD haD => ⟨_, by walk_at "put", ?_⟩
  refine Exs.assign (p := vList ([r0].map vRow)) (EvN.ev (EvN.eq (EvN.upto (k := 1) (by walk_at "src") (by exact Ev.cInt) hz) htk)) (As.name (by walk_at "put")) ?_
  refine Exs.assign (p := vInt ((0 : Nat) : Int)) (by exact Ev.cInt) (As.name (by walk_at "put")) ?_
  refine Exs.whlI (fun n σ => ∃ i k wv, (n = rows.length - i ∧ WaveOK rows r0.1 i k wv) ∧ σ = { vars := [(PySem.Str.ofString "steps", vInt (k : Int)), (PySem.Str.ofString "wave", vList (wv.map vRow)), (PySem.Str.ofString "due", vVal (.ref aD)), (PySem.Str.ofString "rows", vList (rows.map vRow))], res := [(aD, .lst ((bfs (rows.map (·.1)) r0.1 i).map vMet))] }) rows.length ⟨_, by walk_at "wk", 0, 0, [r0], ⟨rfl, hW0⟩, rfl⟩ fun n σn hi => ?_
  obtain ⟨i, k, wv, ⟨rfl, hW⟩, rfl⟩ := hi
  refine ⟨!decide (wv = []), _, Tst.eq (Tst.neD (p := vList (wv.map vRow)) (q := vList (([] : List Row).map vRow)) (by walk_at "ev") (EvN.ev (EvN.disp .nil)) (vd_rows wv).sd (vd_rows []).sd (shaped_rows wv fun r hr => hR r (hW.rw_ r hr)) (shaped_rows [] fun r hr => (List.not_mem_nil hr).elim) (by have := rm.units; show A.units + 3 + 64 < 9900; omega)) (by rw [(dk_list dk_row).inj]), fun ht => ?_, fun ht => ?_⟩
  · have hne : wv ≠ [] := by simpa using ht
    have hwl : 0 < wv.length := List.length_pos_iff.mpr hne
    refine Exs.assign (p := vInt ((k + 1 : Nat) : Int)) (Ev.eq (Ev.add (by walk_at "ev") (by walk_at "ev")) rfl) (As.name (by walk_at "put")) ?_
    refine Exs.asOwn (EvN.disp .nil) fun aA haA => ⟨_, by walk_at "put", ?_⟩
    refine Exs.forI (EvIter.listT (by walk_at "ev") (fun q hq => by obtain ⟨r, _, rfl⟩ := List.mem_map.mp hq; exact ⟨_, rfl⟩))
      (fun j σ => ∃ m ah, (m = bfs (rows.map (·.1)) r0.1 (i + j) ∧ bfs (rows.map (·.1)) r0.1 i <+: m ∧ AhOK rows (k + 1) (i + wv.length) m ah) ∧ σ = { vars := [(PySem.Str.ofString "ahead", vVal (.ref aA)), (PySem.Str.ofString "steps", vInt ((k + 1 : Nat) : Int)), (PySem.Str.ofString "wave", vList (wv.map vRow)), (PySem.Str.ofString "due", vVal (.ref aD)), (PySem.Str.ofString "rows", vList (rows.map vRow))], res := [(aA, .lst (ah.map vRow)), (aD, .lst (m.map vMet))] })
      ⟨_, by walk_at "wk", _, [], ⟨rfl, List.prefix_refl _, wave_start hW hw0⟩, rfl⟩ (fun j p pv σj hp hi => ?_) fun σj hi => ?_
    · obtain ⟨m, ah, ⟨hm, hpre, hA⟩, rfl⟩ := hi
      rw [List.getElem?_map] at hp
      obtain ⟨q, hq, rfl⟩ := Option.map_eq_some_iff.mp hp
      have hqm : q ∈ rows := hW.rw_ q (List.mem_of_getElem? hq)
      have hqP := hR q hqm
      obtain ⟨hb1, hb2⟩ := wave_at hW hq (hm ▸ hpre) hw0
      rw [← hm] at hb1
      refine ⟨_, As.tup (AsAll.cons (As.name (by walk_at "put")) (AsAll.cons (As.name (by walk_at "put")) (AsAll.cons (As.name (by walk_at "put")) AsAll.nil))), ?_⟩
      refine Exs.forI (EvIter.listL (by walk_at "ev") calm_name)
        (fun t σ => ∃ mm ah2, (mm = scan q.1 (k + 1) m ((rows.take t).map (·.1)) ∧ AhOK rows (k + 1) (i + wv.length) mm ah2) ∧ σ = { vars := [(PySem.Str.ofString "text", vStr q.2.2), (PySem.Str.ofString "columns", vCol q.2.1), (PySem.Str.ofString "word", vStr q.1), (PySem.Str.ofString "ahead", vVal (.ref aA)), (PySem.Str.ofString "steps", vInt ((k + 1 : Nat) : Int)), (PySem.Str.ofString "wave", vList (wv.map vRow)), (PySem.Str.ofString "due", vVal (.ref aD)), (PySem.Str.ofString "rows", vList (rows.map vRow))], res := [(aA, .lst (ah2.map vRow)), (aD, .lst (mm.map vMet))] })
        ⟨_, by walk_at "wk", m, ah, ⟨rfl, hA⟩, rfl⟩ (fun t p pv2 σt hp hi => ?_) fun σt hi => ?_
      · obtain ⟨mm, ah2, ⟨hmm, hA2⟩, rfl⟩ := hi
        rw [List.getElem?_map] at hp
        obtain ⟨r, hr, rfl⟩ := Option.map_eq_some_iff.mp hp
        have hrm : r ∈ rows := List.mem_of_getElem? hr
        have hrP := hR r hrm
        have hnx : scan q.1 (k + 1) m ((rows.take (t + 1)).map (·.1)) = scan1 q.1 (k + 1) mm r.1 := by rw [take_snoc hr, List.map_append, hmm]; exact scan_snoc _ _ _ _ _
        obtain ⟨l1, l2⟩ := hA2.len
        have zm : mm.length ≤ sizeLine := by rw [sizeLine_is]; omega
        have zm' : (mm.map vMet).length ≤ sizeLine := by rw [List.length_map]; exact zm
        have za : (ah2.map vRow).length ≤ sizeLine := by rw [List.length_map, sizeLine_is]; omega
        have hwds : ((mm.filter fun _ => true).map fun e => vStr e.1) = vStrs (words mm) := by rw [filter_all]; unfold vStrs words; rw [List.map_map]; rfl
        refine ⟨_, As.name (by walk_at "put"), ?_⟩
        refine Exs.iff (Tst.inL (by exact Ev.atT (k := 0) (by walk_at "ev") (by exact Ev.cInt) rfl (Nat.le_of_ble_eq_true rfl)) (Ev.srcL (Ev.eq (Ev.compP (cl := []) (cv := []) mm vMet (fun _ => true) (fun e => vStr e.1) (EvIter.own (by walk_at "ev") (RAt.mem (by walk_at "rmem")) (.inl calm_name)) (Seen.none (by decide) rfl (by decide) (by decide)) zm ?zt) (congrArg vList hwds)))) (fun h => ?_) fun h => ?_
        case zt =>
          intro C F0 s0 W pv e he
          refine ⟨_, As.name (Put.newL rfl rfl), rfl, .nil _, fun _ => ?_⟩
          exact Ev.atT (k := 0) (by walk_at "ev") (by exact Ev.cInt) rfl (Nat.le_of_ble_eq_true rfl)
        · exact Exs.cont ⟨_, by walk_at "wk", mm, ah2, ⟨by rw [hnx, scan1_in h], hA2⟩, rfl⟩
        · refine Exs.nil ?_
          have hfi : (((q.2.1.zip r.2.1).filter fun x => decide (x.1 ≥ x.2)).map fun x => vInt x.1) = (((q.2.1.zip r.2.1).filter fun x => decide (x.1 ≥ x.2)).map (·.1)).map vInt := by rw [List.map_map]; rfl
          have hbl : PyData.eqv (.list ((((q.2.1.zip r.2.1).filter fun x => decide (x.1 ≥ x.2)).map (·.1)).map fun i => PyData.int i)) (.list (([] : List Int).map fun i => PyData.int i)) = lessOf q.1 r.1 := by
            rw [(dk_list dk_int).inj, ← row_below hqP hrP]
            unfold below
            rw [Bool.eq_iff_iff, decide_eq_true_iff, decide_eq_true_iff, List.map_eq_nil_iff]
          have zz : (q.2.1.zip r.2.1).length ≤ sizeLine := by
            have h1 := congrArg List.length hqP.ws.2
            rw [List.length_map, List.length_range] at h1
            rw [List.length_zip, sizeLine_is]; omega
          have hgo : goes q.1 r.1 = (lessOf q.1 r.1 && decide (costOf q.1 r.1 < 5)) := rfl
          have hco := cost_ok (prog := prog) (w := w) G q.1 r.1 (by have := hqP.word.2; omega) (by have := hrP.word.2; omega)
          refine Exs.iff (Tst.eq (Tst.eqD (p := vList ((((q.2.1.zip r.2.1).filter fun x => decide (x.1 ≥ x.2)).map (·.1)).map vInt)) (q := vList (([] : List Int).map vInt)) (Ev.eq (Ev.compP (cl := []) (cv := []) (R0 := []) (q.2.1.zip r.2.1) (fun x => vTupW [vInt x.1, vInt x.2]) (fun x => decide (x.1 ≥ x.2)) (fun x => vInt x.1) ?yi (Seen.none (by decide) rfl (by decide) (by decide)) zz ?yt) (congrArg vList hfi)) (EvN.ev (EvN.disp .nil)) (vd_ints _).sd (vd_ints []).sd (shaped_ints _) (shaped_ints []) (by have := rm.units; show A.units + 3 + 64 < 9900; omega)) hbl) (fun h2 => ?_) fun h2 => ?_
          case yi =>
            rw [← zip_vi]
            exact EvIter.zip (by walk_at "ev") (EvAll.cons (by walk_at "ev") (EvAll.cons (by exact Ev.atT (k := 1) (by walk_at "ev") (by exact Ev.cInt) rfl (Nat.le_of_ble_eq_true rfl)) EvAll.nil))
          case yt =>
            intro C F0 s0 W pv x hx
            refine ⟨_, As.tupW (AsAll.cons (As.name (Put.newL rfl rfl)) (AsAll.cons (As.name (Put.newL rfl rfl)) AsAll.nil)), rfl, .one (by walk_at "tst"), fun _ => by walk_at "ev"⟩
          · rw [h2, Bool.true_and] at hgo
            generalize hcc : costOf q.1 r.1 = c at *
            refine Exs.assign (p := vInt (c : Int)) (by exact Ev.callP (K := KK w) G (by walk_at "isfn") (by walk_at "ev") (EvAll.cons (by walk_at "ev") (EvAll.cons (Ev.atT (k := 0) (by walk_at "ev") (by exact Ev.cInt) rfl (Nat.le_of_ble_eq_true rfl)) EvAll.nil)) hco (rm.in_.le (by decide))) (As.name (by walk_at "put")) ?_
            refine Exs.iff (by walk_at "tst") (fun h3 => ?_) fun h3 => ?_
            · have h3' : c < 5 := by have := of_decide_eq_true h3; omega
              have hys : scan q.1 (k + 1) m ((rows.take (t + 1)).map (·.1)) = mm ++ [(r.1, k + 1, c)] := by rw [hnx, scan1_yes h (hgo.trans (decide_eq_true h3')), hcc]
              refine Exs.exp (Ev.app ((mm ++ [(r.1, k + 1, c)]).map vMet) (by walk_at "ev") (Ev.tup (EvAll.cons (Ev.atT (k := 0) (by walk_at "ev") (by exact Ev.cInt) rfl (Nat.le_of_ble_eq_true rfl)) (EvAll.cons (by walk_at "ev") (EvAll.cons (by walk_at "ev") EvAll.nil))) (Nat.le_of_ble_eq_true rfl)) (by walk_at "rset") (by rw [List.map_append]; rfl) zm') ?_
              refine Exs.exp (Ev.app ((ah2 ++ [r]).map vRow) (by walk_at "ev") (by walk_at "ev") (by walk_at "rset") (by rw [List.map_append]; rfl) za) ?_
              exact Exs.nil (Exs.nil (Exs.nil ⟨_, by walk_at "wk", _, _, ⟨hys.symm, hA2.add hrm h c⟩, rfl⟩))
            · have h3' : ¬ c < 5 := by have := of_decide_eq_false h3; omega
              exact Exs.nil (Exs.nil (Exs.nil ⟨_, by walk_at "wk", mm, ah2, ⟨by rw [hnx, scan1_no h (hgo.trans (decide_eq_false h3'))], hA2⟩, rfl⟩))
          · rw [h2, Bool.false_and] at hgo
            exact Exs.nil (Exs.nil ⟨_, by walk_at "wk", mm, ah2, ⟨by rw [hnx, scan1_no h hgo], hA2⟩, rfl⟩)
      · obtain ⟨mm, ah2, ⟨hmm, hA2⟩, rfl⟩ := hi
        rw [List.length_map, List.take_length] at hmm
        exact Exs.nil ⟨_, by walk_at "wk", mm, ah2, ⟨by rw [hmm]; exact hb1.symm, by rw [hmm, ← hb1]; exact hb2, hA2⟩, rfl⟩
    · obtain ⟨m, ah, ⟨hm, hpre, hA⟩, rfl⟩ := hi
      rw [List.length_map] at hm
      subst hm
      have hl := wave_len hW
      have hlb := bfs_len hw0 i
      rw [List.length_map] at hlb
      refine Exs.freeze (a := aA) (ps := ah.map vRow) (At.mem (by walk_at "mem")) (by walk_at "rdel") (by walk_at "rep") haA ?_
      refine Exs.assign (p := vList (ah.map vRow)) (by walk_at "ev") (As.name (by walk_at "put")) ?_
      exact Exs.nil ⟨_, by walk_at "wk", rows.length - (i + wv.length), by omega, i + wv.length, k + 1, ah, ⟨rfl, wave_next hA⟩, rfl⟩
  · have hnil : wv = [] := by simpa using ht
    rw [wave_end hW hw0 hnil]
    refine Exs.freeze (a := aD) (ps := (bfs (rows.map (·.1)) r0.1 rows.length).map vMet) (At.mem (by walk_at "mem")) (by walk_at "rdel") (by walk_at "rep") haD ?_
    exact Exs.ret (by walk_at "ev") ⟨[], .slnil, rfl, rfl⟩
structure IsLaw (K : Frag) (a : Addr) (fd : FuncData) (body : List Stmt) : Prop where
  obj : ∃ o, K.lookup a = some o ∧ o.data = .func fd
  body : fd.body = .stmts body
structure LawFn (K : Frag) (a : Addr) where
  fd : FuncData
  body : List Stmt
  is : IsLaw K a fd body
noncomputable def lawFn (w : World) : LawFn (KK w) 200 := { fd := _, body := _, is := ⟨⟨_, rfl, rfl⟩, rfl⟩ }
noncomputable def lawCx (prog : Program) (w : World) (A : Around) (g : Heap) (fd : FuncData) (L fa : Addr) (cd : Value) (F : FH) (s : Shared) : Cx :=
  { prog := prog, w := w, A := A.deeper (envX (PySem.Str.ofString "law") fd.scope L fa cd (cellsFrom (L + 1) fd.scope.names [])), env := envX (PySem.Str.ofString "law") fd.scope L fa cd (cellsFrom (L + 1) fd.scope.names []), g := g, F0 := F, s0 := s, W := fun a => a = 159, own := true, priv := [] }
noncomputable abbrev lineT (a d pb cl sg : Addr) (co : Cell) (fo : Obj) (fa : Addr) (ps : List VP) (n : Int) (l : List Nat) (tb : Cell) : Res :=
  [(pb, .lst ps), (d, .inst a CN (lexF n (vInst CN (feedF fa fo)) pb)), (cl, co), (sg, .lst (sgs l)), (159, tb)]
noncomputable def cellsOf (script : List Int) : List Int := [60, 281, 7681] ++ script.take 4
noncomputable def rowsOf (script : List Int) : List Row := (rState (cellsOf script)).2
noncomputable def restOf (rows : List Row) (k : Nat) : List Nat := ((rows.drop k).map fun r => r.2.2).flatten ++ [46, 10]
noncomputable abbrev pageOf (rows : List Row) : List Nat := restOf rows 0
structure RowsP (rows : List Row) : Prop where
  ne : ∃ r0 rs, rows = r0 :: rs
  len : rows.length ≤ 7
  row : ∀ r ∈ rows, RowP r
theorem rows_p (script : List Int) : RowsP (rowsOf script) := by
  have hl : (cellsOf script).length ≤ 7 ∧ 3 ≤ (cellsOf script).length := by unfold cellsOf; rw [List.length_append, List.length_take]; simp; omega
  have h := rState_p _ (cellsOf script) rfl hl.1
  have hn := h.nr
  refine ⟨?_, by unfold rowsOf; omega, h.rows⟩
  unfold rowsOf
  cases hq : (rState (cellsOf script)).2 with
  | nil => rw [hq] at hn; simp at hn; omega
  | cons r0 rs => exact ⟨r0, rs, rfl⟩
theorem restOf_cons {rows : List Row} {k : Nat} {r : Row} (h : rows[k]? = some r) : restOf rows k = r.2.2 ++ restOf rows (k + 1) := by
  unfold restOf
  rw [drop_at h, List.map_cons, List.flatten_cons, List.append_assoc]
theorem restOf_len {rows : List Row} (h : RowsP rows) (k : Nat) : (restOf rows k).length ≤ 1000 := by
  have := flat_len 100 ((rows.drop k).map fun r => r.2.2) (fun l hl => by obtain ⟨r, hr, rfl⟩ := List.mem_map.mp hl; exact (h.row r (List.drop_subset _ _ hr)).size)
  have hl := h.len
  rw [List.length_map, List.length_drop] at this
  unfold restOf
  rw [List.length_append]
  show _ + 2 ≤ 1000
  omega
theorem restOf_end (rows : List Row) : restOf rows rows.length = [46, 10] := by unfold restOf; rw [List.drop_length]; rfl
theorem law1 {prog : Program} {w : World} {A : Around} {g : Heap} {L fa : Addr} {cd : Value} {F : FH} {s : Shared} (G : Grd (KK w) g) (LG : LamG g 163 159) (rm : Room (lawCx prog w A g (lawFn w).fd L fa cd F s).A 200) (script : List Int) (hs : script.length ≤ 63) (P : Out → Prop)
    (hk : Exs (lawCx prog w A g (lawFn w).fd L fa cd F s) { vars := [(PySem.Str.ofString "rows", vList ((rowsOf script).map vRow)), (PySem.Str.ofString "script", vListW (script.map vInt))], res := [(159, .raw (tabObj #[]) [])] } ((lawFn w).body.drop 1) P) :
    Exs (lawCx prog w A g (lawFn w).fd L fa cd F s) { vars := [(PySem.Str.ofString "script", vListW (script.map vInt))], res := [(159, .raw (tabObj #[]) [])] } (lawFn w).body P := by
  have zs : (script.map vInt).length ≤ sizeLine := by rw [List.length_map, sizeLine_is]; omega
  have hcl : [vInt 60, vInt 281, vInt 7681] ++ (script.map vInt).take 4 = (cellsOf script).map vInt := by unfold cellsOf; rw [List.map_append, List.map_take]; rfl
  have hzz : [vInt 60, vInt 281, vInt 7681].length + ((script.map vInt).take 4).length ≤ sizeLine := by rw [sizeLine_is, List.length_take, List.length_map]; simp; omega
  have hcn : (cellsOf script).length ≤ 7 := by unfold cellsOf; simp; omega
  refine Exs.assign (p := vList ((rowsOf script).map vRow)) (Ev.callP (K := KK w) G (by walk_at "isfn") (by walk_at "ev") (EvAll.cons (Ev.listW (EvN.ev (EvN.eq (EvN.addL (ps := [vInt 60, vInt 281, vInt 7681]) (qs := (script.map vInt).take 4) ?za ?zb hzz) hcl))) EvAll.nil) (rowsFn_ok G (cellsOf script) hcn) (rm.le (by decide))) (As.name (by walk_at "put")) hk
  case za => exact Ev.src (EvN.ev (EvN.disp (EvAll.cons (by exact Ev.cInt) (EvAll.cons (by exact Ev.cInt) (EvAll.cons (by exact Ev.cInt) EvAll.nil))) (Nat.le_of_ble_eq_true rfl)))
  case zb => exact EvN.upto (k := 4) (by walk_at "src") (by exact Ev.cInt) zs
theorem law2 {prog : Program} {w : World} {A : Around} {g : Heap} {L fa : Addr} {cd : Value} {F : FH} {s : Shared} (G : Grd (KK w) g) (LG : LamG g 163 159) (rm : Room (lawCx prog w A g (lawFn w).fd L fa cd F s).A 200) (script : List Int) (rows : List Row) (hr : RowsP rows) (P : Out → Prop)
    (hk : ∀ (sg a d pb cl : Addr) (co : Cell) (fo : Obj) (fc : Addr) (fd : FuncData) (ts : Array Value) (fz : List (Addr × Obj)), fo.data = .func fd → ReadOK prog w g fc cl sg co →
      Exs (lawCx prog w A g (lawFn w).fd L fa cd F s) { vars := [(PySem.Str.ofString "line", vVal (.ref a)), (PySem.Str.ofString "signs", vVal (.ref sg)), (PySem.Str.ofString "page", vStr (pageOf rows)), (PySem.Str.ofString "rows", vList (rows.map vRow)), (PySem.Str.ofString "script", vListW (script.map vInt))], res := lineT a d pb cl sg co fo fc [] 1 (pageOf rows) (.raw (tabObj ts) fz) } ((lawFn w).body.drop 4) P) :
    Exs (lawCx prog w A g (lawFn w).fd L fa cd F s) { vars := [(PySem.Str.ofString "rows", vList (rows.map vRow)), (PySem.Str.ofString "script", vListW (script.map vInt))], res := [(159, .raw (tabObj #[]) [])] } ((lawFn w).body.drop 1) P := by
  have hrl := hr.len
  have hj : JoinOk (L2S []) ((rows.map fun r => r.2.2).map L2S) = true := joinOk_of 8 300 (by rw [List.length_map]; omega) (fun l hl => by obtain ⟨r, hr', rfl⟩ := List.mem_map.mp hl; have := (hr.row r hr').size; omega) (by decide) (by decide)
  have hcomp : ((rows.filter fun _ => true).map fun r => vStr r.2.2) = vStrs (rows.map fun r => r.2.2) := by rw [filter_all]; unfold vStrs; rw [List.map_map]; rfl
  have hrz : rows.length ≤ sizeLine := by rw [sizeLine_is]; omega
  have hpl := restOf_len hr 0
  have hplz : (pageOf rows).length ≤ sizeLine := Nat.le_trans hpl (by rw [sizeLine_is]; decide)
  have hpz : (rows.map fun r => r.2.2).flatten.length + [46, 10].length ≤ sizeLine := by rw [sizeLine_is]; unfold restOf at hpl; rw [List.length_append, List.drop_zero] at hpl; omega
  have hpg : (rows.map fun r => r.2.2).flatten ++ [46, 10] = pageOf rows := rfl
  refine Exs.assign (p := vStr (pageOf rows)) (Ev.eq (Ev.addS (x := (rows.map fun r => r.2.2).flatten) (y := [46, 10]) (Ev.eq (Ev.join (x := []) (ls := rows.map fun r => r.2.2) (by exact Ev.cStr rfl) (Ev.srcL (Ev.eq (Ev.compP (cl := []) (cv := []) (R0 := []) rows vRow (fun _ => true) (fun r => vStr r.2.2) ?zi ?zs hrz ?zt) (congrArg vList hcomp))) hj) (congrArg vStr (joinL_flat _))) (by exact Ev.cStr rfl) hpz) (congrArg vStr hpg)) (As.name (by walk_at "put")) ?_
  case zi => exact EvIter.listL (by walk_at "ev") calm_name
  case zs => exact Seen.none (by decide) rfl (by decide) (by decide)
  case zt =>
    intro C F0 s0 W pv r hr'
    refine ⟨_, As.name (Put.newL rfl rfl), rfl, .nil _, fun _ => ?_⟩
    exact Ev.atT (k := 2) (by walk_at "ev") (by exact Ev.cInt) rfl (Nat.le_of_ble_eq_true rfl)
  refine Exs.asOwn (EvN.listS (by walk_at "ev") (by walk_at "ev") hplz) fun sg hsg => ⟨_, by walk_at "put", ?_⟩
  refine Exs.assignE (EvE.callF (K := KK w) (R := [(sg, .lst (sgs (pageOf rows))), (159, .raw (tabObj #[]) [])]) (L := []) G ⟨_, _, rfl, rfl⟩ (by walk_at "ev") (EvAll.cons (by walk_at "ev") EvAll.nil) (open_ok G LG (pageOf rows) sg) (rm.le (by decide)) (.left (.left .nil))) fun p σ' h => ?_
  obtain ⟨R', ⟨a, d, pb, cl, co, fo, fc, fd, ts, fz, rfl, hfo, hro, rfl⟩, hn, rfl⟩ := h
  refine ⟨_, As.name (by walk_at "put"), ?_⟩
  refine Exs.perm (R' := lineT a d pb cl sg co fo fc [] 1 (pageOf rows) (.raw (tabObj ts) fz)) ?_ ?_
  · exact ((List.Perm.swap _ _ _).cons _).trans (List.Perm.swap _ _ _)
  · exact hk sg a d pb cl co fo fc fd ts fz hfo hro
theorem Seen.one {cx : Cx} {σ : St} {scope : Scope} {x : PySem.Str} {c : Addr} {p : VP} (hclos : closureFor scope cx.env = pure [(x, c)]) (hk : scope.kind = .function) (hn : ∀ x ∈ scope.names, x.2 = .local → scope.names.lookup x.1 = some .local) (hnc : ∀ x ∈ scope.names, x.2 ≠ .cell)
    (hc : cx.env.cells.lookup x = some c) (hv : At x p σ.vars) (hkc : cx.env.kindOf x = some .cell) (hr : (relabel scope cx.env).names.lookup x = some .cell) : Seen cx σ scope [(x, c)] [(x, p)] :=
  ⟨hclos, hk, hn, hnc, fun y d hm => by cases List.mem_singleton.mp hm; exact mem_of_lookup hc, List.pairwise_singleton _ _, fun y q hm => by
    cases List.mem_singleton.mp hm
    exact ⟨hv.mem, by rw [hkc]; decide, by rw [hc]; simp [List.lookup], .inl hr⟩, List.nodup_cons.mpr ⟨List.not_mem_nil, List.nodup_nil⟩⟩
noncomputable abbrev dStrs (ls : List (List Nat)) : PyData := .list (ls.map fun l => .str (L2S l))
theorem vd_strs (ls : List (List Nat)) : VD (vList (vStrs ls)) (dStrs ls) := vd_list (VDs.map vStr (fun l => PyData.str (L2S l)) vd_str ls)
theorem shaped_strs (ls : List (List Nat)) (h : ∀ l ∈ ls, okS l) : SeqAt.shaped (dStrs ls) = true := shaped_list dk_str (by decide) fun l hl => can_str (h l hl)
noncomputable def poolOf (rows : List Row) : List (List Nat) := rows.map (·.1)
noncomputable def rowAt (rows : List Row) (k : Nat) : List Nat := match rows[k]? with | some r => r.1 | none => []
theorem pool_ok {rows : List Row} (h : RowsP rows) : ∀ l ∈ poolOf rows, okS l := fun l hl => by obtain ⟨r, hr, rfl⟩ := List.mem_map.mp hl; exact okS_plain (h.row r hr).word.1
theorem nl_end (rows : List Row) : 1 + nls (pageOf rows) - nls (restOf rows rows.length) = nls (pageOf rows) := by rw [restOf_end]; show 1 + nls (pageOf rows) - 1 = _; omega
theorem law3 {prog : Program} {w : World} {A : Around} {g : Heap} {L fa : Addr} {cd : Value} {F : FH} {s : Shared} (G : Grd (KK w) g) (rm : Room (lawCx prog w A g (lawFn w).fd L fa cd F s).A 200) (script : List Int) (rows : List Row) (hr : RowsP rows)
    {sg a d pb cl : Addr} {co : Cell} {fo : Obj} {fc : Addr} {fd : FuncData} {ts : Array Value} {fz : List (Addr × Obj)} (hfo : fo.data = .func fd) (hro : ReadOK prog w g fc cl sg co) (P : Out → Prop)
    (hk : Exs (lawCx prog w A g (lawFn w).fd L fa cd F s) { vars := [(PySem.Str.ofString "pool", vList (vStrs (poolOf rows))), (PySem.Str.ofString "line", vVal (.ref a)), (PySem.Str.ofString "signs", vVal (.ref sg)), (PySem.Str.ofString "page", vStr (pageOf rows)), (PySem.Str.ofString "rows", vList (rows.map vRow)), (PySem.Str.ofString "script", vListW (script.map vInt))], res := lineT a d pb cl sg co fo fc [] (nls (pageOf rows)) [46, 10] (.raw (tabObj ts) fz) } ((lawFn w).body.drop 6) P) :
    Exs (lawCx prog w A g (lawFn w).fd L fa cd F s) { vars := [(PySem.Str.ofString "line", vVal (.ref a)), (PySem.Str.ofString "signs", vVal (.ref sg)), (PySem.Str.ofString "page", vStr (pageOf rows)), (PySem.Str.ofString "rows", vList (rows.map vRow)), (PySem.Str.ofString "script", vListW (script.map vInt))], res := lineT a d pb cl sg co fo fc [] 1 (pageOf rows) (.raw (tabObj ts) fz) } ((lawFn w).body.drop 4) P := by
  have hrl := hr.len
  have hrz : rows.length ≤ sizeLine := by rw [sizeLine_is]; omega
  have hu : (lawCx prog w A g (lawFn w).fd L fa cd F s).A.units + 64 < cLine := by have := rm.units; show _ < 9900; omega
  have e0 : 1 + nls (pageOf rows) - nls (restOf rows 0) = 1 := by show 1 + nls (restOf rows 0) - nls (restOf rows 0) = 1; omega
  have hpo : ((rows.filter fun _ => true).map fun r => vStr r.1) = vStrs (poolOf rows) := by rw [filter_all]; unfold vStrs poolOf; rw [List.map_map]; rfl
  have hpk := pool_ok hr
  refine Exs.assignComp (cl := [(PySem.Str.ofString "line", L + 1)]) (cv := [(PySem.Str.ofString "line", vVal (.ref a))]) (ps := rows.map vRow) (R0 := []) (EvIter.listL (by walk_at "ev") calm_name) (Seen.one (by with_unfolding_all rfl) rfl (by decide) (by decide) rfl (by walk_at "mem") rfl (by with_unfolding_all rfl))
    (fun k => lineT a d pb cl sg co fo fc [] (1 + nls (pageOf rows) - nls (restOf rows k)) (restOf rows k) (.raw (tabObj ts) fz)) (by rw [e0]) (fun _ => rfl) (fun k x hx => (List.not_mem_nil hx).elim)
    (fun k => vStrs ((rows.take k).map (·.1))) rfl (fun _ => true) (fun k => vStr (rowAt rows k)) (fun k hk => ?_) (fun k _ => ?_) (fun C F0 s0 W pv k p hp => ?_) (vars' := [(PySem.Str.ofString "pool", vList (vStrs (poolOf rows))), (PySem.Str.ofString "line", vVal (.ref a)), (PySem.Str.ofString "signs", vVal (.ref sg)), (PySem.Str.ofString "page", vStr (pageOf rows)), (PySem.Str.ofString "rows", vList (rows.map vRow)), (PySem.Str.ofString "script", vListW (script.map vInt))]) ?_ ?_
  · rw [List.length_map] at hk
    obtain ⟨r, hrk⟩ : ∃ r, rows[k]? = some r := ⟨_, List.getElem?_eq_getElem hk⟩
    show vStrs ((rows.take (k + 1)).map (·.1)) = vStrs ((rows.take k).map (·.1)) ++ [vStr (rowAt rows k)]
    unfold rowAt vStrs
    rw [take_snoc hrk, hrk, List.map_append, List.map_append]; rfl
  · show (vStrs ((rows.take k).map (·.1))).length ≤ sizeLine
    unfold vStrs
    rw [List.length_map, List.length_map, List.length_take, sizeLine_is]; omega
  · rw [List.getElem?_map] at hp
    obtain ⟨r, hrk, rfl⟩ := Option.map_eq_some_iff.mp hp
    have hmem := List.mem_of_getElem? hrk
    have hat : rowAt rows k = r.1 := by unfold rowAt; rw [hrk]
    have hpl := restOf_len hr k
    rw [hat]
    have hget := get_read (prog := prog) (w := w) (x := r.1) (r := restOf rows (k + 1)) G hfo hro (restOf rows k) (by omega) (by rw [restOf_cons hrk]; exact (hr.row r hmem).tok _) (1 + nls (pageOf rows) - nls (restOf rows k)) a d pb
    rw [show 1 + nls (pageOf rows) - nls (restOf rows k) + nls (restOf rows k) - nls (restOf rows (k + 1)) = 1 + nls (pageOf rows) - nls (restOf rows (k + 1)) from by omega] at hget
    generalize restOf rows k = l1 at *
    generalize restOf rows (k + 1) = l2 at *
    refine ⟨_, _, As.name (Put.newL rfl rfl), rfl, .nil _, (fun q => by cases q), fun _ => ⟨_, Ev.callM0 (K := KK w) (f := 49) G ⟨_, _, rfl, rfl⟩ (by walk_at "ev") (HasMeth.owned (C := CN) (x := a) (d := d) G ⟨rfl, rfl, rfl⟩ (by walk_at "rmem") rfl) hget (rm.le (by decide)) (.take (.take (.take (.take (.skip .nil))))), rfl⟩⟩
  · show Put _ _ _ (vList (vStrs ((rows.take (rows.map vRow).length).map (·.1)))) _
    rw [List.length_map, List.take_length]
    walk_at "put"
  · show Exs _ { vars := _, res := lineT a d pb cl sg co fo fc [] (1 + nls (pageOf rows) - nls (restOf rows (rows.map vRow).length)) (restOf rows (rows.map vRow).length) (.raw (tabObj ts) fz) } _ P
    rw [List.length_map, nl_end, restOf_end]
    refine Exs.iff (c := false) (Tst.eq (Tst.neD (p := vList (vStrs (poolOf rows))) (q := vList (vStrs (poolOf rows))) (by walk_at "ev") (Ev.eq (Ev.compP (cl := []) (cv := []) (R0 := []) rows vRow (fun _ => true) (fun r => vStr r.1) (EvIter.listL (by walk_at "ev") calm_name) (Seen.none (by decide) rfl (by decide) (by decide)) hrz ?zt) (congrArg vList hpo)) (vd_strs _).sd (vd_strs _).sd (shaped_strs _ hpk) (shaped_strs _ hpk) hu) (by rw [(dk_list dk_str).inj]; simp)) (fun h => by cases h) fun _ => Exs.nil hk
    case zt =>
      intro C F0 s0 W pv r hr'
      refine ⟨_, As.name (Put.newL rfl rfl), rfl, .nil _, fun _ => ?_⟩
      exact Ev.atT (k := 0) (by walk_at "ev") (by exact Ev.cInt) rfl (Nat.le_of_ble_eq_true rfl)
theorem words_app (a b : List Met) : words (a ++ b) = words a ++ words b := List.map_append
/-- a word stands once -/
theorem filter_once : ∀ {m : List Met} {e : Met}, (words m).Nodup → e ∈ m → m.filter (fun x => x.1 == e.1) = [e]
  | [], _, _, h => (List.not_mem_nil h).elim
  | x :: m, e, nd, h => by
    obtain ⟨n1, n2⟩ := List.nodup_cons.mp (show (x.1 :: words m).Nodup from nd)
    rcases List.mem_cons.mp h with rfl | h
    · rw [List.filter_cons_of_pos (by simp), List.filter_eq_nil_iff.mpr fun y hy q => n1 ?_]
      rw [← beq_iff_eq.mp q]
      exact List.mem_map_of_mem (f := fun r : Met => r.1) hy
    · rw [List.filter_cons_of_neg, filter_once n2 h]
      intro q
      rw [beq_iff_eq.mp q] at n1
      exact n1 (List.mem_map_of_mem (f := fun r : Met => r.1) h)
section
variable {m mm : List Met} {i : Nat} {e : Met}
theorem words_drop (h : m[i]? = some e) : words (m.drop i) = e.1 :: words (m.drop (i + 1)) := by rw [drop_at h]; rfl
theorem words_take (h : m[i]? = some e) : words (m.take (i + 1)) = words (m.take i) ++ [e.1] := by rw [take_snoc h, words_app]; rfl
theorem words_snoc (h : i ≤ mm.length) (x : Met) : words ((mm ++ [x]).drop i) = words (mm.drop i) ++ [x.1] := by rw [List.drop_append_of_le_length h, words_app]; rfl
end
theorem Grown.len {pool k m m'} (h : Grown pool k m m') : m.length ≤ m'.length ∧ m'.length ≤ pool.length := by
  have := List.Nodup.length_le_of_subset h.nd h.sub
  rw [words, List.length_map] at this
  exact ⟨h.pre.length_le, this⟩
theorem pre_take {m mm : List Met} {i : Nat} (h : m <+: mm) (hi : i ≤ m.length) : words (mm.take i) = words (m.take i) := by
  obtain ⟨t, rfl⟩ := h
  rw [List.take_append_of_le_length hi]
theorem goes_lev {w o : List Nat} (hw : Plain6 w) (ho : Plain6 o) (lw : w.length ≤ 16) (lo : o.length ≤ 16) (hl : lessOf w o = true) : (lev w o 4 ≤ 4 → goes w o = true ∧ lev w o 4 = (costOf w o : Int)) ∧ (¬ lev w o 4 ≤ 4 → goes w o = false) := by
  obtain ⟨h1, h2⟩ := lev_cost w o hw ho (by omega) (by omega)
  unfold goes
  rw [hl, Bool.true_and]
  exact ⟨fun h => ⟨decide_eq_true (h1.mp h), h2 (h1.mp h)⟩, fun h => decide_eq_false fun q => h (h1.mpr q)⟩
theorem Tst.neD2 {cx : Cx} {σ σ₁ σ₂ : St} {pos : Pos} {a b : Expr} {p q : VP} {d e : PyData} (ha : Ev cx σ a p σ₁) (hb : Ev cx σ₁ b q σ₂) (hp : SD cx σ₂ p d) (hq : SD cx σ₂ q e) (h1 : SeqAt.shaped d = true) (h2 : SeqAt.shaped e = true) (hu : cx.A.units + 64 < cLine) (hm : behindInMarks .NotEq b = false := by with_unfolding_all rfl) :
    Tst cx σ (.Compare a [.NotEq] [b] pos) (!PyData.eqv d e) σ₂ := .cmp ha hb hm fun F s v u ok r1 r2 => by
  obtain ⟨as, x⟩ := hp F s v ok r1
  obtain ⟨bs, y⟩ := hq F s u ok r2
  exact fun Q E k => ne_dataH x y h1 h2 hu (k _ F _ (.refl ok.inh) rfl)
theorem vd_met (e : Met) : VD (vMet e) (dMet e) := vd_tup (.cons (vd_str _) (.cons (vd_int _) (.cons (vd_int _) .nil)))
theorem shaped_mets (l : List Met) (h : ∀ o ∈ words l, okS o) : SeqAt.shaped (.list (l.map dMet)) = true := shaped_list dk_met (by decide) fun e he => by
  have h1 := can_str (h e.1 (List.mem_map_of_mem (f := fun r : Met => r.1) he))
  simp only [PyData.canLay0] at h1
  simp only [PyData.canLay0, PyData.canLayAll0, h1, Bool.and_true]
/-- the run through the pool -/
theorem law4 {prog : Program} {w : World} {A : Around} {g : Heap} {L fa : Addr} {cd : Value} {F : FH} {s : Shared} (G : Grd (KK w) g) (rm : Room (lawCx prog w A g (lawFn w).fd L fa cd F s).A 200) (script : List Int) (rows : List Row) (hr : RowsP rows)
    {sg a d pb cl : Addr} {co : Cell} {fo : Obj} {fc : Addr} {fd : FuncData} {ts : Array Value} {fz : List (Addr × Obj)} (hfo : fo.data = .func fd) (hro : ReadOK prog w g fc cl sg co) (P : Out → Prop) (w0 : List Nat) (hw0 : (poolOf rows)[0]? = some w0)
    (hk : ∀ aT aM, Exs (lawCx prog w A g (lawFn w).fd L fa cd F s) { vars := [(PySem.Str.ofString "taken", vVal (.ref aT)), (PySem.Str.ofString "met", vVal (.ref aM)), (PySem.Str.ofString "pool", vList (vStrs (poolOf rows))), (PySem.Str.ofString "line", vVal (.ref a)), (PySem.Str.ofString "signs", vVal (.ref sg)), (PySem.Str.ofString "page", vStr (pageOf rows)), (PySem.Str.ofString "rows", vList (rows.map vRow))], res := (aT, .lst (vStrs (words (bfs (poolOf rows) w0 rows.length)))) :: (aM, .lst ((bfs (poolOf rows) w0 rows.length).map vMet)) :: lineT a d pb cl sg co fo fc [] (1 + nls (pageOf rows)) [] (.raw (tabObj ts) fz) } ((lawFn w).body.drop 10) P) :
    Exs (lawCx prog w A g (lawFn w).fd L fa cd F s) { vars := [(PySem.Str.ofString "pool", vList (vStrs (poolOf rows))), (PySem.Str.ofString "line", vVal (.ref a)), (PySem.Str.ofString "signs", vVal (.ref sg)), (PySem.Str.ofString "page", vStr (pageOf rows)), (PySem.Str.ofString "rows", vList (rows.map vRow)), (PySem.Str.ofString "script", vListW (script.map vInt))], res := lineT a d pb cl sg co fo fc [] (nls (pageOf rows)) [46, 10] (.raw (tabObj ts) fz) } ((lawFn w).body.drop 6) P := by
  have hrl := hr.len
  have hpl : (poolOf rows).length = rows.length := List.length_map _
  have hz : (vStrs (poolOf rows)).length ≤ sizeLine := by unfold vStrs; rw [List.length_map, hpl, sizeLine_is]; omega
  have hp0 : (vStrs (poolOf rows))[0]? = some (vStr w0) := by unfold vStrs; rw [List.getElem?_map, hw0]; rfl
  have hmem0 : w0 ∈ poolOf rows := List.mem_of_getElem? hw0
  have hpw : ∀ o ∈ poolOf rows, Plain6 o ∧ o.length ≤ 16 := fun o ho => by obtain ⟨r, hr', rfl⟩ := List.mem_map.mp ho; exact (hr.row r hr').word
  have hb0 : [vTup [vStr w0, vInt 0, vInt 0]] = (bfs (poolOf rows) w0 0).map vMet := rfl
  refine Exs.exp (by exact Ev.callM (K := KK w) (f := 56) G ⟨_, _, rfl, rfl⟩ (by walk_at "ev") (HasMeth.owned (C := CN) (x := a) (d := d) G ⟨rfl, rfl, rfl⟩ (by walk_at "rmem") rfl) (EvAll.cons (Ev.atL (k := 0) (by walk_at "src") (by exact Ev.cInt) hp0 hz) EvAll.nil) (push_ok G w0 [] (by decide) (nls (pageOf rows)) (vInst CN (feedF fc fo)) a d pb) (rm.le (by decide)) (.take (.take (.skip (.skip (.skip .nil)))))) ?_
  refine Exs.asOwn (EvN.eq (EvN.disp (EvAll.cons (Ev.tup (EvAll.cons (Ev.atL (k := 0) (by walk_at "src") (by exact Ev.cInt) hp0 hz) (EvAll.cons (by exact Ev.cInt) (EvAll.cons (by exact Ev.cInt) EvAll.nil))) (Nat.le_of_ble_eq_true rfl)) EvAll.nil) (Nat.le_of_ble_eq_true rfl)) hb0) fun aM haM => ⟨_, by walk_at "put", ?_⟩
  refine Exs.asOwn (EvN.disp .nil) fun aT haT => ⟨_, by walk_at "put", ?_⟩
  have hlz : ((rows.length : Nat) : Int) + 1 = ((rows.length + 1 : Nat) : Int) := by omega
  have hvl : (vStrs (poolOf rows)).length = rows.length := by unfold vStrs; rw [List.length_map, hpl]
  refine Exs.forB (EvIter.rangeN (a := 0) (b := rows.length + 1) (by exact Ev.range1 (by walk_at "ev") (Ev.eq (Ev.add (Ev.lenL (by walk_at "ev") (by walk_at "src") hz) (by exact Ev.cInt)) (by rw [hvl]; exact congrArg vInt hlz))) calm_name (by omega) (by omega))
    (fun i σ => ∃ m tk q, (m = bfs (poolOf rows) w0 i ∧ tk = words (m.take i) ∧ q = words (m.drop i) ∧ i ≤ m.length) ∧ σ = { vars := [(PySem.Str.ofString "taken", vVal (.ref aT)), (PySem.Str.ofString "met", vVal (.ref aM)), (PySem.Str.ofString "pool", vList (vStrs (poolOf rows))), (PySem.Str.ofString "line", vVal (.ref a)), (PySem.Str.ofString "signs", vVal (.ref sg)), (PySem.Str.ofString "page", vStr (pageOf rows)), (PySem.Str.ofString "rows", vList (rows.map vRow))], res := (aT, .lst (vStrs tk)) :: (aM, .lst (m.map vMet)) :: lineT a d pb cl sg co fo fc (vStrs q) (nls (pageOf rows)) [46, 10] (.raw (tabObj ts) fz) })
    (fun σ => σ = { vars := [(PySem.Str.ofString "taken", vVal (.ref aT)), (PySem.Str.ofString "met", vVal (.ref aM)), (PySem.Str.ofString "pool", vList (vStrs (poolOf rows))), (PySem.Str.ofString "line", vVal (.ref a)), (PySem.Str.ofString "signs", vVal (.ref sg)), (PySem.Str.ofString "page", vStr (pageOf rows)), (PySem.Str.ofString "rows", vList (rows.map vRow))], res := (aT, .lst (vStrs (words (bfs (poolOf rows) w0 rows.length)))) :: (aM, .lst ((bfs (poolOf rows) w0 rows.length).map vMet)) :: lineT a d pb cl sg co fo fc [] (1 + nls (pageOf rows)) [] (.raw (tabObj ts) fz) })
    ⟨_, by walk_at "wk", _, [], [w0], ⟨rfl, rfl, rfl, Nat.zero_le _⟩, rfl⟩ (fun i p pv σi hp hi => ?_) (fun σi hi => ?_) fun σd hd => by subst hd; exact hk aT aM
  · obtain ⟨m, tk, q, ⟨hm, htk, hq, hle⟩, rfl⟩ := hi
    obtain ⟨hil, rfl⟩ := rangeN_at hp
    have hml := bfs_len hmem0 i
    rw [← hm, hpl] at hml
    obtain ⟨hnd, hsub⟩ := bfs_ok hmem0 i
    rw [← hm] at hnd hsub
    have hzs : ∀ l : List (List Nat), l.length ≤ 60 → (vStrs l).length ≤ sizeLine := fun l hl => by unfold vStrs; rw [List.length_map, sizeLine_is]; omega
    have hwl : ∀ l : List Met, (words l).length = l.length := fun l => List.length_map _
    refine ⟨_, As.name (by walk_at "put"), ?_⟩
    by_cases hc : i < m.length
    · obtain ⟨e, he⟩ : ∃ e, m[i]? = some e := ⟨_, List.getElem?_eq_getElem hc⟩
      have hem : e ∈ m := List.mem_of_getElem? he
      obtain ⟨hep, hel⟩ := hpw e.1 (hsub _ (List.mem_map_of_mem (f := fun r : Met => r.1) hem))
      have hq' : vStrs q = vStr e.1 :: vStrs (words (m.drop (i + 1))) := by rw [hq, words_drop he]; rfl
      have hget := get_back (prog := prog) (w := w) (cl := cl) (sg := sg) (co := co) (fa := fc) (fo := fo) G [46, 10] (nls (pageOf rows)) a d pb e.1 (vStrs (words (m.drop (i + 1)))) (by unfold vStrs; rw [List.length_map, hwl, List.length_drop]; omega)
      rw [← hq'] at hget
      have hne : (e.1 == [46]) = false := by
        rw [beq_eq_false_iff_ne]
        intro h
        have := hep 46 (by rw [h]; exact List.mem_singleton.mpr rfl)
        revert this; decide
      have htk' : vStrs tk ++ [vStr e.1] = vStrs (words (m.take (i + 1))) := by rw [htk, words_take he]; unfold vStrs; rw [List.map_append]; rfl
      have htl : tk.length ≤ 60 := by rw [htk, hwl, List.length_take]; omega
      obtain ⟨hnx, hG0⟩ := bfs_grown (i := i) (e := e) hmem0 (by rw [← hm]; exact he)
      rw [← hm] at hnx hG0
      have hmz : m.length ≤ sizeLine := by rw [sizeLine_is]; omega
      have hst : ((m.filter fun x => x.1 == e.1).map fun x => vInt ((x.2.1 + 1 : Nat) : Int)) = [vInt ((e.2.1 + 1 : Nat) : Int)] := by rw [filter_once hnd hem]; rfl
      refine Exs.assign (p := vStr e.1) (by exact Ev.callM0 (K := KK w) (f := 49) G ⟨_, _, rfl, rfl⟩ (by walk_at "ev") (HasMeth.owned (C := CN) (x := a) (d := d) G ⟨rfl, rfl, rfl⟩ (by walk_at "rmem") rfl) hget (rm.le (by decide)) (.skip (.skip (.take (.take (.take (.take (.skip .nil)))))))) (As.name (by walk_at "put")) ?_
      refine Exs.iff (c := false) (Tst.eq (Tst.eqS (by walk_at "ev") (Ev.cStr (l := [46]) rfl)) hne) (fun h => by cases h) fun _ => Exs.nil ?_
      refine Exs.exp (Ev.app (vStrs (words (m.take (i + 1)))) (by walk_at "ev") (by walk_at "ev") (by walk_at "rset") htk' (hzs _ htl)) ?_
      refine Exs.assign (p := vInst CW (wsFields e.1)) (by exact Ev.callCP (K := KK w) G rfl (by walk_at "ev") (EvAll.cons (by walk_at "ev") EvAll.nil) (ws_ok G e.1 (by omega)) (rm.le (by decide))) (As.name (by walk_at "put")) ?_
      refine Exs.assignCompP (cl := [(PySem.Str.ofString "word", L + 1 + 1)]) (cv := [(PySem.Str.ofString "word", vStr e.1)]) m vMet (fun x => x.1 == e.1) (fun x => vInt ((x.2.1 + 1 : Nat) : Int)) (EvIter.own (by walk_at "ev") (RAt.mem (by walk_at "rmem")) (.inl calm_name)) (Seen.one (by with_unfolding_all rfl) rfl (by decide) (by decide) rfl (by walk_at "mem") rfl (by with_unfolding_all rfl)) hmz ?yt (by walk_at "put") ?_
      case yt =>
        intro C F0 s0 W pv x hx
        refine ⟨_, As.name (Put.newL rfl rfl), rfl, .one (Tst.eqS (Ev.atT (k := 0) (by walk_at "ev") (by exact Ev.cInt) rfl (Nat.le_of_ble_eq_true rfl)) (by walk_at "ev")), fun _ => ?_⟩
        exact Ev.eq (Ev.add (Ev.atT (k := 1) (by walk_at "ev") (by exact Ev.cInt) rfl (Nat.le_of_ble_eq_true rfl)) (by exact Ev.cInt)) rfl
      rw [hst]
      refine Exs.forI (EvIter.listL (ps := vStrs (poolOf rows)) (by walk_at "ev") calm_name)
        (fun t σ => ∃ mm, (mm = scan e.1 (e.2.1 + 1) m ((poolOf rows).take t) ∧ Grown (poolOf rows) (e.2.1 + 1) m mm) ∧ σ = { vars := [(PySem.Str.ofString "steps", vList [vInt ((e.2.1 + 1 : Nat) : Int)]), (PySem.Str.ofString "here", vInst CW (wsFields e.1)), (PySem.Str.ofString "word", vStr e.1), (PySem.Str.ofString "taken", vVal (.ref aT)), (PySem.Str.ofString "met", vVal (.ref aM)), (PySem.Str.ofString "pool", vList (vStrs (poolOf rows))), (PySem.Str.ofString "line", vVal (.ref a)), (PySem.Str.ofString "signs", vVal (.ref sg)), (PySem.Str.ofString "page", vStr (pageOf rows)), (PySem.Str.ofString "rows", vList (rows.map vRow))], res := (aT, .lst (vStrs (words (m.take (i + 1))))) :: (aM, .lst (mm.map vMet)) :: lineT a d pb cl sg co fo fc (vStrs (words (mm.drop (i + 1)))) (nls (pageOf rows)) [46, 10] (.raw (tabObj ts) fz) })
        ⟨_, by walk_at "wk", m, ⟨rfl, List.prefix_refl _, fun e he => (by rw [List.drop_length] at he; cases he), hnd, hsub⟩, rfl⟩ (fun t p pv2 σt hp hi => ?_) fun σt hi => ?_
      · obtain ⟨mm, ⟨hmm, hG2⟩, rfl⟩ := hi
        obtain ⟨o, ho, rfl⟩ : ∃ o, (poolOf rows)[t]? = some o ∧ p = vStr o := by
          unfold vStrs at hp
          rw [List.getElem?_map] at hp
          obtain ⟨o, h1, h2⟩ := Option.map_eq_some_iff.mp hp
          exact ⟨o, h1, h2.symm⟩
        have homem : o ∈ poolOf rows := List.mem_of_getElem? ho
        obtain ⟨hop, hol⟩ := hpw o homem
        have hnx2 : scan e.1 (e.2.1 + 1) m ((poolOf rows).take (t + 1)) = scan1 e.1 (e.2.1 + 1) mm o := by rw [take_snoc ho, hmm]; exact scan_snoc _ _ _ _ _
        obtain ⟨l1, l2⟩ := hG2.len
        have zm : mm.length ≤ sizeLine := by rw [sizeLine_is]; omega
        have zm' : (mm.map vMet).length ≤ sizeLine := by rw [List.length_map]; exact zm
        have hwds : ((mm.filter fun _ => true).map fun e => vStr e.1) = vStrs (words mm) := by rw [filter_all]; unfold vStrs words; rw [List.map_map]; rfl
        have hls := less_ok (prog := prog) (w := w) G e.1 o (by omega) (by omega)
        have hwo := ws_ok (prog := prog) (w := w) G o (by omega)
        have hgr := hG2.step e.1 homem
        refine ⟨_, As.name (by walk_at "put"), ?_⟩
        refine Exs.iff (Tst.eq (b := (!(words mm).contains o && (lessOf e.1 o && true))) (Tst.all (TAll.consA (Tst.ninL (by walk_at "ev") (Ev.srcL (Ev.eq (Ev.compP (cl := []) (cv := []) mm vMet (fun _ => true) (fun e => vStr e.1) (EvIter.own (by walk_at "ev") (RAt.mem (by walk_at "rmem")) (.inl calm_name)) (Seen.none (by decide) rfl (by decide) (by decide)) zm ?zt) (congrArg vList hwds)))) fun _ => TAll.consA (Tst.bool ?zl (fun _ => rfl)) fun _ => TAll.nilA)) rfl) (fun h => ?_) fun h => ?_
        case zt =>
          intro C F0 s0 W pv e he
          refine ⟨_, As.name (Put.newL rfl rfl), rfl, .nil _, fun _ => ?_⟩
          exact Ev.atT (k := 0) (by walk_at "ev") (by exact Ev.cInt) rfl (Nat.le_of_ble_eq_true rfl)
        case zl => exact Ev.callMP (K := KK w) (f := 115) (q := vBool (lessOf e.1 o)) G ⟨_, _, rfl, rfl⟩ (by walk_at "ev") (HasMeth.frozen G ⟨rfl, rfl, rfl⟩ rfl) (EvAll.cons (Ev.callCP (K := KK w) G rfl (by walk_at "ev") (EvAll.cons (by walk_at "ev") EvAll.nil) hwo (rm.le (by decide))) EvAll.nil) hls (rm.le (by decide))
        · obtain ⟨hcn, hlt⟩ : (words mm).contains o = false ∧ lessOf e.1 o = true := by
            cases h1 : (words mm).contains o <;> cases h2 : lessOf e.1 o <;> rw [h1, h2] at h <;> first | exact ⟨rfl, rfl⟩ | cases h
          obtain ⟨hy, hn⟩ := goes_lev hep hop hel hol hlt
          have v1 := lev_ok (prog := prog) (w := w) G e.1 o 4 (by omega) (by omega)
          generalize lev e.1 o 4 = c at *
          refine Exs.assign (p := vInt c) (by exact Ev.callP (K := KK w) G (by walk_at "isfn") (by walk_at "ev") (EvAll.cons (by walk_at "ev") (EvAll.cons (by walk_at "ev") (EvAll.cons (by exact Ev.cInt) EvAll.nil))) v1 (rm.le (by decide))) (As.name (by walk_at "put")) ?_
          refine Exs.iff (by walk_at "tst") (fun h3 => ?_) fun h3 => ?_
          · obtain ⟨hgo, rfl⟩ := hy (of_decide_eq_true h3)
            have hq2 : vStrs (words (mm.drop (i + 1))) ++ [vStr o] = vStrs (words ((mm ++ [(o, e.2.1 + 1, costOf e.1 o)]).drop (i + 1))) := by
              rw [words_snoc (by omega) (o, e.2.1 + 1, costOf e.1 o)]; unfold vStrs; rw [List.map_append]; rfl
            have hpu := push_ok (prog := prog) (w := w) G o (vStrs (words (mm.drop (i + 1)))) (by unfold vStrs; rw [List.length_map, hwl, List.length_drop]; omega) (nls (pageOf rows)) (vInst CN (feedF fc fo)) a d pb
            rw [scan1_yes hcn hgo] at hgr hnx2
            rw [hq2] at hpu
            refine Exs.exp (Ev.app ((mm ++ [(o, e.2.1 + 1, costOf e.1 o)]).map vMet) (by walk_at "ev") (Ev.tup (EvAll.cons (by walk_at "ev") (EvAll.cons (Ev.atL (k := 0) (by walk_at "src") (by exact Ev.cInt) rfl (Nat.le_of_ble_eq_true rfl)) (EvAll.cons (by walk_at "ev") EvAll.nil))) (Nat.le_of_ble_eq_true rfl)) (by walk_at "rset") (by rw [List.map_append]; rfl) zm') ?_
            refine Exs.exp (by exact Ev.callM (K := KK w) (f := 56) G ⟨_, _, rfl, rfl⟩ (by walk_at "ev") (HasMeth.owned (C := CN) (x := a) (d := d) G ⟨rfl, rfl, rfl⟩ (by walk_at "rmem") rfl) (EvAll.cons (by walk_at "ev") EvAll.nil) hpu (rm.le (by decide)) (.skip (.skip (.take (.take (.skip (.skip (.skip .nil)))))))) ?_
            exact Exs.nil (Exs.nil (Exs.nil ⟨_, by walk_at "wk", _, ⟨hnx2.symm, hgr⟩, rfl⟩))
          · rw [scan1_no hcn (hn (of_decide_eq_false h3))] at hnx2
            exact Exs.nil (Exs.nil (Exs.nil ⟨_, by walk_at "wk", mm, ⟨hnx2.symm, hG2⟩, rfl⟩))
        · have hno : scan1 e.1 (e.2.1 + 1) mm o = mm := by
            cases h1 : (words mm).contains o with
            | true => exact scan1_in h1
            | false =>
              refine scan1_no h1 ?_
              rw [h1] at h
              cases h2 : lessOf e.1 o with
              | true => rw [h2] at h; cases h
              | false => unfold goes; rw [h2]; rfl
          rw [hno] at hnx2
          exact Exs.nil (Exs.nil ⟨_, by walk_at "wk", mm, ⟨hnx2.symm, hG2⟩, rfl⟩)
      · obtain ⟨mm, ⟨hmm, hG2⟩, rfl⟩ := hi
        have hall : (poolOf rows).take (vStrs (poolOf rows)).length = poolOf rows := by rw [hvl, ← hpl]; exact List.take_length
        rw [hall, ← hnx] at hmm
        have hlm := hG2.len
        refine Exs.nil ⟨_, by walk_at "wk", mm, _, _, ⟨hmm, by rw [pre_take hG2.pre (by omega)], rfl, by omega⟩, rfl⟩
    · have hmi : m.length = i := by omega
      have hfin : m = bfs (poolOf rows) w0 rows.length := by
        have h1 := bfs_len hmem0 i
        obtain ⟨d, hd⟩ := Nat.exists_eq_add_of_le (show i ≤ rows.length by omega)
        rw [hd, hm]
        exact (bfs_stay (by rw [← hm]; omega) d).symm
      have htk2 : tk = words (bfs (poolOf rows) w0 rows.length) := by rw [htk, ← hmi, List.take_length, hfin]
      have hq2 : q = [] := by rw [hq, ← hmi, List.drop_length]; rfl
      rw [htk2, hq2, hfin]
      have hget := get_read (prog := prog) (w := w) (x := [46]) (r := []) G hfo hro [46, 10] (by decide) rfl (nls (pageOf rows)) a d pb
      rw [show nls (pageOf rows) + nls [46, 10] - nls [] = 1 + nls (pageOf rows) from by show nls (pageOf rows) + 1 - 0 = _; omega] at hget
      refine Exs.assign (p := vStr [46]) (by exact Ev.callM0 (K := KK w) (f := 49) G ⟨_, _, rfl, rfl⟩ (by walk_at "ev") (HasMeth.owned (C := CN) (x := a) (d := d) G ⟨rfl, rfl, rfl⟩ (by walk_at "rmem") rfl) hget (rm.le (by decide)) (.skip (.skip (.take (.take (.take (.take (.skip .nil)))))))) (As.name (by walk_at "put")) ?_
      refine Exs.iff (c := true) (Tst.eq (Tst.eqS (x := [46]) (by walk_at "ev") (Ev.cStr (l := [46]) rfl)) rfl) (fun _ => ?_) fun h => by cases h
      exact Exs.brk ⟨_, by walk_at "wk", rfl⟩
  · obtain ⟨m, tk, q, ⟨hm, htk, hq, hle⟩, rfl⟩ := hi
    rw [List.length_map, List.length_range, Nat.sub_zero] at hm hle
    have := bfs_len hmem0 (rows.length + 1)
    rw [← hm, hpl] at this
    omega
noncomputable def backOf (rows : List Row) (w0 : List Nat) : List (List Nat) := poolOf rows ++ [[], w0]
/-- what was met, and what waves tell -/
theorem law5 {prog : Program} {w : World} {A : Around} {g : Heap} {L fa : Addr} {cd : Value} {F : FH} {s : Shared} (G : Grd (KK w) g) (rm : Room (lawCx prog w A g (lawFn w).fd L fa cd F s).A 200) (rows : List Row) (hr : RowsP rows)
    {sg a d pb cl : Addr} {co : Cell} {fo : Obj} {fc : Addr} {fd : FuncData} {ts : Array Value} {fz : List (Addr × Obj)} (hfo : fo.data = .func fd) (hro : ReadOK prog w g fc cl sg co) (P : Out → Prop) (w0 : List Nat) (hw0 : (poolOf rows)[0]? = some w0) (aT aM : Addr)
    (hk : ∀ back, back = backOf rows w0 → Exs (lawCx prog w A g (lawFn w).fd L fa cd F s) { vars := [(PySem.Str.ofString "back", vList (vStrs back)), (PySem.Str.ofString "line", vVal (.ref a)), (PySem.Str.ofString "signs", vVal (.ref sg)), (PySem.Str.ofString "page", vStr (pageOf rows))], res := lineT a d pb cl sg co fo fc [] (1 + nls (pageOf rows)) [] (.raw (tabObj ts) fz) } ((lawFn w).body.drop 12) P) :
    Exs (lawCx prog w A g (lawFn w).fd L fa cd F s) { vars := [(PySem.Str.ofString "taken", vVal (.ref aT)), (PySem.Str.ofString "met", vVal (.ref aM)), (PySem.Str.ofString "pool", vList (vStrs (poolOf rows))), (PySem.Str.ofString "line", vVal (.ref a)), (PySem.Str.ofString "signs", vVal (.ref sg)), (PySem.Str.ofString "page", vStr (pageOf rows)), (PySem.Str.ofString "rows", vList (rows.map vRow))], res := (aT, .lst (vStrs (words (bfs (poolOf rows) w0 rows.length)))) :: (aM, .lst ((bfs (poolOf rows) w0 rows.length).map vMet)) :: lineT a d pb cl sg co fo fc [] (1 + nls (pageOf rows)) [] (.raw (tabObj ts) fz) } ((lawFn w).body.drop 10) P := by
  have hrl := hr.len
  have hpl : (poolOf rows).length = rows.length := List.length_map _
  have hu : (lawCx prog w A g (lawFn w).fd L fa cd F s).A.units + 64 < cLine := by have := rm.units; show _ < 9900; omega
  have hmem0 : w0 ∈ poolOf rows := List.mem_of_getElem? hw0
  obtain ⟨hnd, hsub⟩ := bfs_ok hmem0 rows.length
  have hml := bfs_len hmem0 rows.length
  have hsm := shaped_mets (bfs (poolOf rows) w0 rows.length) fun o ho => pool_ok hr o (hsub o ho)
  have hsw := shaped_strs (words (bfs (poolOf rows) w0 rows.length)) fun o ho => pool_ok hr o (hsub o ho)
  have hwv : FnD prog w g (.ref 195) 140 [vList (rows.map vRow)] [] (vList ((bfs (poolOf rows) w0 rows.length).map vMet)) [] := by
    obtain ⟨r0, rs, rfl⟩ := hr.ne
    cases (show some r0.1 = some w0 from hw0)
    exact waves_ok G r0 rs hr.row (by omega)
  have hz : (vStrs (poolOf rows)).length ≤ sizeLine := by unfold vStrs; rw [List.length_map, hpl, sizeLine_is]; omega
  have hz2 : (vStrs (poolOf rows)).length + [vStr [], vStr w0].length ≤ sizeLine := by unfold vStrs; rw [List.length_map, hpl, sizeLine_is]; show _ + 2 ≤ _; omega
  have hp0 : (vStrs (poolOf rows))[0]? = some (vStr w0) := by unfold vStrs; rw [List.getElem?_map, hw0]; rfl
  have hbk : vStrs (poolOf rows) ++ [vStr [], vStr w0] = vStrs (backOf rows w0) := by unfold vStrs backOf; rw [List.map_append]; rfl
  generalize bfs (poolOf rows) w0 rows.length = m at *
  have hmz : m.length ≤ sizeLine := by rw [sizeLine_is]; omega
  have hwds : ((m.filter fun _ => true).map fun e => vStr e.1) = vStrs (words m) := by rw [filter_all]; unfold vStrs words; rw [List.map_map]; rfl
  refine Exs.iff (c := false) (Tst.eq (b := (false || (false || false))) (Tst.all (TAll.consO ?za fun _ => TAll.consO ?zb fun _ => TAll.nilO)) rfl) (fun h => by cases h) fun _ => ?_
  case za =>
    exact Tst.eq (Tst.neD (Ev.srcO (by walk_at "ev") (by walk_at "rmem")) (by exact Ev.callP (K := KK w) (p := vList (m.map vMet)) G (by walk_at "isfn") (by walk_at "ev") (EvAll.cons (by walk_at "ev") EvAll.nil) hwv (rm.le (by decide))) (sd_src (vds_map vd_met m)) (vd_list (vds_map vd_met m)).sd hsm hsm hu) (by rw [(dk_list dk_met).inj]; simp)
  case zb =>
    refine Tst.eq (Tst.neD (Ev.srcO (by walk_at "ev") (by walk_at "rmem")) (Ev.eq (Ev.compP (cl := []) (cv := []) m vMet (fun _ => true) (fun e => vStr e.1) (EvIter.own (by walk_at "ev") (RAt.mem (by walk_at "rmem")) (.inl calm_name)) (Seen.none (by decide) rfl (by decide) (by decide)) hmz ?zt) (congrArg vList hwds)) (sd_src (vds_map vd_str (words m))) (vd_strs _).sd hsw hsw hu) (by rw [(dk_list dk_str).inj]; simp)
    intro C F0 s0 W pv e he
    refine ⟨_, As.name (Put.newL rfl rfl), rfl, .nil _, fun _ => ?_⟩
    exact Ev.atT (k := 0) (by walk_at "ev") (by exact Ev.cInt) rfl (Nat.le_of_ble_eq_true rfl)
  refine Exs.nil ?_
  refine Exs.assign (p := vList (vStrs (backOf rows w0))) (EvN.ev (EvN.eq (EvN.add (ps := vStrs (poolOf rows)) (qs := [vStr [], vStr w0]) (Ev.src (by walk_at "ev")) (Ev.src (EvN.ev (EvN.disp (EvAll.cons (by exact Ev.cStr rfl) (EvAll.cons (Ev.atL (k := 0) (by walk_at "src") (by exact Ev.cInt) hp0 hz) EvAll.nil)) (Nat.le_of_ble_eq_true rfl)))) hz2) hbk)) (As.name (by walk_at "put")) ?_
  exact Exs.wk (by walk_at "wk") (hk _ rfl)
/-- all come again, and the end -/
theorem law6 {prog : Program} {w : World} {A : Around} {g : Heap} {L fa : Addr} {cd : Value} {F : FH} {s : Shared} (G : Grd (KK w) g) (rm : Room (lawCx prog w A g (lawFn w).fd L fa cd F s).A 200) (rows : List Row) (hr : RowsP rows)
    {sg a d pb cl : Addr} {co : Cell} {fo : Obj} {fc : Addr} {fd : FuncData} {ts : Array Value} {fz : List (Addr × Obj)} (hfo : fo.data = .func fd) (hro : ReadOK prog w g fc cl sg co) (P : Out → Prop) (w0 : List Nat) (hw0 : (poolOf rows)[0]? = some w0) (back : List (List Nat)) (hb : back = backOf rows w0) (hP : ∀ R, RAt 159 (.raw (tabObj ts) fz) R → P (.rt (vBool true) R)) :
    Exs (lawCx prog w A g (lawFn w).fd L fa cd F s) { vars := [(PySem.Str.ofString "back", vList (vStrs back)), (PySem.Str.ofString "line", vVal (.ref a)), (PySem.Str.ofString "signs", vVal (.ref sg)), (PySem.Str.ofString "page", vStr (pageOf rows))], res := lineT a d pb cl sg co fo fc [] (1 + nls (pageOf rows)) [] (.raw (tabObj ts) fz) } ((lawFn w).body.drop 12) P := by
  have hrl := hr.len
  have hpl : (poolOf rows).length = rows.length := List.length_map _
  have hu : (lawCx prog w A g (lawFn w).fd L fa cd F s).A.units + 64 < cLine := by have := rm.units; show _ < 9900; omega
  have hmem0 : w0 ∈ poolOf rows := List.mem_of_getElem? hw0
  have hbl : back.length ≤ 10 := by rw [hb]; unfold backOf; rw [List.length_append, hpl]; show _ + 2 ≤ 10; omega
  have hbo : ∀ l ∈ back, okS l := fun l hl => by
    rw [hb] at hl
    rcases List.mem_append.mp hl with h | h
    · exact pool_ok hr l h
    · rcases List.mem_cons.mp h with rfl | h
      · exact fun c hc => (List.not_mem_nil hc).elim
      · rw [List.mem_singleton.mp h]; exact pool_ok hr w0 hmem0
  have hvl : (vStrs back).length = back.length := by unfold vStrs; rw [List.length_map]
  have hzl : ∀ k, (vStrs (back.take k)).length ≤ 10 := fun k => by unfold vStrs; rw [List.length_map, List.length_take]; omega
  have hpg : ∀ n : Int, n + nls [] - nls [] = n := fun n => by omega
  clear hb
  generalize hn : 1 + nls (pageOf rows) = n at *
  refine Exs.forI (EvIter.listL (ps := vStrs back) (by walk_at "ev") calm_name) (fun k σ => σ = { vars := [(PySem.Str.ofString "back", vList (vStrs back)), (PySem.Str.ofString "line", vVal (.ref a)), (PySem.Str.ofString "signs", vVal (.ref sg)), (PySem.Str.ofString "page", vStr (pageOf rows))], res := lineT a d pb cl sg co fo fc (vStrs (back.take k)) n [] (.raw (tabObj ts) fz) }) ⟨_, by walk_at "wk", rfl⟩ (fun k p pv σk hp hi => ?_) fun σk hi => ?_
  · subst hi
    obtain ⟨o, ho, rfl⟩ : ∃ o, back[k]? = some o ∧ p = vStr o := by
      unfold vStrs at hp
      rw [List.getElem?_map] at hp
      obtain ⟨o, h1, h2⟩ := Option.map_eq_some_iff.mp hp
      exact ⟨o, h1, h2.symm⟩
    have hpu := push_ok (prog := prog) (w := w) G o (vStrs (back.take k)) (by have := hzl k; omega) n (vInst CN (feedF fc fo)) a d pb
    have hq : vStrs (back.take k) ++ [vStr o] = vStrs (back.take (k + 1)) := by rw [take_snoc ho]; unfold vStrs; rw [List.map_append]; rfl
    rw [hq] at hpu
    refine ⟨_, As.name (by walk_at "put"), ?_⟩
    refine Exs.exp (by exact Ev.callM (K := KK w) (f := 56) G ⟨_, _, rfl, rfl⟩ (by walk_at "ev") (HasMeth.owned (C := CN) (x := a) (d := d) G ⟨rfl, rfl, rfl⟩ (by walk_at "rmem") rfl) (EvAll.cons (by walk_at "ev") EvAll.nil) hpu (rm.le (by decide)) (.take (.take (.skip (.skip (.skip .nil)))))) ?_
    exact Exs.nil ⟨_, by walk_at "wk", rfl⟩
  · subst hi
    have e1 : back.take (vStrs back).length = back := by rw [hvl, List.take_length]
    have e2 : vStrs (back.drop (vStrs back).length) = [] := by rw [hvl, List.drop_length]; rfl
    rw [e1]
    have hget := get_read (prog := prog) (w := w) (x := []) (r := []) G hfo hro [] (by decide) rfl n a d pb
    rw [hpg] at hget
    refine Exs.iff (c := false) (Tst.eq (Tst.neD2 (p := vList (vStrs (back.take (vStrs back).length))) (q := vList (vStrs back)) (d := dStrs back) (e := dStrs back) (by
        refine Ev.comp (cl := [(PySem.Str.ofString "line", L + 1)]) (cv := [(PySem.Str.ofString "line", vVal (.ref a))]) (ps := vStrs back) (R0 := []) (EvIter.listL (by walk_at "ev") calm_name) (Seen.one (by with_unfolding_all rfl) rfl (by decide) (by decide) rfl (by walk_at "mem") rfl (by with_unfolding_all rfl))
          (fun k => lineT a d pb cl sg co fo fc (vStrs (back.drop k)) n [] (.raw (tabObj ts) fz)) rfl (fun _ => rfl) (fun k x hx => (List.not_mem_nil hx).elim)
          (fun k => vStrs (back.take k)) rfl (fun _ => true) (fun k => vStr (back.getD k [])) (fun k hk => ?_) (fun k _ => ?_) (fun C F0 s0 W pv k p hp => ?_)
        · obtain ⟨o, ho⟩ : ∃ o, back[k]? = some o := ⟨_, List.getElem?_eq_getElem (hvl ▸ hk)⟩
          show vStrs (back.take (k + 1)) = vStrs (back.take k) ++ [vStr (back.getD k [])]
          rw [take_snoc ho, List.getD_eq_getElem?_getD, ho]; unfold vStrs; rw [List.map_append]; rfl
        · exact Nat.le_trans (hzl k) (Nat.le_of_ble_eq_true rfl)
        · obtain ⟨o, ho, rfl⟩ : ∃ o, back[k]? = some o ∧ p = vStr o := by
            unfold vStrs at hp
            rw [List.getElem?_map] at hp
            obtain ⟨o, h1, h2⟩ := Option.map_eq_some_iff.mp hp
            exact ⟨o, h1, h2.symm⟩
          have hgb := get_back (prog := prog) (w := w) (cl := cl) (sg := sg) (co := co) (fa := fc) (fo := fo) G [] n a d pb o (vStrs (back.drop (k + 1))) (by unfold vStrs; rw [List.length_map, List.length_drop]; omega)
          have hq : vStr o :: vStrs (back.drop (k + 1)) = vStrs (back.drop k) := by rw [drop_at ho]; rfl
          rw [hq] at hgb
          have hgd : back.getD k [] = o := by rw [List.getD_eq_getElem?_getD, ho]; rfl
          rw [hgd]
          exact ⟨_, _, As.name (Put.newL rfl rfl), rfl, .nil _, (fun q => by cases q), fun _ => ⟨_, Ev.callM0 (K := KK w) (f := 49) G ⟨_, _, rfl, rfl⟩ (by walk_at "ev") (HasMeth.owned (C := CN) (x := a) (d := d) G ⟨rfl, rfl, rfl⟩ (by walk_at "rmem") rfl) hgb (rm.le (by decide)) (.take (.take (.take (.take (.skip .nil))))), rfl⟩⟩) (by walk_at "ev") (by rw [e1]; exact (vd_strs _).sd) (vd_strs _).sd (shaped_strs _ hbo) (shaped_strs _ hbo) hu) (by rw [(dk_list dk_str).inj]; simp)) (fun h => by cases h) fun _ => Exs.nil ?_
    rw [e2]
    refine Exs.wk (σ₁ := { vars := [(PySem.Str.ofString "back", vList (vStrs back)), (PySem.Str.ofString "line", vVal (.ref a)), (PySem.Str.ofString "signs", vVal (.ref sg)), (PySem.Str.ofString "page", vStr (pageOf rows))], res := lineT a d pb cl sg co fo fc [] n [] (.raw (tabObj ts) fz) }) (by walk_at "wk") ?_
    refine Exs.ret (p := vBool true) (Ev.eq (p := vBool (true && (true && true))) (Ev.andC ?za fun _ => Ev.andB ?zb fun _ => ?zc) rfl) (hP _ (.there (.there (.there (.there .here)))))
    case za =>
      exact Ev.eq (Ev.eqD (q := vList (vStrs [])) (d := dStrs []) (e := dStrs []) (Ev.srcO (ps := sgs []) (by walk_at "ev") (by walk_at "rmem")) (EvN.ev (EvN.disp EvAll.nil)) (sd_src .nil) (vd_strs []).sd (shaped_strs [] fun l hl => (List.not_mem_nil hl).elim) (shaped_strs [] fun l hl => (List.not_mem_nil hl).elim) hu) (by rw [(dk_list dk_str).inj]; rfl)
    case zb =>
      exact Ev.eq (Ev.eqI (Ev.attrO (K := KK w) (C := CN) G (by walk_at "own") (by walk_at "ev") (by walk_at "rmem") (by walk_at "mem") handed_int) (Ev.add (by walk_at "ev") (Ev.countS (by walk_at "ev") (Ev.cStr (l := [10]) rfl)))) (by rw [count_ten, ← hn]; unfold nls; simp)
    case zc =>
      exact Ev.eq (p := vBool (([] : List Nat) == [])) (Ev.eqS (Ev.callM0 (K := KK w) (f := 49) G ⟨_, _, rfl, rfl⟩ (by walk_at "ev") (HasMeth.owned (C := CN) (x := a) (d := d) G ⟨rfl, rfl, rfl⟩ (by walk_at "rmem") rfl) hget (rm.le (by decide)) (.take (.take (.take (.take (.skip .nil)))))) (Ev.cStr (l := []) rfl)) rfl
theorem law_runs {prog : Program} {w : World} {A : Around} {g : Heap} {L fa : Addr} {cd : Value} {F : FH} {s : Shared} (G : Grd (KK w) g) (LG : LamG g 163 159) (rm : Room (lawCx prog w A g (lawFn w).fd L fa cd F s).A 200) (script : List Int) (hs : script.length ≤ 63) (P : Out → Prop) (hP : ∀ R ts fz, RAt 159 (.raw (tabObj ts) fz) R → P (.rt (vBool true) R)) :
    Exs (lawCx prog w A g (lawFn w).fd L fa cd F s) { vars := [(PySem.Str.ofString "script", vListW (script.map vInt))], res := [(159, .raw (tabObj #[]) [])] } (lawFn w).body P := by
  have hr := rows_p script
  obtain ⟨r0, rs, he⟩ := hr.ne
  have hw0 : (poolOf (rowsOf script))[0]? = some r0.1 := by unfold poolOf; rw [he]; rfl
  exact law1 G LG rm script hs P (law2 G LG rm script _ hr P fun sg a d pb cl co fo fc fd ts fz hfo hro =>
    law3 G rm script _ hr hfo hro P (law4 G rm script _ hr hfo hro P r0.1 hw0 fun aT aM =>
      law5 G rm _ hr hfo hro P r0.1 hw0 aT aM fun back hb =>
        law6 G rm _ hr hfo hro P r0.1 hw0 back hb fun R h => hP R ts fz h))
theorem rds_intsAre {F : FH} : ∀ {vs : List Value} {ns : List Int}, IntsAre vs ns → Rds F (ns.map vInt) vs
  | _, _, .nil => .nil
  | _, _, .cons n t h => .cons ⟨t, rfl⟩ (rds_intsAre h)
theorem law_fin {prog : Program} {w : World} {s₁ : Shared} {h₁ : Heap} {tk : Tok} {fa : Addr} {cd : Value} {m mg mb : PySem.Str → Option Value} {mean : ExcName → Option Value} {p : Program} {loose : List PySem.Str} {a : Addr} {o1 o2 : Obj} {v1 v2 : Option Value} {vs : List Value} {ns : List Int}
    (X : (KK w).In (ghostOf s₁.heap [(163, 159)])) (T : Top p loose mean mg mb (ghostOf s₁.heap [(163, 159)])) (Fr₁ : Fr (ghostOf s₁.heap [(163, 159)]) s₁.heap.objs.size h₁ m) (hm : m (PySem.Str.ofString "script") = some (.ref a))
    (N : News (ghostOf s₁.heap [(163, 159)]) s₁.heap.objs.size h₁ [(s₁.heap.objs.size + 1 + 1, o1), (s₁.heap.objs.size + 1, o2), (159, tabObj #[])]) (d1 : o1.data = .cell v1) (d2 : o2.data = .cell v2)
    (hl : (ghostOf s₁.heap [(163, 159)]).IsList a vs.toArray) (hI : IntsAre vs ns) (hn : ns.length ≤ 63) (C : CodeHd (ghostOf s₁.heap [(163, 159)]) 163 159) (l0 : 159 < s₁.heap.objs.size)
    {Q : Flow → Shared → Prop} {E : Value → Shared → Prop} (hQ : ∀ s', (∀ b o, (ghostOf s₁.heap [(163, 159)]).get? b = some o → s'.heap.get? b = some o) → s'.os = s₁.os → s'.gens = s₁.gens → GrownAll [(163, 159)] s'.heap → Q (.ret (.bool true)) s') :
    wpAny (model prog w) (callerA.deeper (envX (PySem.Str.ofString "law") (lawFn w).fd.scope s₁.heap.objs.size fa cd (cellsFrom (s₁.heap.objs.size + 1) (lawFn w).fd.scope.names [])))
      (execs (lawFn w).body (envX (PySem.Str.ofString "law") (lawFn w).fd.scope s₁.heap.objs.size fa cd (cellsFrom (s₁.heap.objs.size + 1) (lawFn w).fd.scope.names []))) Q E { s₁ with heap := h₁, toks := tk } := by
  generalize hg : ghostOf s₁.heap [(163, 159)] = g at *
  generalize hL : s₁.heap.objs.size = L at *
  have G : Grd (KK w) g := ⟨X, _, _, _, _, topRead_of T⟩
  have LG : LamG g 163 159 := ⟨C, by
    obtain ⟨bm, ob, b1, b2, b3, b4, b5, b6⟩ := T.bmain
    exact ⟨mg, bm, ob, T.g, b1, b2, b3, b4, b5, b6⟩⟩
  have n1 := N _ List.mem_cons_self
  have n2 := N _ (List.mem_cons_of_mem _ List.mem_cons_self)
  have n3 := N _ (List.mem_cons_of_mem _ (List.mem_cons_of_mem _ List.mem_cons_self))
  have gL : g.get? L = none := get_ge Fr₁.above
  have hcells : cellsFrom (L + 1) (lawFn w).fd.scope.names [] = [(PySem.Str.ofString "word", L + 1 + 1), (PySem.Str.ofString "line", L + 1)] := rfl
  have ok : StOK (lawCx prog w callerA g (lawFn w).fd L fa cd (fun b => g.get? b) { s₁ with heap := g }) (fun b => g.get? b) { s₁ with heap := h₁, toks := tk } { vars := [(PySem.Str.ofString "script", vListW (ns.map vInt))], res := [(159, .raw (tabObj #[]) [])] } := by
    refine { base := ⟨Sub.refl _, fun b o e => Fr₁.keep b o e, fun b o e n => n, fun b o _ e => Fr₁.keep b o e, fun b o e => ⟨o, Fr₁.keep b o e⟩, rfl, rfl⟩, gF := fun b o e => e, hh := rfl, kind := rfl, glob := rfl, bltn := rfl, ns := ⟨m, Fr₁.ns⟩, newL := gL, locF := gL, locR := fun q => ?_, cells := fun x c hm => ?_, apart := ?_, newC := fun _ x c hm => ?_, vars := fun x q hm' => ?_, res := ⟨fun b c hm => ?_, fun b c hm => ?_, List.nodup_cons.mpr ⟨List.not_mem_nil, List.nodup_nil⟩⟩, resW := fun b hb => .inl (List.mem_singleton.mp hb), locW := ?_, cellW := fun x c hm => ?_, nd := List.nodup_cons.mpr ⟨List.not_mem_nil, List.nodup_nil⟩, priv := fun _ _ hm => (List.not_mem_nil hm).elim }
    · exact n3.2.1 (List.mem_singleton.mp q).symm
    · have hm' : (x, c) ∈ cellsFrom (L + 1) (lawFn w).fd.scope.names [] := hm
      rw [hcells] at hm'
      rcases List.mem_cons.mp hm' with e | hm'
      · cases e; exact ⟨⟨_, _, n1.1, d1⟩, n1.2.2, fun q => by have : L + 1 + 1 = 159 := List.mem_singleton.mp q; first | lia | omega⟩
      · cases List.mem_singleton.mp hm'; exact ⟨⟨_, _, n2.1, d2⟩, n2.2.2, fun q => by have : L + 1 = 159 := List.mem_singleton.mp q; first | lia | omega⟩
    · show (cellsFrom (L + 1) (lawFn w).fd.scope.names []).Pairwise _
      rw [hcells]
      refine List.pairwise_cons.mpr ⟨fun y hy => ?_, List.pairwise_singleton _ _⟩
      cases List.mem_singleton.mp hy
      show L + 1 + 1 ≠ L + 1; first | lia | omega
    · have hm' : (x, c) ∈ cellsFrom (L + 1) (lawFn w).fd.scope.names [] := hm
      rw [hcells] at hm'
      rcases List.mem_cons.mp hm' with e | hm'
      · cases e; exact n1.2.2
      · cases List.mem_singleton.mp hm'; exact n2.2.2
    · cases List.mem_singleton.mp hm'
      obtain ⟨o, ho, hc, n, hd⟩ := hl
      exact ⟨.ref a, .inl ⟨rfl, m, Fr₁.ns, hm⟩, a, o, vs, n, rfl, ho, hc, hd, rds_intsAre hI⟩
    · cases List.mem_singleton.mp hm
      exact ⟨n3.1, fun _ _ h => (List.not_mem_nil h).elim⟩
    · cases List.mem_singleton.mp hm
      exact n3.2.2
    · intro q
      have : L = 159 := q
      first | lia | omega
    · have hm' : (x, c) ∈ cellsFrom (L + 1) (lawFn w).fd.scope.names [] := hm
      rw [hcells] at hm'
      intro q
      have q' : c = 159 := q
      rcases List.mem_cons.mp hm' with e | hm'
      · cases e; have z : L + 1 + 1 = 159 := q'; first | lia | omega
      · cases List.mem_singleton.mp hm'; have z : L + 1 = 159 := q'; first | lia | omega
  have rm : Room (lawCx prog w callerA g (lawFn w).fd L fa cd (fun b => g.get? b) { s₁ with heap := g }).A 200 := ⟨rfl, Nat.le_of_ble_eq_true rfl, Nat.le_of_ble_eq_true rfl⟩
  refine law_runs G LG rm ns hn (fun o => ∃ R ts fz, RAt 159 (.raw (tabObj ts) fz) R ∧ o = .rt (vBool true) R) (fun R ts fz h => ⟨R, ts, fz, h, rfl⟩) _ _ ok Q E fun f F' s' o sb oo po => ?_
  obtain ⟨R, ts, fz, h, rfl⟩ := po
  cases f with
  | ret v =>
    obtain ⟨st, rv, ro, _⟩ := oo
    cases rv
    refine hQ s' (fun b o e => st.inh b o (st.sub b o e)) st.os st.gens ⟨⟨ts, (ro.ok 159 _ h.mem).1⟩, trivial⟩
  | _ => exact oo.elim
end Mine
open PySem PySem.W PyProof.Rows
theorem PySem.Challenge.cw_pg0255_01_holds : PySem.Challenge.rw_pg0255_01.Holds := by
  w_on
  refine holds_law Mine.hdSaid fun said' => ?_
  refine holds_open (q := Mine.hdView) (loose := Mine.hdLo) (Xt := Mine.hdXt) (XP := XL Mine.hdView []) (Yf := Mine.HK.obs) (Ya := Mine.HK.val) (YP := (kmHook Mine.KF Mine.KFas Mine.KFas_eq [159]).says) (N := 2700) Mine.hdLeft Mine.HK.of Mine.HK.keeps (fun s e => xl_of s (Bool.and_eq_true_iff.mp e).1) XL.keeps (by rfl) (by rfl) (by rfl) (fun s e => recFacts_of (Bool.and_eq_true_iff.mp e).2) (by rfl) said' (by decide +kernel) ⟨rfl, rfl, rfl, rfl, rfl, by decide +kernel⟩ ?hw ?hc
  case hw => exact ⟨[.list [.int 3, .int 1]], by decide +kernel, by decide +kernel⟩
  intro w s₀ s₁ mg mb G Y fa o pm cd doc dV kV ho hd hcd hD hmg hg args vals as hpre hlay hrd hwl hlo
  have KX := km_in_of Y
  have hT8 := km_tabs_of Y
  have X := (Ground.X G).1
  have V := (Ground.X G).2
  refine Ground.open G ?_
  intro T B D TE TW
  try (refine guard_noD D (by decide +kernel) ?_; clear D)
  have hT9 : TabsAt ([(163, 159)] : List (Addr × Addr)) _ := List.forall_mem_cons.mpr ⟨⟨codeHd_of_K (c := 163) (P := 159) KX (by kernel_rfl), hT8 159 (by k_mem)⟩, fun _ h => nomatch h⟩
  clear hmg
  wrow_args hpre hlay hrd hwl hlo
  all_goals (
    first | refine callC_kw (enter_call ?_) | refine enter_call ?_
    w_top on
    kn_posts
    w_call any ho hd hcd hD T F
    clear hd
    kn_ghosts F T
    k_drop
    skip)
  refine Mine.law_fin (by assumption) (by assumption) (by assumption) ?hm (by assumption) (by assumption) (by assumption) (by assumption) (by assumption) ?hn (by assumption) (by assumption) ?hQ
  case hm => with_unfolding_all rfl
  case hn => omega
  case hQ =>
    intro s' hk hos hgn hgr
    refine ⟨⟨.inl ⟨_, .bool true, [], rfl, fun _ => rfl, .bool true, (by with_unfolding_all rfl), unshared_nil⟩, hk, hos, hgn.trans (by assumption)⟩, hgr⟩
