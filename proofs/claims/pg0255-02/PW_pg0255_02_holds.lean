import PyProof.Rows.All
import Wide.All
import OpenK.AllK
import Wide.FinOn
import KE.KLam
import PySem.Challenge.RW_pg0255_02
set_option Elab.async false
set_option maxRecDepth 1000000
set_option maxHeartbeats 8000000
set_option linter.unusedVariables false
set_option linter.unusedSimpArgs false
set_option genSizeOf false
set_option genInjectivity false
noncomputable section
namespace Mine
open PySem PySem.W PySem.Calls PyProof.Rows
noncomputable abbrev FH := Addr → Option Obj
noncomputable def Sub (F G : FH) : Prop := ∀ a o, F a = some o → G a = some o
noncomputable def Inh (F : FH) (h : Heap) : Prop := ∀ a o, F a = some o → h.get? a = some o
theorem Sub.refl (F : FH) : Sub F F := fun _ _ e => e
theorem Sub.trans {F G H : FH} (x : Sub F G) (y : Sub G H) : Sub F H := fun a o e => y a o (x a o e)
structure VP where
  rd : FH → Value → Prop
  mono : ∀ {F G v}, Sub F G → rd F v → rd G v
noncomputable def vInt (i : Int) : VP := ⟨fun _ v => ∃ t, v = .int i t, fun _ h => h⟩
noncomputable def L2S (l : List Nat) : PySem.Str := ⟨l.toArray⟩
noncomputable def vStr (x : List Nat) : VP := ⟨fun _ v => ∃ t, v = .str (L2S x) t, fun _ h => h⟩
noncomputable def vBool (b : Bool) : VP := ⟨fun _ v => v = .bool b, fun _ h => h⟩
noncomputable def vVal (u : Value) : VP := ⟨fun _ v => v = u, fun _ h => h⟩
noncomputable def vAny : VP := ⟨fun _ _ => True, fun _ h => h⟩
inductive Rds (F : FH) : List VP → List Value → Prop
  | nil : Rds F [] []
  | cons {p ps v vs} : p.rd F v → Rds F ps vs → Rds F (p :: ps) (v :: vs)
theorem Rds.mono {F G : FH} (h : Sub F G) : ∀ {ps vs}, Rds F ps vs → Rds G ps vs
  | _, _, .nil => .nil
  | _, _, .cons a b => .cons (VP.mono _ h a) (b.mono h)
theorem Rds.length {F : FH} : ∀ {ps vs}, Rds F ps vs → vs.length = ps.length
  | _, _, .nil => rfl
  | _, _, .cons _ b => by simp [b.length]
theorem Rds.append {F : FH} : ∀ {ps vs qs us}, Rds F ps vs → Rds F qs us → Rds F (ps ++ qs) (vs ++ us)
  | _, _, _, _, .nil, y => y
  | _, _, _, _, .cons a b, y => .cons a (b.append y)
theorem Rds.get {F : FH} : ∀ {ps : List VP} {vs : List Value}, Rds F ps vs → ∀ {i : Nat} {p : VP}, ps[i]? = some p → ∃ v, vs[i]? = some v ∧ p.rd F v
  | _, _, .nil, i, p, e => by simp at e
  | _, _, .cons a b, 0, p, e => by simp at e; subst e; exact ⟨_, rfl, a⟩
  | _, _, .cons a b, i + 1, p, e => by simpa using b.get (by simpa using e)
theorem Rds.drop {F : FH} : ∀ {ps : List VP} {vs : List Value}, Rds F ps vs → ∀ n, Rds F (ps.drop n) (vs.drop n)
  | _, _, .nil, n => by simpa using Rds.nil
  | _, _, .cons a b, 0 => .cons a b
  | _, _, .cons a b, n + 1 => b.drop n
theorem Rds.take {F : FH} : ∀ {ps : List VP} {vs : List Value}, Rds F ps vs → ∀ n, Rds F (ps.take n) (vs.take n)
  | _, _, .nil, n => by simpa using Rds.nil
  | _, _, .cons a b, 0 => .nil
  | _, _, .cons a b, n + 1 => .cons a (b.take n)
theorem Rds.reverse {F : FH} : ∀ {ps : List VP} {vs : List Value}, Rds F ps vs → Rds F ps.reverse vs.reverse
  | _, _, .nil => .nil
  | _, _, .cons a b => by rw [List.reverse_cons, List.reverse_cons]; exact b.reverse.append (.cons a .nil)
theorem Rds.set {F : FH} : ∀ {ps : List VP} {vs : List Value}, Rds F ps vs → ∀ {i : Nat} {p : VP} {v : Value}, p.rd F v → Rds F (ps.set i p) (vs.set i v)
  | _, _, .nil, i, p, v, _ => by simpa using Rds.nil
  | _, _, .cons a b, 0, p, v, h => .cons h b
  | _, _, .cons a b, i + 1, p, v, h => .cons a (b.set h)
noncomputable def LsObj (vs : List Value) (o : Obj) : Prop := ∃ n, o = { cls := .type "list", data := .seq vs.toArray n }
noncomputable def TpObj (vs : List Value) (o : Obj) : Prop := ∃ n, o = { cls := .type "tuple", data := .seq vs.toArray n }
theorem LsObj.isList {vs : List Value} {o : Obj} {h : Heap} {a : Addr} (x : LsObj vs o) (e : h.get? a = some o) : h.IsList a vs.toArray := by
  obtain ⟨n, rfl⟩ := x; exact ⟨_, e, rfl, n, rfl⟩
noncomputable def vList (ps : List VP) : VP := ⟨fun F v => ∃ (a : Addr) (o : Obj) (vs : List Value), v = .ref a ∧ F a = some o ∧ LsObj vs o ∧ Rds F ps vs,
  fun h ⟨a, o, vs, e, f, l, r⟩ => ⟨a, o, vs, e, h _ _ f, l, r.mono h⟩⟩
noncomputable def vTup (ps : List VP) : VP := ⟨fun F v => ∃ (a : Addr) (o : Obj) (vs : List Value), v = .ref a ∧ F a = some o ∧ TpObj vs o ∧ Rds F ps vs,
  fun h ⟨a, o, vs, e, f, l, r⟩ => ⟨a, o, vs, e, h _ _ f, l, r.mono h⟩⟩
/-- the fields of an instance's dict -/
noncomputable def FieldsAre (F : FH) (fs : List (PySem.Str × VP)) (m : PySem.Str → Option Value) : Prop :=
  (∀ x p, (x, p) ∈ fs → ∃ v, m x = some v ∧ p.rd F v) ∧ ∀ x, x ∉ fs.map (·.1) → m x = none
theorem FieldsAre.mono {F G : FH} (h : Sub F G) {fs m} (x : FieldsAre F fs m) : FieldsAre G fs m :=
  ⟨fun n p hm => let ⟨v, e, r⟩ := x.1 n p hm; ⟨v, e, p.mono h r⟩, x.2⟩
noncomputable def DictObj (N : Nat) (m : PySem.Str → Option Value) (o : Obj) : Prop := ∃ es n, o = dictOf es n ∧ es.length ≤ N ∧ StrKeys es.toArray ∧ ∀ name, nsFind es.toArray name = m name
/-- a frozen instance of the class at C -/
noncomputable def vInst (C : Addr) (fs : List (PySem.Str × VP)) : VP :=
  ⟨fun F v => ∃ a d od m, v = .ref a ∧ F a = some (instObj C d) ∧ F d = some od ∧ DictObj fs.length m od ∧ FieldsAre F fs m,
   fun h ⟨a, d, od, m, e, f1, f2, dd, r⟩ => ⟨a, d, od, m, e, h _ _ f1, h _ _ f2, dd, r.mono h⟩⟩
structure Step (W : Addr → Prop) (F : FH) (s : Shared) (F' : FH) (s' : Shared) : Prop where
  sub : Sub F F'
  inh : Inh F' s'.heap
  fresh : ∀ a o, s.heap.get? a = some o → F a = none → F' a = none
  keep : ∀ a o, ¬ W a → s.heap.get? a = some o → s'.heap.get? a = some o
  live : ∀ a o, s.heap.get? a = some o → ∃ o', s'.heap.get? a = some o'
  gens : s'.gens = s.gens
  os : s'.os = s.os
theorem Step.trans {W : Addr → Prop} {F G H : FH} {s t u : Shared} (x : Step W F s G t) (y : Step W G t H u) : Step W F s H u where
  sub := x.sub.trans y.sub
  inh := y.inh
  fresh := fun a o e n => let ⟨o', e'⟩ := x.live a o e; y.fresh a o' e' (x.fresh a o e n)
  keep := fun a o w e => y.keep a o w (x.keep a o w e)
  live := fun a o e => let ⟨o', e'⟩ := x.live a o e; y.live a o' e'
  gens := y.gens.trans x.gens
  os := y.os.trans x.os
theorem Step.weaken {W W' : Addr → Prop} {F G : FH} {s t : Shared} (x : Step W F s G t) (h : ∀ a, W a → W' a) : Step W' F s G t :=
  { x with keep := fun a o w e => x.keep a o (fun q => w (h a q)) e }
theorem Step.refl {W : Addr → Prop} {F : FH} {s : Shared} (h : Inh F s.heap) : Step W F s F s :=
  ⟨Sub.refl F, h, fun _ _ _ n => n, fun _ _ _ e => e, fun _ o e => ⟨o, e⟩, rfl, rfl⟩
theorem Step.heap {W : Addr → Prop} {F : FH} {s : Shared} (h : Inh F s.heap) {h' : Heap} {tk : Nat} (k : ∀ b o, s.heap.get? b = some o → h'.get? b = some o) :
    Step W F s F { s with heap := h', toks := tk } :=
  ⟨Sub.refl F, fun a o e => k a o (h a o e), fun _ _ _ n => n, fun a o _ e => k a o e, fun a o e => ⟨o, k a o e⟩, rfl, rfl⟩
theorem Step.toks {W : Addr → Prop} {F : FH} {s : Shared} (h : Inh F s.heap) {tk : Nat} : Step W F s F { s with toks := tk } :=
  Step.heap (h' := s.heap) h fun _ _ e => e
open Classical in
noncomputable def FH.set (F : FH) (a : Addr) (o : Obj) : FH := fun b => if b = a then some o else F b
theorem FH.set_at (F : FH) (a : Addr) (o : Obj) : F.set a o a = some o := by simp [FH.set]
theorem FH.set_sub {F : FH} {a : Addr} {o : Obj} (h : F a = none) : Sub F (F.set a o) := fun b ob e => by
  unfold FH.set
  by_cases q : b = a
  · subst q; rw [h] at e; cases e
  · simp [q, e]
theorem FH.set_ne {F : FH} {a b : Addr} {o : Obj} (h : b ≠ a) : F.set a o b = F b := by simp [FH.set, h]
/-- a new object is frozen -/
theorem Step.freeze {W : Addr → Prop} {F : FH} {s : Shared} (h : Inh F s.heap) {h' : Heap} {tk : Nat} {a : Addr} {o : Obj}
    (k : ∀ b ob, s.heap.get? b = some ob → h'.get? b = some ob) (n : s.heap.get? a = none) (e : h'.get? a = some o) :
    Step W F s (F.set a o) { s with heap := h', toks := tk } := by
  have hn : F a = none := by
    cases q : F a with
    | none => rfl
    | some o' => rw [h a o' q] at n; cases n
  refine ⟨FH.set_sub hn, fun b ob q => ?_, fun b ob q m => ?_, fun b ob _ q => k b ob q, fun b ob q => ⟨ob, k b ob q⟩, rfl, rfl⟩
  · unfold FH.set at q
    by_cases z : b = a
    · subst z; simp at q; subst q; exact e
    · simp [z] at q; exact k b ob (h b ob q)
  · rw [FH.set_ne (fun z => by subst z; rw [n] at q; cases q)]; exact m
theorem get_size (h : Heap) : h.get? h.objs.size = none := by
  cases q : h.get? h.objs.size with
  | none => rfl
  | some o => exact absurd (Heap.lt_size q) (Nat.lt_irrefl _)
/-- a pushed object is frozen -/
theorem Step.push {W : Addr → Prop} {F : FH} {s : Shared} (h : Inh F s.heap) {o : Obj} (ho : o.isFreed = false) {tk : Nat} :
    Step W F s (F.set s.heap.objs.size o) { s with heap := s.heap.push o, toks := tk } :=
  Step.freeze h (fun b ob e => Heap.get?_push_of_some _ e) (get_size _) (Heap.get?_push_size _ ho)
/-- owned cells -/
inductive Cell
  | lst (ps : List VP)
  | inst (a C : Addr) (fs : List (PySem.Str × VP))
  | raw (o : Obj) (fz : List (Addr × Obj))
noncomputable def CellOK (F : FH) (h : Heap) (a : Addr) : Cell → Prop
  | .lst ps => ∃ o vs, h.get? a = some o ∧ LsObj vs o ∧ Rds F ps vs
  | .inst x C fs => F x = some (instObj C a) ∧ ∃ o m, h.get? a = some o ∧ DictObj fs.length m o ∧ FieldsAre F fs m
  | .raw o fz => h.get? a = some o ∧ ∀ b ob, (b, ob) ∈ fz → F b = some ob
theorem CellOK.mono {F G : FH} (s : Sub F G) {h : Heap} {a : Addr} : ∀ {c : Cell}, CellOK F h a c → CellOK G h a c
  | .lst _, ⟨o, vs, e, l, r⟩ => ⟨o, vs, e, l, r.mono s⟩
  | .inst _ _ _, ⟨e, o, m, q, d, r⟩ => ⟨s _ _ e, o, m, q, d, r.mono s⟩
  | .raw _ _, ⟨e, k⟩ => ⟨e, fun b ob hm => s _ _ (k b ob hm)⟩
theorem CellOK.ex {F : FH} {h : Heap} {a : Addr} : ∀ {c : Cell}, CellOK F h a c → ∃ o, h.get? a = some o
  | .lst _, ⟨o, _, e, _⟩ => ⟨o, e⟩
  | .inst _ _ _, ⟨_, o, _, e, _⟩ => ⟨o, e⟩
  | .raw o _, ⟨e, _⟩ => ⟨o, e⟩
theorem CellOK.at {F : FH} {h h' : Heap} {a : Addr} (k : ∀ o, h.get? a = some o → h'.get? a = some o) : ∀ {c : Cell}, CellOK F h a c → CellOK F h' a c
  | .lst _, ⟨o, vs, e, r⟩ => ⟨o, vs, k o e, r⟩
  | .inst _ _ _, ⟨e0, o, m, e, r⟩ => ⟨e0, o, m, k o e, r⟩
  | .raw o _, ⟨e, q⟩ => ⟨k o e, q⟩
noncomputable abbrev Res := List (Addr × Cell)
structure ResOK (F : FH) (h : Heap) (R : Res) : Prop where
  ok : ∀ a c, (a, c) ∈ R → CellOK F h a c
  off : ∀ a c, (a, c) ∈ R → F a = none
  nodup : (R.map (·.1)).Nodup
noncomputable def Res.has (R : Res) (a : Addr) : Prop := a ∈ R.map (·.1)
theorem Res.has_of {R : Res} {a c} (h : (a, c) ∈ R) : R.has a := List.mem_map_of_mem (f := fun p : Addr × Cell => p.1) h
structure St where
  vars : List (PySem.Str × VP)
  res : Res := []
noncomputable def VarAt (env : Env) (h : Heap) (x : PySem.Str) (v : Value) : Prop :=
  (env.kindOf x = some .local ∧ ∃ m, h.Ns env.locals m ∧ m x = some v) ∨
  ((env.kindOf x = some .cell ∨ (env.kindOf x = some .free ∧ (x == (PySem.Str.ofString "__classdict__")) = false)) ∧ ∃ c, env.cells.lookup x = some c ∧ h.IsCell c (some v))
structure Cx where
  prog : Program
  w : World
  A : Around
  env : Env
  g : Heap
  F0 : FH
  s0 : Shared
  W : Addr → Prop
  own : Bool
  priv : List (Addr × Obj)
structure StOK (cx : Cx) (F : FH) (s : Shared) (σ : St) : Prop where
  base : Step cx.W cx.F0 cx.s0 F s
  gF : ∀ b o, cx.g.get? b = some o → F b = some o
  hh : cx.A.handled = none
  kind : cx.env.scope.kind = .function
  glob : cx.env.globals = mainGlobals
  bltn : cx.env.builtins = builtinsNs
  ns : ∃ m, s.heap.Ns cx.env.locals m
  newL : cx.s0.heap.get? cx.env.locals = none
  locF : F cx.env.locals = none
  locR : ¬ σ.res.has cx.env.locals
  cells : ∀ x c, (x, c) ∈ cx.env.cells → (∃ v, s.heap.IsCell c v) ∧ F c = none ∧ ¬ σ.res.has c
  apart : cx.env.cells.Pairwise fun x y => x.2 ≠ y.2
  newC : cx.own = true → ∀ x c, (x, c) ∈ cx.env.cells → cx.s0.heap.get? c = none
  vars : ∀ x p, (x, p) ∈ σ.vars → ∃ v, VarAt cx.env s.heap x v ∧ p.rd F v
  res : ResOK F s.heap σ.res
  resW : ∀ a, σ.res.has a → cx.W a ∨ cx.s0.heap.get? a = none
  locW : ¬ cx.W cx.env.locals
  cellW : ∀ x c, (x, c) ∈ cx.env.cells → ¬ cx.W c
  nd : (σ.vars.map (·.1)).Nodup
  priv : ∀ a o, (a, o) ∈ cx.priv → s.heap.get? a = some o ∧ F a = none ∧ ¬ σ.res.has a ∧ a ≠ cx.env.locals ∧ ∀ y, (y, a) ∉ cx.env.cells
theorem StOK.inh {cx F s σ} (x : StOK cx F s σ) : Inh F s.heap := x.base.inh
theorem VarAt.at {env : Env} {h h' : Heap} {x : PySem.Str} {v : Value} (q : VarAt env h x v) (hl : ∀ o, h.get? env.locals = some o → h'.get? env.locals = some o)
    (hc : ∀ c, (x, c) ∈ env.cells → ∀ o, h.get? c = some o → h'.get? c = some o) : VarAt env h' x v := by
  rcases q with ⟨k, m, n, e⟩ | ⟨k, c, lk, o, e, d⟩
  · exact .inl ⟨k, m, n.at' hl, e⟩
  · exact .inr ⟨k, c, lk, o, hc c (mem_of_lookup lk) o e, d⟩
/-- an expression's step: the owned cells may turn -/
theorem StOK.step {cx : Cx} {F F' : FH} {s s' : Shared} {σ σ' : St} (x : StOK cx F s σ) (st : Step σ.res.has F s F' s') (hv : σ'.vars = σ.vars)
    (hr : ResOK F' s'.heap σ'.res) (ha : σ'.res.map (·.1) = σ.res.map (·.1)) : StOK cx F' s' σ' := by
  have hhas : ∀ a, σ'.res.has a ↔ σ.res.has a := fun a => by unfold Res.has; rw [ha]
  have kl : ∀ o, s.heap.get? cx.env.locals = some o → s'.heap.get? cx.env.locals = some o := fun o e => st.keep _ o x.locR e
  have kc : ∀ y c, (y, c) ∈ cx.env.cells → ∀ o, s.heap.get? c = some o → s'.heap.get? c = some o := fun y c hm o e => st.keep _ o (x.cells y c hm).2.2 e
  refine { base := ?_, gF := fun b o e => st.sub _ _ (x.gF b o e), hh := x.hh, kind := x.kind, glob := x.glob, bltn := x.bltn, ns := ?_, newL := x.newL, locF := ?_, locR := fun q => x.locR ((hhas _).mp q), cells := ?_, apart := x.apart, newC := x.newC, vars := ?_, res := hr, resW := fun a q => x.resW a ((hhas _).mp q), locW := x.locW, cellW := x.cellW, nd := hv ▸ x.nd, priv := fun a o hm => ?_ }
  · refine ⟨x.base.sub.trans st.sub, st.inh, fun a o e n => ?_, fun a o w e => ?_, fun a o e => ?_, st.gens.trans x.base.gens, st.os.trans x.base.os⟩
    · obtain ⟨o', e'⟩ := x.base.live a o e
      exact st.fresh a o' e' (x.base.fresh a o e n)
    · refine st.keep a o (fun q => ?_) (x.base.keep a o w e)
      rcases x.resW a q with h | h
      · exact w h
      · rw [h] at e; cases e
    · obtain ⟨o', e'⟩ := x.base.live a o e
      exact st.live a o' e'
  · obtain ⟨m, n⟩ := x.ns; exact ⟨m, n.at' kl⟩
  · obtain ⟨m, o, es, ep, e, _⟩ := x.ns
    exact st.fresh _ o e x.locF
  · intro y c hm
    obtain ⟨⟨v, o, e, d⟩, f, r⟩ := x.cells y c hm
    exact ⟨⟨v, o, kc y c hm o e, d⟩, st.fresh _ o e f, fun q => r ((hhas _).mp q)⟩
  · intro y p hm
    rw [hv] at hm
    obtain ⟨v, a, r⟩ := x.vars y p hm
    exact ⟨v, a.at kl (fun c hc => kc y c hc), p.mono st.sub r⟩
  · obtain ⟨p1, p2, p3, p4, p5⟩ := x.priv a o hm
    exact ⟨st.keep a o p3 p1, st.fresh a o p1 p2, fun q => p3 ((hhas _).mp q), p4, p5⟩
/-- an expression's step where nothing that stood has turned -/
theorem ResOK.step {F F' : FH} {s s' : Shared} {R : Res} {W : Addr → Prop} (x : ResOK F s.heap R) (st : Step W F s F' s') (hW : ∀ a, R.has a → ¬ W a) : ResOK F' s'.heap R where
  ok := fun a c hm => (CellOK.mono st.sub ((x.ok a c hm).at fun o e => st.keep a o (hW a (Res.has_of hm)) e))
  off := fun a c hm => let ⟨o, e⟩ := (x.ok a c hm).ex; st.fresh a o e (x.off a c hm)
  nodup := x.nodup
theorem StOK.pure {cx : Cx} {F F' : FH} {s s' : Shared} {σ : St} (x : StOK cx F s σ) (st : Step (fun _ => False) F s F' s') : StOK cx F' s' σ :=
  x.step (st.weaken fun _ h => h.elim) rfl (x.res.step st fun _ _ h => h) rfl
/-- judgements -/
structure Ev (cx : Cx) (σ : St) (e : Expr) (p : VP) (σ' : St) : Prop where
  like : σ'.res.map (·.1) = σ.res.map (·.1)
  vars : σ'.vars = σ.vars
  run : ∀ F s, StOK cx F s σ → ∀ (Q : Value → Shared → Prop) (E : Value → Shared → Prop),
    (∀ v F' s', Step σ.res.has F s F' s' → StOK cx F' s' σ' → p.rd F' v → Q v s') →
    wpAny (model cx.prog cx.w) cx.A (eval e cx.env) Q E s
noncomputable def LstSrc (σ : St) (F : FH) (v : Value) (ps : List VP) : Prop := (vList ps).rd F v ∨ ∃ a, v = .ref a ∧ (a, Cell.lst ps) ∈ σ.res
theorem LstSrc.mono {σ : St} {F G : FH} {v ps} (h : LstSrc σ F v ps) (s : Sub F G) : LstSrc σ G v ps := h.imp (fun r => (vList ps).mono s r) id
noncomputable def vSrc (σ : St) (ps : List VP) : VP := ⟨fun F v => LstSrc σ F v ps, fun s h => h.mono s⟩
structure Tst (cx : Cx) (σ : St) (e : Expr) (b : Bool) (σ' : St) : Prop where
  like : σ'.res.map (·.1) = σ.res.map (·.1)
  vars : σ'.vars = σ.vars
  run : ∀ F s, StOK cx F s σ → ∀ (Q : Bool → Shared → Prop) (E : Value → Shared → Prop),
    (∀ F' s', Step σ.res.has F s F' s' → StOK cx F' s' σ' → Q b s') →
    wpAny (model cx.prog cx.w) cx.A (isTrue e cx.env (eval e cx.env)) Q E s
theorem has_like {σ σ' : St} (h : σ'.res.map (·.1) = σ.res.map (·.1)) : σ'.res.has = σ.res.has := by funext a; unfold Res.has; rw [h]
theorem Ev.has {cx σ e p σ'} (h : Ev cx σ e p σ') : σ'.res.has = σ.res.has := has_like h.like
/-- a step of the machine that turns nothing that stood -/
noncomputable def Gv {α : Type} (cx : Cx) (t : Sem α) (F : FH) (s : Shared) (R : FH → α → Prop) : Prop :=
  ∀ (Q : α → Shared → Prop) (E : Value → Shared → Prop), (∀ r F' s', Step (fun _ => False) F s F' s' → R F' r → Q r s') → wpAny (model cx.prog cx.w) cx.A t Q E s
inductive Out
  | nx (σ : St)
  | bk (σ : St)
  | ct (σ : St)
  | rt (p : VP) (R : Res)
noncomputable def OutOK (cx : Cx) (F : FH) (s : Shared) : Flow → Out → Prop
  | .next, .nx σ => StOK cx F s σ
  | .brk, .bk σ => StOK cx F s σ
  | .cont, .ct σ => StOK cx F s σ
  | .ret v, .rt p R => Step cx.W cx.F0 cx.s0 F s ∧ p.rd F v ∧ ResOK F s.heap R ∧ ∀ a, R.has a → cx.W a ∨ cx.s0.heap.get? a = none
  | _, _ => False
noncomputable def Exs (cx : Cx) (σ : St) (ss : List Stmt) (P : Out → Prop) : Prop :=
  ∀ F s, StOK cx F s σ → ∀ (Q : Flow → Shared → Prop) (E : Value → Shared → Prop),
    (∀ f F' s' o, Sub F F' → OutOK cx F' s' f o → P o → Q f s') →
    wpAny (model cx.prog cx.w) cx.A (execs ss cx.env) Q E s
noncomputable def Ex (cx : Cx) (σ : St) (st : Stmt) (P : Out → Prop) : Prop :=
  ∀ F s, StOK cx F s σ → ∀ (Q : Flow → Shared → Prop) (E : Value → Shared → Prop),
    (∀ f F' s' o, Sub F F' → OutOK cx F' s' f o → P o → Q f s') →
    wpAny (model cx.prog cx.w) cx.A (exec st cx.env) Q E s
theorem LstSrc.items {cx F s σ v ps} (h : LstSrc σ F v ps) (x : StOK cx F s σ) : ∃ a o vs, v = .ref a ∧ s.heap.get? a = some o ∧ LsObj vs o ∧ Rds F ps vs := by
  rcases h with ⟨a, o, vs, e, f, l, r⟩ | ⟨a, e, hm⟩
  · exact ⟨a, o, vs, e, x.inh _ _ f, l, r⟩
  · obtain ⟨o, vs, e', l, r⟩ := x.res.ok a _ hm
    exact ⟨a, o, vs, e, e', l, r⟩
/-- a list of which its kind alone is known -/
noncomputable def vListW (ps : List VP) : VP := ⟨fun F v => ∃ (a : Addr) (o : Obj) (vs : List Value) (n : Nat), v = .ref a ∧ F a = some o ∧ o.cls = .type "list" ∧ o.data = .seq vs.toArray n ∧ Rds F ps vs,
  fun h ⟨a, o, vs, n, e, f, c, d, r⟩ => ⟨a, o, vs, n, e, h _ _ f, c, d, r.mono h⟩⟩
noncomputable def LstW (σ : St) (F : FH) (v : Value) (ps : List VP) : Prop := (vListW ps).rd F v ∨ LstSrc σ F v ps
noncomputable def vSrcW (σ : St) (ps : List VP) : VP := ⟨fun F v => LstW σ F v ps, fun s h => h.imp (fun r => (vListW ps).mono s r) fun r => r.mono s⟩
theorem LstW.items {cx F s σ v ps} (h : LstW σ F v ps) (x : StOK cx F s σ) : ∃ a vs, v = .ref a ∧ s.heap.IsList a vs.toArray ∧ Rds F ps vs := by
  rcases h with ⟨a, o, vs, n, e, f, c, d, r⟩ | h
  · have hl : s.heap.IsList a vs.toArray := ⟨o, x.inh _ _ f, c, n, d⟩
    exact ⟨a, vs, e, hl, r⟩
  · obtain ⟨a, o, vs, e, g, l, r⟩ := h.items x
    exact ⟨a, vs, e, l.isList g, r⟩
end Mine
namespace Mine
open PySem PySem.W PySem.Calls PyProof.Rows
variable {cx : Cx} {σ σ₁ σ₂ σ₃ : St} {pos : Pos}
theorem Ev.op1 {e a : Expr} {p r : VP} {f : Value → Sem Value} (ha : Ev cx σ a p σ₁)
    (hev : ∀ Q E s, wpAny (model cx.prog cx.w) cx.A (eval a cx.env) (fun v s₁ => wpAny (model cx.prog cx.w) cx.A (f v) Q E s₁) E s → wpAny (model cx.prog cx.w) cx.A (eval e cx.env) Q E s)
    (hop : ∀ F s v, StOK cx F s σ₁ → p.rd F v → Gv cx (f v) F s r.rd) : Ev cx σ e r σ₁ where
  like := ha.like
  vars := ha.vars
  run := fun F s ok Q E k => hev Q E s (ha.run F s ok _ _ fun v F₁ s₁ st₁ ok₁ r₁ => hop F₁ s₁ v ok₁ r₁ _ _ fun w F₂ s₂ st₂ r₂ =>
    k w F₂ s₂ (st₁.trans (st₂.weaken fun _ h => h.elim)) (ok₁.pure st₂) r₂)
theorem Ev.op2 {e a b : Expr} {p q r : VP} {f : Value → Value → Sem Value} (ha : Ev cx σ a p σ₁) (hb : Ev cx σ₁ b q σ₂)
    (hev : ∀ Q E s, wpAny (model cx.prog cx.w) cx.A (eval a cx.env) (fun v s₁ => wpAny (model cx.prog cx.w) cx.A (eval b cx.env) (fun u s₂ => wpAny (model cx.prog cx.w) cx.A (f v u) Q E s₂) E s₁) E s → wpAny (model cx.prog cx.w) cx.A (eval e cx.env) Q E s)
    (hop : ∀ F s v u, StOK cx F s σ₂ → p.rd F v → q.rd F u → Gv cx (f v u) F s r.rd) : Ev cx σ e r σ₂ where
  like := hb.like.trans ha.like
  vars := hb.vars.trans ha.vars
  run := fun F s ok Q E k => hev Q E s (ha.run F s ok _ _ fun v F₁ s₁ st₁ ok₁ r₁ => hb.run F₁ s₁ ok₁ _ _ fun u F₂ s₂ st₂ ok₂ r₂ =>
    hop F₂ s₂ v u ok₂ (p.mono st₂.sub r₁) r₂ _ _ fun w F₃ s₃ st₃ r₃ =>
      k w F₃ s₃ (st₁.trans ((ha.has ▸ st₂).trans (st₃.weaken fun _ h => h.elim))) (ok₂.pure st₃) r₃)
theorem Ev.bin {a b : Expr} {op : Operator} {p q r : VP} (ha : Ev cx σ a p σ₁) (hb : Ev cx σ₁ b q σ₂)
    (hop : ∀ F s v u, StOK cx F s σ₂ → p.rd F v → q.rd F u → Gv cx (binaryOp op v u) F s r.rd) : Ev cx σ (.BinOp a op b pos) r σ₂ :=
  .op2 ha hb (fun Q E s h => wpAny_BinOp h) hop
theorem Ev.cmp {a b : Expr} {op : CmpOp} {p q r : VP} (ha : Ev cx σ a p σ₁) (hb : Ev cx σ₁ b q σ₂) (hm : behindInMarks op b = false)
    (hop : ∀ F s v u, StOK cx F s σ₂ → p.rd F v → q.rd F u → Gv cx (compareOp op v u) F s r.rd) : Ev cx σ (.Compare a [op] [b] pos) r σ₂ :=
  .op2 ha hb (fun Q E s h => wpAny_Compare1 h hm) hop
theorem Ev.un {a : Expr} {op : UnaryOp} {p r : VP} (ha : Ev cx σ a p σ₁)
    (hop : ∀ F s v, StOK cx F s σ₁ → p.rd F v → Gv cx (unaryOp op v) F s r.rd) : Ev cx σ (.UnaryOp op a pos) r σ₁ :=
  .op1 (f := unaryOp op) ha (fun Q E s h => wpAny_UnaryOp h) hop
theorem Tst.cmp {a b : Expr} {op : CmpOp} {p q : VP} {c : Bool} (ha : Ev cx σ a p σ₁) (hb : Ev cx σ₁ b q σ₂) (hm : behindInMarks op b = false)
    (hop : ∀ F s v u, StOK cx F s σ₂ → p.rd F v → q.rd F u → Gv cx (compareOp op v u) F s (vBool c).rd) : Tst cx σ (.Compare a [op] [b] pos) c σ₂ where
  like := hb.like.trans ha.like
  vars := hb.vars.trans ha.vars
  run := fun F s ok Q E k => wpAny_isTrue_Compare1 (ha.run F s ok _ _ fun v F₁ s₁ st₁ ok₁ r₁ => hb.run F₁ s₁ ok₁ _ _ fun u F₂ s₂ st₂ ok₂ r₂ =>
    hop F₂ s₂ v u ok₂ (p.mono st₂.sub r₁) r₂ _ _ fun w F₃ s₃ st₃ r₃ => by
      cases r₃
      exact wpAny_truthy_bool (k F₃ s₃ (st₁.trans ((ha.has ▸ st₂).trans (st₃.weaken fun _ h => h.elim))) (ok₂.pure st₃))) hm
theorem Tst.val {e : Expr} {p : VP} {c : Bool} (ha : Ev cx σ e p σ₁) (he : ∀ whole, isTrue e cx.env whole = (do let v ← whole; standAt e.pos; holding [v] (truthy v)))
    (hop : ∀ F s v, StOK cx F s σ₁ → p.rd F v → Gv cx (truthy v) F s (fun _ b => b = c)) : Tst cx σ e c σ₁ where
  like := ha.like
  vars := ha.vars
  run := fun F s ok Q E k => wpAny_isTrue_value (ha.run F s ok _ _ fun v F₁ s₁ st₁ ok₁ r₁ => hop F₁ s₁ v ok₁ r₁ _ _ fun b F₂ s₂ st₂ r₂ => by
    subst r₂
    exact k F₂ s₂ (st₁.trans (st₂.weaken fun _ h => h.elim)) (ok₁.pure st₂)) (he _)
theorem Tst.not {e : Expr} {c : Bool} (h : Tst cx σ e c σ₁) : Tst cx σ (.UnaryOp .Not e pos) (!c) σ₁ where
  like := h.like
  vars := h.vars
  run := fun F s ok Q E k => wpAny_isTrue_Not (h.run F s ok _ _ fun F' s' st ok' => k F' s' st ok')
/-- and, or in a test -/
structure TAll (cx : Cx) (σ : St) (op : BoolOp) (es : List Expr) (b : Bool) (σ' : St) : Prop where
  like : σ'.res.map (·.1) = σ.res.map (·.1)
  vars : σ'.vars = σ.vars
  run : ∀ F s, StOK cx F s σ → ∀ (Q : Bool → Shared → Prop) (E : Value → Shared → Prop),
    (∀ F' s', Step σ.res.has F s F' s' → StOK cx F' s' σ' → Q b s') →
    wpAny (model cx.prog cx.w) cx.A (PySem.allTrue op es cx.env) Q E s
theorem TAll.nilA : TAll cx σ .And [] true σ := ⟨rfl, rfl, fun F s ok Q E k => wpAny_allTrue_And_nil (k F s (.refl ok.inh) ok)⟩
theorem TAll.nilO : TAll cx σ .Or [] false σ := ⟨rfl, rfl, fun F s ok Q E k => wpAny_allTrue_Or_nil (k F s (.refl ok.inh) ok)⟩
/-- the rest is asked only where the first is true -/
theorem TAll.consA {e : Expr} {es : List Expr} {b c : Bool} (h : Tst cx σ e b σ) (hr : b = true → TAll cx σ .And es c σ) : TAll cx σ .And (e :: es) (b && c) σ where
  like := rfl
  vars := rfl
  run := fun F s ok Q E k => wpAny_allTrue_And_cons (h.run F s ok _ _ fun F' s' st ok' => by
    cases b with
    | false => exact k F' s' st ok'
    | true => exact (hr rfl).run F' s' ok' _ _ fun F₂ s₂ st₂ ok₂ => by rw [Bool.true_and] at k; exact k F₂ s₂ (st.trans st₂) ok₂)
theorem TAll.consO {e : Expr} {es : List Expr} {b c : Bool} (h : Tst cx σ e b σ) (hr : b = false → TAll cx σ .Or es c σ) : TAll cx σ .Or (e :: es) (b || c) σ where
  like := rfl
  vars := rfl
  run := fun F s ok Q E k => wpAny_allTrue_Or_cons (h.run F s ok _ _ fun F' s' st ok' => by
    cases b with
    | true => exact k F' s' st ok'
    | false => exact (hr rfl).run F' s' ok' _ _ fun F₂ s₂ st₂ ok₂ => by rw [Bool.false_or] at k; exact k F₂ s₂ (st.trans st₂) ok₂)
theorem Tst.all {op : BoolOp} {es : List Expr} {b : Bool} (h : TAll cx σ op es b σ₁) : Tst cx σ (.BoolOp op es pos) b σ₁ where
  like := h.like
  vars := h.vars
  run := fun F s ok Q E k => wpAny_isTrue_BoolOp (h.run F s ok _ _ k)
/-- conditional expression -/
theorem Ev.ifx {t b o : Expr} {c : Bool} {p : VP} (ht : Tst cx σ t c σ) (hb : c = true → Ev cx σ b p σ) (ho : c = false → Ev cx σ o p σ) : Ev cx σ (.IfExp t b o pos) p σ where
  like := rfl
  vars := rfl
  run := fun F s ok Q E k => IfExp_ (ht.run F s ok _ _ fun F' s' st ok' => by
    cases c with
    | true => exact (hb rfl).run F' s' ok' _ _ fun v F₂ s₂ st₂ ok₂ r => k v F₂ s₂ (st.trans st₂) ok₂ r
    | false => exact (ho rfl).run F' s' ok' _ _ fun v F₂ s₂ st₂ ok₂ r => k v F₂ s₂ (st.trans st₂) ok₂ r)
theorem Ev.conv {e : Expr} {p q : VP} (h : Ev cx σ e p σ₁) (hpq : ∀ F v, p.rd F v → q.rd F v) : Ev cx σ e q σ₁ :=
  ⟨h.like, h.vars, fun F s ok Q E k => h.run F s ok Q E fun v F' s' st ok' r => k v F' s' st ok' (hpq _ _ r)⟩
theorem Ev.eq {e : Expr} {p q : VP} (h : Ev cx σ e p σ₁) (hpq : p = q) : Ev cx σ e q σ₁ := hpq ▸ h
theorem Tst.eq {e : Expr} {b c : Bool} (h : Tst cx σ e b σ₁) (hpq : b = c) : Tst cx σ e c σ₁ := hpq ▸ h
/-- names -/
theorem load_at {env : Env} {h : Heap} {x : PySem.Str} {v : Value} {M : Model} {A : Around} {s : Shared} {Q : Value → Shared → Prop} {E : Value → Shared → Prop}
    (a : VarAt env s.heap x v) (hk : env.scope.kind = .function) (q : Q v s) : wpAny M A (loadName env x) Q E s := by
  rcases a with ⟨k, m, n, e⟩ | ⟨k, c, lk, ic⟩
  · exact wpAny_loadName_local hk k n e q
  · rcases k with k | ⟨k, n⟩
    · exact wpAny_loadName_cell hk k lk ic q
    · exact wpAny_loadName_free hk k lk ic q n
theorem Ev.name {x : PySem.Str} {p : VP} (hm : (x, p) ∈ σ.vars) (hd : (x == (PySem.Str.ofString "__debug__")) = false := by decide) : Ev cx σ (.Name x pos) p σ :=
  ⟨rfl, rfl, fun F s ok Q E k => by
    obtain ⟨v, a, r⟩ := ok.vars x p hm
    exact wpAny_Name (load_at (h := s.heap) a ok.kind (k v F s (.refl ok.inh) ok r)) hd⟩
theorem Ev.src {e : Expr} {ps : List VP} (h : Ev cx σ e (vList ps) σ₁) : Ev cx σ e (vSrc σ₁ ps) σ₁ := h.conv fun _ _ r => .inl r
theorem Ev.srcR {e : Expr} {a : Addr} {ps : List VP} (h : Ev cx σ e (vVal (.ref a)) σ₁) (hm : (a, Cell.lst ps) ∈ σ₁.res) : Ev cx σ e (vSrc σ₁ ps) σ₁ :=
  h.conv fun _ v r => .inr ⟨a, r, hm⟩
/-- constants -/
theorem Ev.cInt {i : Int} {k : Nat} : Ev cx σ (.Constant (.int i) k pos) (vInt i) σ :=
  ⟨rfl, rfl, fun F s ok Q E k => wpAny_Constant_int (k _ F _ (.toks ok.inh) (ok.pure (.toks ok.inh)) ⟨_, rfl⟩)⟩
theorem Ev.cStr {x : PySem.Str} {k : Nat} {l : List Nat} (hl : x.cps.toList = l) : Ev cx σ (.Constant (.str x) k pos) (vStr l) σ :=
  ⟨rfl, rfl, fun F s ok Q E k => wpAny_Constant_str (k _ F _ (.toks ok.inh) (ok.pure (.toks ok.inh)) ⟨s.toks, by subst hl; unfold L2S; rw [Array.toArray_toList]⟩)⟩
theorem Ev.cNone {k : Nat} : Ev cx σ (.Constant .none k pos) (vVal .none) σ :=
  ⟨rfl, rfl, fun F s ok Q E k => wpAny_Constant_none (k _ F s (.refl ok.inh) ok rfl)⟩
theorem Ev.cBool {b : Bool} {k : Nat} : Ev cx σ (.Constant (.bool b) k pos) (vBool b) σ :=
  ⟨rfl, rfl, fun F s ok Q E k => wpAny_Constant_bool (k _ F s (.refl ok.inh) ok rfl)⟩
section sInts
variable {a b : Expr} {x y : Int}
theorem Ev.add (ha : Ev cx σ a (vInt x) σ₁) (hb : Ev cx σ₁ b (vInt y) σ₂) : Ev cx σ (.BinOp a .Add b pos) (vInt (x + y)) σ₂ :=
  .bin ha hb fun F s v u ok ⟨t, e⟩ ⟨t', e'⟩ => by subst e; subst e'; exact fun Q E k => P.add_int (k _ F _ (.toks ok.inh) ⟨_, rfl⟩)
theorem Ev.sub (ha : Ev cx σ a (vInt x) σ₁) (hb : Ev cx σ₁ b (vInt y) σ₂) : Ev cx σ (.BinOp a .Sub b pos) (vInt (x - y)) σ₂ :=
  .bin ha hb fun F s v u ok ⟨t, e⟩ ⟨t', e'⟩ => by subst e; subst e'; exact fun Q E k => P.sub_int (k _ F _ (.toks ok.inh) ⟨_, rfl⟩)
theorem Ev.mul (ha : Ev cx σ a (vInt x) σ₁) (hb : Ev cx σ₁ b (vInt y) σ₂) (hm : IntMulOk x y) : Ev cx σ (.BinOp a .Mult b pos) (vInt (x * y)) σ₂ :=
  .bin ha hb fun F s v u ok ⟨t, e⟩ ⟨t', e'⟩ => by subst e; subst e'; exact fun Q E k => P.mul_int (k _ F _ (.toks ok.inh) ⟨_, rfl⟩) hm
theorem Ev.fdiv (ha : Ev cx σ a (vInt x) σ₁) (hb : Ev cx σ₁ b (vInt y) σ₂) (h0 : y ≠ 0) (hs : y.natAbs < 1073741824) : Ev cx σ (.BinOp a .FloorDiv b pos) (vInt (x.fdiv y)) σ₂ :=
  .bin ha hb fun F s v u ok ⟨t, e⟩ ⟨t', e'⟩ => by subst e; subst e'; exact fun Q E k => floordiv_int h0 (k _ F _ (.toks ok.inh) ⟨_, rfl⟩) (.inl (PyProof.noPylong_small hs))
theorem Ev.mod (ha : Ev cx σ a (vInt x) σ₁) (hb : Ev cx σ₁ b (vInt y) σ₂) (h0 : y ≠ 0) : Ev cx σ (.BinOp a .Mod b pos) (vInt (x.fmod y)) σ₂ :=
  .bin ha hb fun F s v u ok ⟨t, e⟩ ⟨t', e'⟩ => by subst e; subst e'; exact fun Q E k => mod_int' h0 (k _ F _ (.toks ok.inh) ⟨_, rfl⟩)
theorem Ev.neg (ha : Ev cx σ a (vInt x) σ₁) : Ev cx σ (.UnaryOp .USub a pos) (vInt (-x)) σ₁ :=
  .un ha fun F s v ok ⟨t, e⟩ => by subst e; exact fun Q E k => P.neg_int (k _ F _ (.toks ok.inh) ⟨_, rfl⟩)
theorem gv_eq_int {F : FH} {s : Shared} (hi : Inh F s.heap) {t u : Tok} : Gv cx (compareOp .Eq (.int x t) (.int y u)) F s (vBool (x == y)).rd :=
  fun Q E k => P.eq_int (k _ F _ (.refl hi) rfl)
theorem gv_ne_int {F : FH} {s : Shared} (hi : Inh F s.heap) {t u : Tok} : Gv cx (compareOp .NotEq (.int x t) (.int y u)) F s (vBool (x != y)).rd :=
  fun Q E k => P.ne_int (k _ F _ (.refl hi) rfl)
theorem gv_lt_int {F : FH} {s : Shared} (hi : Inh F s.heap) {t u : Tok} : Gv cx (compareOp .Lt (.int x t) (.int y u)) F s (vBool (decide (x < y))).rd :=
  fun Q E k => P.lt_int (k _ F _ (.refl hi) rfl)
theorem gv_le_int {F : FH} {s : Shared} (hi : Inh F s.heap) {t u : Tok} : Gv cx (compareOp .LtE (.int x t) (.int y u)) F s (vBool (decide (x ≤ y))).rd :=
  fun Q E k => P.le_int (k _ F _ (.refl hi) rfl)
theorem gv_gt_int {F : FH} {s : Shared} (hi : Inh F s.heap) {t u : Tok} : Gv cx (compareOp .Gt (.int x t) (.int y u)) F s (vBool (decide (x > y))).rd :=
  fun Q E k => P.gt_int (k _ F _ (.refl hi) rfl)
theorem gv_ge_int {F : FH} {s : Shared} (hi : Inh F s.heap) {t u : Tok} : Gv cx (compareOp .GtE (.int x t) (.int y u)) F s (vBool (decide (x ≥ y))).rd :=
  fun Q E k => P.ge_int (k _ F _ (.refl hi) rfl)
theorem Tst.eqI (ha : Ev cx σ a (vInt x) σ₁) (hb : Ev cx σ₁ b (vInt y) σ₂) (hm : behindInMarks .Eq b = false := by with_unfolding_all rfl) : Tst cx σ (.Compare a [.Eq] [b] pos) (x == y) σ₂ := .cmp ha hb hm fun F s v u ok ⟨t, e⟩ ⟨t', e'⟩ => by subst e; subst e'; exact gv_eq_int ok.inh
theorem Tst.neI (ha : Ev cx σ a (vInt x) σ₁) (hb : Ev cx σ₁ b (vInt y) σ₂) (hm : behindInMarks .NotEq b = false := by with_unfolding_all rfl) : Tst cx σ (.Compare a [.NotEq] [b] pos) (x != y) σ₂ := .cmp ha hb hm fun F s v u ok ⟨t, e⟩ ⟨t', e'⟩ => by subst e; subst e'; exact gv_ne_int ok.inh
theorem Tst.ltI (ha : Ev cx σ a (vInt x) σ₁) (hb : Ev cx σ₁ b (vInt y) σ₂) (hm : behindInMarks .Lt b = false := by with_unfolding_all rfl) : Tst cx σ (.Compare a [.Lt] [b] pos) (decide (x < y)) σ₂ := .cmp ha hb hm fun F s v u ok ⟨t, e⟩ ⟨t', e'⟩ => by subst e; subst e'; exact gv_lt_int ok.inh
theorem Tst.gtI (ha : Ev cx σ a (vInt x) σ₁) (hb : Ev cx σ₁ b (vInt y) σ₂) (hm : behindInMarks .Gt b = false := by with_unfolding_all rfl) : Tst cx σ (.Compare a [.Gt] [b] pos) (decide (x > y)) σ₂ := .cmp ha hb hm fun F s v u ok ⟨t, e⟩ ⟨t', e'⟩ => by subst e; subst e'; exact gv_gt_int ok.inh
theorem Tst.geI (ha : Ev cx σ a (vInt x) σ₁) (hb : Ev cx σ₁ b (vInt y) σ₂) (hm : behindInMarks .GtE b = false := by with_unfolding_all rfl) : Tst cx σ (.Compare a [.GtE] [b] pos) (decide (x ≥ y)) σ₂ := .cmp ha hb hm fun F s v u ok ⟨t, e⟩ ⟨t', e'⟩ => by subst e; subst e'; exact gv_ge_int ok.inh
theorem Ev.eqI (ha : Ev cx σ a (vInt x) σ₁) (hb : Ev cx σ₁ b (vInt y) σ₂) (hm : behindInMarks .Eq b = false := by with_unfolding_all rfl) : Ev cx σ (.Compare a [.Eq] [b] pos) (vBool (x == y)) σ₂ := .cmp ha hb hm fun F s v u ok ⟨t, e⟩ ⟨t', e'⟩ => by subst e; subst e'; exact gv_eq_int ok.inh
theorem Ev.leI (ha : Ev cx σ a (vInt x) σ₁) (hb : Ev cx σ₁ b (vInt y) σ₂) (hm : behindInMarks .LtE b = false := by with_unfolding_all rfl) : Ev cx σ (.Compare a [.LtE] [b] pos) (vBool (decide (x ≤ y))) σ₂ := .cmp ha hb hm fun F s v u ok ⟨t, e⟩ ⟨t', e'⟩ => by subst e; subst e'; exact gv_le_int ok.inh
theorem Ev.gtI (ha : Ev cx σ a (vInt x) σ₁) (hb : Ev cx σ₁ b (vInt y) σ₂) (hm : behindInMarks .Gt b = false := by with_unfolding_all rfl) : Ev cx σ (.Compare a [.Gt] [b] pos) (vBool (decide (x > y))) σ₂ := .cmp ha hb hm fun F s v u ok ⟨t, e⟩ ⟨t', e'⟩ => by subst e; subst e'; exact gv_gt_int ok.inh
end sInts
section sBools
variable {a b : Expr} {x y : Bool}
theorem Ev.andB (ha : Ev cx σ a (vBool x) σ) (hb : x = true → Ev cx σ b (vBool y) σ) : Ev cx σ (.BoolOp .And [a, b] pos) (vBool (x && y)) σ where
  like := rfl
  vars := rfl
  run := fun F s ok Q E k => wpAny_And2 (ha.run F s ok _ _ fun v F₁ s₁ st₁ ok₁ r₁ => by
    cases r₁
    refine wpAny_truthy_bool ?_
    cases x with
    | false => exact k _ F₁ s₁ st₁ ok₁ rfl
    | true => exact (hb rfl).run F₁ s₁ ok₁ _ _ fun u F₂ s₂ st₂ ok₂ r₂ => k u F₂ s₂ (st₁.trans st₂) ok₂ r₂)
theorem Ev.orB (ha : Ev cx σ a (vBool x) σ) (hb : x = false → Ev cx σ b (vBool y) σ) : Ev cx σ (.BoolOp .Or [a, b] pos) (vBool (x || y)) σ where
  like := rfl
  vars := rfl
  run := fun F s ok Q E k => wpAny_Or2 (ha.run F s ok _ _ fun v F₁ s₁ st₁ ok₁ r₁ => by
    cases r₁
    refine wpAny_truthy_bool ?_
    cases x with
    | true => exact k _ F₁ s₁ st₁ ok₁ rfl
    | false => exact (hb rfl).run F₁ s₁ ok₁ _ _ fun u F₂ s₂ st₂ ok₂ r₂ => k u F₂ s₂ (st₁.trans st₂) ok₂ r₂)
theorem Tst.bool {e : Expr} {c : Bool} (ha : Ev cx σ e (vBool c) σ₁) (he : ∀ whole, isTrue e cx.env whole = (do let v ← whole; standAt e.pos; holding [v] (truthy v))) : Tst cx σ e c σ₁ :=
  .val ha he fun F s v ok r => by cases r; exact fun Q E k => wpAny_truthy_bool (k _ F _ (.refl ok.inh) rfl)
end sBools
end Mine
namespace Mine
open PySem PySem.W PySem.Calls PyProof.Rows
variable {cx : Cx} {σ σ₁ σ₂ σ₃ : St} {pos : Pos}
theorem get_ge {h : Heap} {a : Addr} (l : h.objs.size ≤ a) : h.get? a = none := by
  cases q : h.get? a with
  | none => rfl
  | some o => exact absurd (Heap.lt_size q) (Nat.not_lt.mpr l)
/-- items of a display, arguments of a call -/
structure EvAll (cx : Cx) (σ : St) (ap : Pos) (es : List Expr) (ps : List VP) (σ' : St) : Prop where
  like : σ'.res.map (·.1) = σ.res.map (·.1)
  vars : σ'.vars = σ.vars
  run : ∀ F s, StOK cx F s σ → ∀ (Q : List Value → Shared → Prop) (E : Value → Shared → Prop),
    (∀ vs F' s', Step σ.res.has F s F' s' → StOK cx F' s' σ' → Rds F' ps vs → Q vs s') →
    wpAny (model cx.prog cx.w) cx.A (spliced (backTo ap (starEach es cx.env))) Q E s
theorem EvAll.nil : EvAll cx σ pos [] [] σ := ⟨rfl, rfl, fun F s ok Q E k => wpAny_items_nil (k [] F s (.refl ok.inh) ok .nil)⟩
theorem EvAll.cons {e : Expr} {es : List Expr} {p : VP} {ps : List VP} (h : Ev cx σ e p σ₁) (hr : EvAll cx σ₁ pos es ps σ₂)
    (he : starEach (e :: es) cx.env = (false, eval e cx.env) :: starEach es cx.env := by with_unfolding_all rfl) : EvAll cx σ pos (e :: es) (p :: ps) σ₂ where
  like := hr.like.trans h.like
  vars := hr.vars.trans h.vars
  run := fun F s ok Q E k => wpAny_items_cons (h.run F s ok _ _ fun v F₁ s₁ st₁ ok₁ r₁ => hr.run F₁ s₁ ok₁ _ _ fun vs F₂ s₂ st₂ ok₂ r₂ =>
    k (v :: vs) F₂ s₂ (st₁.trans (h.has ▸ st₂)) ok₂ (.cons (p.mono st₂.sub r₁) r₂)) he
theorem Ev.tup {es : List Expr} {k : Nat} {ps : List VP} (h : EvAll cx σ pos es ps σ₁) (hsz : ps.length ≤ 1000 := by decide) : Ev cx σ (.Tuple es k pos) (vTup ps) σ₁ where
  like := h.like
  vars := h.vars
  run := fun F s ok Q E k => wpAny_Tuple (h.run F s ok _ _ fun vs F₁ s₁ st₁ ok₁ r₁ => ⟨by rw [r₁.length]; exact Nat.le_trans hsz (by decide), by
    have st₂ : Step (fun _ => False) F₁ s₁ (F₁.set s₁.heap.objs.size { cls := .type "tuple", data := .seq vs.toArray }) { s₁ with heap := s₁.heap.push { cls := .type "tuple", data := .seq vs.toArray } } :=
      Step.push ok₁.inh rfl
    exact k _ _ _ (st₁.trans (st₂.weaken fun _ h => h.elim)) (ok₁.pure st₂) ⟨_, _, vs, rfl, FH.set_at .., ⟨0, rfl⟩, r₁.mono st₂.sub⟩⟩)
/-- an expression that makes a new list -/
structure EvN (cx : Cx) (σ : St) (e : Expr) (ps : List VP) (σ' : St) : Prop where
  like : σ'.res.map (·.1) = σ.res.map (·.1)
  vars : σ'.vars = σ.vars
  run : ∀ F s, StOK cx F s σ → ∀ (Q : Value → Shared → Prop) (E : Value → Shared → Prop),
    (∀ F₁ s₁, Step σ.res.has F s F₁ s₁ → StOK cx F₁ s₁ σ' → ∀ a o vs h' tk, (∀ b ob, s₁.heap.get? b = some ob → h'.get? b = some ob) → s₁.heap.get? a = none → h'.get? a = some o → LsObj vs o → Rds F₁ ps vs →
      Q (.ref a) { s₁ with heap := h', toks := tk }) →
    wpAny (model cx.prog cx.w) cx.A (eval e cx.env) Q E s
theorem EvN.ev {e : Expr} {ps : List VP} (h : EvN cx σ e ps σ₁) : Ev cx σ e (vList ps) σ₁ where
  like := h.like
  vars := h.vars
  run := fun F s ok Q E k => h.run F s ok Q E fun F₁ s₁ st₁ ok₁ a o vs h' tk hk hn ha hl hr => by
    have st₂ : Step (fun _ => False) F₁ s₁ (F₁.set a o) { s₁ with heap := h', toks := tk } := Step.freeze ok₁.inh hk hn ha
    exact k _ _ _ (st₁.trans (st₂.weaken fun _ h => h.elim)) (ok₁.pure st₂) ⟨a, o, vs, rfl, FH.set_at .., hl, hr.mono st₂.sub⟩
theorem EvN.eq {e : Expr} {ps qs : List VP} (h : EvN cx σ e ps σ₁) (q : ps = qs) : EvN cx σ e qs σ₁ := q ▸ h
theorem EvN.disp {es : List Expr} {ps : List VP} (h : EvAll cx σ pos es ps σ₁) (hsz : ps.length ≤ 1000 := by decide) : EvN cx σ (.List es pos) ps σ₁ where
  like := h.like
  vars := h.vars
  run := fun F s ok Q E k => wpAny_List (h.run F s ok _ _ fun vs F₁ s₁ st₁ ok₁ r₁ => ⟨by rw [r₁.length]; exact Nat.le_trans hsz (by decide),
    k F₁ s₁ st₁ ok₁ s₁.heap.objs.size _ vs _ s₁.toks (fun b ob e => Heap.get?_push_of_some _ e) (get_size _) (Heap.get?_push_size _ rfl) ⟨0, rfl⟩ r₁⟩)
/-- a step that makes a new list -/
noncomputable def GvN (cx : Cx) (t : Sem Value) (F : FH) (s : Shared) (ps : List VP) : Prop :=
  ∀ (Q : Value → Shared → Prop) (E : Value → Shared → Prop), (∀ a o vs h' tk, (∀ b ob, s.heap.get? b = some ob → h'.get? b = some ob) → s.heap.get? a = none → h'.get? a = some o → LsObj vs o → Rds F ps vs →
      Q (.ref a) { s with heap := h', toks := tk }) → wpAny (model cx.prog cx.w) cx.A t Q E s
theorem EvN.op2 {e a b : Expr} {p q : VP} {ps : List VP} {f : Value → Value → Sem Value} (ha : Ev cx σ a p σ₁) (hb : Ev cx σ₁ b q σ₂)
    (hev : ∀ Q E s, wpAny (model cx.prog cx.w) cx.A (eval a cx.env) (fun v s₁ => wpAny (model cx.prog cx.w) cx.A (eval b cx.env) (fun u s₂ => wpAny (model cx.prog cx.w) cx.A (f v u) Q E s₂) E s₁) E s → wpAny (model cx.prog cx.w) cx.A (eval e cx.env) Q E s)
    (hop : ∀ F s v u, StOK cx F s σ₂ → p.rd F v → q.rd F u → GvN cx (f v u) F s ps) : EvN cx σ e ps σ₂ where
  like := hb.like.trans ha.like
  vars := hb.vars.trans ha.vars
  run := fun F s ok Q E k => hev Q E s (ha.run F s ok _ _ fun v F₁ s₁ st₁ ok₁ r₁ => hb.run F₁ s₁ ok₁ _ _ fun u F₂ s₂ st₂ ok₂ r₂ =>
    hop F₂ s₂ v u ok₂ (p.mono st₂.sub r₁) r₂ _ _ fun a o vs h' tk hk hn hg hl hr => k F₂ s₂ (st₁.trans (ha.has ▸ st₂)) ok₂ a o vs h' tk hk hn hg hl hr)
theorem EvN.add {a b : Expr} {ps qs : List VP} (ha : Ev cx σ a (vSrc σ ps) σ) (hb : Ev cx σ b (vSrc σ qs) σ) (hsz : ps.length + qs.length ≤ sizeLine) : EvN cx σ (.BinOp a .Add b pos) (ps ++ qs) σ :=
  .op2 ha hb (fun Q E s h => wpAny_BinOp h) fun F s v u ok h1 h2 Q E k => by
    obtain ⟨x, o, vs, rfl, e, ⟨n, rfl⟩, r⟩ := h1.items ok
    obtain ⟨y, o', us, rfl, e', ⟨n', rfl⟩, r'⟩ := h2.items ok
    refine PySem.P.add_list (n := n) (n2 := n') e e' ?_ (by simp only [List.size_toArray, r.length, r'.length]; exact hsz)
    exact k _ _ (vs ++ us) _ s.toks (fun b ob e => Heap.get?_push_of_some _ e) (get_size _) (Heap.get?_push_size _ rfl) ⟨0, by rw [← List.append_toArray]⟩ (r.append r')
/-- slices -/
noncomputable def sl {α : Type} (l : List α) (lo hi : Option Int) : List α := (l.drop (kms_lo lo l.length)).take (kms_hi hi l.length - kms_lo lo l.length)
theorem Rds.sl {F : FH} {ps : List VP} {vs : List Value} (h : Rds F ps vs) (lo hi : Option Int) : Rds F (sl ps lo hi) (sl vs lo hi) := by
  unfold Mine.sl; rw [h.length]; exact (h.drop _).take _
theorem sl_from {α : Type} (l : List α) (k : Nat) : sl l (some k) none = l.drop k := by
  have h : ¬ ((k : Int) < 0) := by first | lia | omega
  simp only [sl, kms_lo, kms_hi, if_neg h, Int.toNat_natCast]
  by_cases q : k ≤ l.length
  · rw [Nat.min_eq_left q, List.take_of_length_le (by simp)]
  · rw [Nat.min_eq_right (by first | lia | omega), List.drop_length, List.drop_of_length_le (by first | lia | omega)]; simp
theorem sl_upto {α : Type} (l : List α) (k : Nat) : sl l none (some k) = l.take k := by
  have h : ¬ ((k : Int) < 0) := by first | lia | omega
  simp only [sl, kms_lo, kms_hi, if_neg h, Int.toNat_natCast, List.drop_zero, Nat.sub_zero]
  by_cases q : k ≤ l.length
  · rw [Nat.min_eq_left q]
  · rw [Nat.min_eq_right (by first | lia | omega), List.take_of_length_le (by first | lia | omega), List.take_of_length_le (by first | lia | omega)]
theorem sl_butlast {α : Type} (l : List α) : sl l none (some (-1)) = l.dropLast := by
  simp [sl, kms_lo, kms_hi, List.dropLast_eq_take]
theorem sl_uptoNeg {α : Type} (l : List α) (k : Nat) (hk : 0 < k) : sl l none (some (-(k : Int))) = l.take (l.length - k) := by
  have h : (-(k : Int)) < 0 := by first | lia | omega
  simp only [sl, kms_lo, kms_hi, if_pos h, Int.neg_neg, Int.toNat_natCast, List.drop_zero, Nat.sub_zero]
theorem sl_last {α : Type} (l : List α) : sl l (some (-1)) none = l.drop (l.length - 1) := by
  simp only [sl, kms_lo, kms_hi, show ((-1 : Int) < 0) from by decide, if_true]
  rw [List.take_of_length_le (by simp)]; rfl
theorem sl_all {α : Type} (l : List α) : sl l none none = l := by simp [sl, kms_lo, kms_hi]
/-- an end of a slice -/
noncomputable def vPart (x : Option Int) : VP := match x with | none => vVal .none | some i => vInt i
theorem vPart.is {x : Option Int} {F : FH} {v : Value} (h : (vPart x).rd F v) : IsPart v x := by
  cases x with
  | none => cases h; exact .none
  | some i => obtain ⟨t, rfl⟩ := h; exact .int i t
structure EvPt (cx : Cx) (σ : St) (e : Option Expr) (x : Option Int) : Prop where
  run : ∀ F s, StOK cx F s σ → ∀ (Q : Value → Shared → Prop) (E : Value → Shared → Prop),
    (∀ v F' s', Step σ.res.has F s F' s' → StOK cx F' s' σ → (vPart x).rd F' v → Q v s') →
    wpAny (model cx.prog cx.w) cx.A (evalPart e cx.env) Q E s
theorem EvPt.no : EvPt cx σ none none := ⟨fun F s ok Q E k => wpAny_pure (k _ F s (.refl ok.inh) ok rfl)⟩
theorem EvPt.int {e : Expr} {i : Int} (h : Ev cx σ e (vInt i) σ) : EvPt cx σ (some e) (some i) := ⟨fun F s ok Q E k => h.run F s ok Q E k⟩
theorem EvPt.part {e : Expr} {x : Option Int} (h : Ev cx σ e (vPart x) σ) : EvPt cx σ (some e) x := ⟨fun F s ok Q E k => h.run F s ok Q E k⟩
theorem slice_tail {value slice : Expr} {o i : Value} {T id : String} {Q : Value → Shared → Prop} {E : Value → Shared → Prop} {s : Shared} {prog : Program} {w : World} {A : Around}
    (hT : s.TypeIs o T) (hl : typeLookup (.type T) "__getitem__" = pure (some (.builtin id)))
    (hg : wpAny (model prog w) A (getItem o i) Q E s) (hs : ∃ ops, subscripted slice false o i = operate ops (getItem o i)) : wpAny (model prog w) A (subscriptTail value slice o i) Q E s :=
  let ⟨_, h⟩ := hs; tail_any hT hl hg h
theorem EvN.slice {value : Expr} {lo hi : Option Expr} {p : Pos} {x y : Option Int} {ps : List VP} (hv : Ev cx σ value (vSrcW σ ps) σ) (hl : EvPt cx σ lo x) (hh : EvPt cx σ hi y) (hsz : ps.length ≤ sizeLine) :
    EvN cx σ (.Subscript value (.Slice lo hi none p) pos) (sl ps x y) σ where
  like := rfl
  vars := rfl
  run := fun F s ok Q E k => Subscript_ (hv.run F s ok _ _ fun v F₁ s₁ st₁ ok₁ r₁ => wpAny_Slice (hl.run F₁ s₁ ok₁ _ _ fun vl F₂ s₂ st₂ ok₂ r₂ => hh.run F₂ s₂ ok₂ _ _ fun vu F₃ s₃ st₃ ok₃ r₃ => by
    rw [evalPart_none]
    refine wpAny_pure ?_
    obtain ⟨a, vs, rfl, hL, rv⟩ := LstW.items ((vSrcW σ ps).mono (st₂.sub.trans st₃.sub) r₁) ok₃
    refine slice_tail (hL.push _).typeIs list_getitem_lookup (wpAny_getItem_list_slice (hL.push _) (.new ..) ((vPart.is r₂)) (vPart.is r₃) .none (by decide) ?_ (by rw [List.size_toArray, rv.length]; exact hsz)) ⟨_, rfl⟩
    refine k F₃ s₃ (st₁.trans (st₂.trans st₃)) ok₃ _ _ (sl vs x y) _ _ (fun b ob e => Heap.get?_push_of_some _ (Heap.get?_push_of_some _ e)) ?_ (Heap.get?_push_size _ rfl) ⟨0, ?_⟩ (rv.sl x y)
    · exact get_ge (by rw [Heap.size_push]; exact Nat.le_succ _)
    · rw [kms_pick_eq]; rfl))
/-- [::-1] -/
theorem EvN.rev {value : Expr} {p : Pos} {st : Expr} {ps : List VP} (hv : Ev cx σ value (vSrcW σ ps) σ) (hst : EvPt cx σ (some st) (some (-1))) (hsz : ps.length ≤ sizeLine) :
    EvN cx σ (.Subscript value (.Slice none none (some st) p) pos) ps.reverse σ where
  like := rfl
  vars := rfl
  run := fun F s ok Q E k => Subscript_ (hv.run F s ok _ _ fun v F₁ s₁ st₁ ok₁ r₁ => wpAny_Slice (by
    rw [evalPart_none]
    refine wpAny_pure (wpAny_pure ?_)
    refine hst.run F₁ s₁ ok₁ _ _ fun vu F₃ s₃ st₃ ok₃ r₃ => ?_
    obtain ⟨a, vs, rfl, hL, rv⟩ := LstW.items ((vSrcW σ ps).mono (st₃.sub) r₁) ok₃
    refine slice_tail (hL.push _).typeIs list_getitem_lookup (wpAny_getItem_list_slice (hL.push _) (.new ..) .none .none (vPart.is r₃) (by decide) ?_ (by rw [List.size_toArray, rv.length]; exact hsz)) ⟨_, rfl⟩
    refine k F₃ s₃ (st₁.trans st₃) ok₃ _ _ vs.reverse _ _ (fun b ob e => Heap.get?_push_of_some _ (Heap.get?_push_of_some _ e)) ?_ (Heap.get?_push_size _ rfl) ⟨0, ?_⟩ rv.reverse
    · exact get_ge (by rw [Heap.size_push]; exact Nat.le_succ _)
    · rw [krv_pick]))
end Mine
namespace Mine
open PySem PySem.W PySem.Calls PyProof.Rows Builtin Builtin.Str Builtin.Int
variable {cx : Cx} {σ σ₁ σ₂ σ₃ : St} {pos : Pos}
theorem L2S_len (l : List Nat) : (L2S l).length = l.length := by unfold L2S PySem.Str.length; rw [List.size_toArray]
theorem L2S_toList (l : List Nat) : (L2S l).cps.toList = l := by unfold L2S; rw [List.toList_toArray]
theorem L2S_append (x y : List Nat) : L2S x ++ L2S y = L2S (x ++ y) := by
  show PySem.Str.append _ _ = _
  unfold L2S PySem.Str.append; rw [List.append_toArray]
theorem S2L (x : PySem.Str) : L2S x.cps.toList = x := by unfold L2S; rw [Array.toArray_toList]
noncomputable def S2 (x : PySem.Str) : List Nat := x.cps.toList
theorem vStr_of {x : PySem.Str} {t : Tok} {F : FH} : (vStr (S2 x)).rd F (.str x t) := ⟨t, by unfold S2; rw [S2L]⟩
theorem sizeLine_is : sizeLine = 16777216 := rfl
theorem tooLong_of {n : Nat} (h : n ≤ sizeLine) : tooLong n = false := decide_eq_false (Nat.not_lt.mpr h)
theorem len_ne (x : List Nat) : ((x.length : Int) != 0) = (x != []) := by
  cases x with
  | nil => rfl
  | cons a l =>
    have h : ((a :: l).length : Int) ≠ 0 := by simp only [List.length_cons]; first | lia | omega
    rw [bne_iff_ne.mpr h]; rfl
section sStr
variable {a b : Expr} {x y : List Nat}
theorem Ev.addS (ha : Ev cx σ a (vStr x) σ₁) (hb : Ev cx σ₁ b (vStr y) σ₂) (hsz : x.length + y.length ≤ sizeLine) : Ev cx σ (.BinOp a .Add b pos) (vStr (x ++ y)) σ₂ :=
  .bin ha hb fun F s v u ok ⟨t, e⟩ ⟨t', e'⟩ => by
    subst e; subst e'
    exact fun Q E k => SB.add (fun tk n => k _ F _ (.toks ok.inh) ⟨tk, by rw [L2S_append]⟩) (by rw [L2S_len, L2S_len]; exact hsz)
theorem gv_eq_str {F : FH} {s : Shared} (hi : Inh F s.heap) {t u : Tok} : Gv cx (compareOp .Eq (.str (L2S x) t) (.str (L2S y) u)) F s (vBool (x == y)).rd :=
  fun Q E k => P.eq_str (k _ F _ (.refl hi) (by rw [L2S_toList, L2S_toList]; exact rfl))
theorem gv_ne_str {F : FH} {s : Shared} (hi : Inh F s.heap) {t u : Tok} : Gv cx (compareOp .NotEq (.str (L2S x) t) (.str (L2S y) u)) F s (vBool (x != y)).rd :=
  fun Q E k => P.ne_str (k _ F _ (.refl hi) (by rw [L2S_toList, L2S_toList]; exact rfl))
theorem Tst.eqS (ha : Ev cx σ a (vStr x) σ₁) (hb : Ev cx σ₁ b (vStr y) σ₂) (hm : behindInMarks .Eq b = false := by with_unfolding_all rfl) : Tst cx σ (.Compare a [.Eq] [b] pos) (x == y) σ₂ := .cmp ha hb hm fun F s v u ok ⟨t, e⟩ ⟨t', e'⟩ => by subst e; subst e'; exact gv_eq_str ok.inh
theorem Tst.neS (ha : Ev cx σ a (vStr x) σ₁) (hb : Ev cx σ₁ b (vStr y) σ₂) (hm : behindInMarks .NotEq b = false := by with_unfolding_all rfl) : Tst cx σ (.Compare a [.NotEq] [b] pos) (x != y) σ₂ := .cmp ha hb hm fun F s v u ok ⟨t, e⟩ ⟨t', e'⟩ => by subst e; subst e'; exact gv_ne_str ok.inh
theorem Ev.eqS (ha : Ev cx σ a (vStr x) σ₁) (hb : Ev cx σ₁ b (vStr y) σ₂) (hm : behindInMarks .Eq b = false := by with_unfolding_all rfl) : Ev cx σ (.Compare a [.Eq] [b] pos) (vBool (x == y)) σ₂ := .cmp ha hb hm fun F s v u ok ⟨t, e⟩ ⟨t', e'⟩ => by subst e; subst e'; exact gv_eq_str ok.inh
theorem Ev.neS (ha : Ev cx σ a (vStr x) σ₁) (hb : Ev cx σ₁ b (vStr y) σ₂) (hm : behindInMarks .NotEq b = false := by with_unfolding_all rfl) : Ev cx σ (.Compare a [.NotEq] [b] pos) (vBool (x != y)) σ₂ := .cmp ha hb hm fun F s v u ok ⟨t, e⟩ ⟨t', e'⟩ => by subst e; subst e'; exact gv_ne_str ok.inh
/-- is the text within the other -/
noncomputable def isIn (y x : List Nat) : Bool := Txt.contains (L2S x) (L2S y)
theorem gv_in_str {F : FH} {s : Shared} (hi : Inh F s.heap) {t u : Tok} : Gv cx (compareOp .In (.str (L2S y) t) (.str (L2S x) u)) F s (vBool (isIn y x)).rd :=
  fun Q E k => SB.contains (k _ F _ (.refl hi) rfl)
theorem gv_nin_str {F : FH} {s : Shared} (hi : Inh F s.heap) {t u : Tok} : Gv cx (compareOp .NotIn (.str (L2S y) t) (.str (L2S x) u)) F s (vBool (!isIn y x)).rd :=
  fun Q E k => SB.notContains (k _ F _ (.refl hi) rfl)
theorem Tst.inS (ha : Ev cx σ a (vStr y) σ₁) (hb : Ev cx σ₁ b (vStr x) σ₂) (hm : behindInMarks .In b = false := by with_unfolding_all rfl) : Tst cx σ (.Compare a [.In] [b] pos) (isIn y x) σ₂ := .cmp ha hb hm fun F s v u ok ⟨t, e⟩ ⟨t', e'⟩ => by subst e; subst e'; exact gv_in_str ok.inh
theorem Ev.ninS (ha : Ev cx σ a (vStr y) σ₁) (hb : Ev cx σ₁ b (vStr x) σ₂) (hm : behindInMarks .NotIn b = false := by with_unfolding_all rfl) : Ev cx σ (.Compare a [.NotIn] [b] pos) (vBool (!isIn y x)) σ₂ := .cmp ha hb hm fun F s v u ok ⟨t, e⟩ ⟨t', e'⟩ => by subst e; subst e'; exact gv_nin_str ok.inh
theorem Tst.str {e : Expr} (ha : Ev cx σ e (vStr x) σ₁) (he : ∀ whole, isTrue e cx.env whole = (do let v ← whole; standAt e.pos; holding [v] (truthy v))) (hsz : x.length ≤ sizeLine) : Tst cx σ e (x != []) σ₁ :=
  .val ha he fun F s v ok ⟨t, r⟩ => by
    subst r
    exact fun Q E k => PySem.P.truthy_str (by rw [L2S_len]; rw [sizeLine_is] at hsz; first | lia | omega) (k _ F _ (.toks ok.inh) (by rw [L2S_len]; exact len_ne x))
end sStr
/-- a subscript by an index -/
noncomputable def IsIdx (sli : Expr) : Prop := ∀ o i, subscripted sli false o i = operate [o, i] (PySem.getItem o i)
theorem Ev.itemGen {value idx : Expr} {p q r : VP} (hv : Ev cx σ value p σ₁) (hi : Ev cx σ₁ idx q σ₂) (hx : IsIdx idx)
    (hT : ∀ F s v, StOK cx F s σ₂ → p.rd F v → ∃ T id, s.TypeIs v T ∧ typeLookup (.type T) "__getitem__" = pure (some (.builtin id)))
    (hop : ∀ F s v u, StOK cx F s σ₂ → p.rd F v → q.rd F u → Gv cx (PySem.getItem v u) F s r.rd) : Ev cx σ (.Subscript value idx pos) r σ₂ :=
  .op2 (f := fun v u => subscriptTail value idx v u) hv hi (fun Q E s h => Subscript_ h) fun F s v u ok r1 r2 Q E k => by
    obtain ⟨T, id, hT, hl⟩ := hT F s v ok r1
    exact slice_tail hT hl (hop F s v u ok r1 r2 Q E k) ⟨_, hx v u⟩
theorem seqIdx {k : Int} {n j : Nat} (h : seqIndex? k n = some j) : -(n : Int) ≤ k ∧ k < n ∧ j = (if k < 0 then k + n else k).toNat ∧ j < n := by
  unfold seqIndex? at h
  dsimp only at h
  by_cases h1 : k < 0
  · simp only [if_pos h1] at h ⊢
    split at h
    · rename_i h2
      simp only [Bool.and_eq_true, decide_eq_true_eq] at h2
      cases h
      omega
    · cases h
  · simp only [if_neg h1] at h ⊢
    split at h
    · rename_i h2
      simp only [Bool.and_eq_true, decide_eq_true_eq] at h2
      cases h
      omega
    · cases h
theorem Ev.itemL {value idx : Expr} {ps : List VP} {k : Int} {j : Nat} {p : VP} (hv : Ev cx σ value (vSrcW σ ps) σ) (hi : Ev cx σ idx (vInt k) σ) (hx : IsIdx idx)
    (hj : seqIndex? k ps.length = some j) (hp : ps[j]? = some p) (hsz : ps.length ≤ sizeLine) : Ev cx σ (.Subscript value idx pos) p σ :=
  .itemGen hv hi hx (fun F s v ok r => by
    obtain ⟨a, vs, rfl, hL, rv⟩ := LstW.items r ok
    exact ⟨_, _, hL.typeIs, list_getitem_lookup⟩) fun F s v u ok r1 ⟨t, r2⟩ Q E kk => by
    subst r2
    obtain ⟨a, vs, rfl, hL, rv⟩ := LstW.items r1 ok
    obtain ⟨h1, h2, h3, h4⟩ := seqIdx hj
    obtain ⟨x, hx, rx⟩ := rv.get hp
    rw [sizeLine_is] at hsz
    by_cases h0 : k < 0
    · rw [if_pos h0] at h3
      refine wpAny_getItem_list_neg hL h0 (by simp only [List.size_toArray, rv.length]; exact h1) (by first | lia | omega) ?_ (kk x F s (.refl ok.inh) rx)
      simp only [List.size_toArray, rv.length, List.getElem?_toArray]; rw [← h3]; exact hx
    · rw [if_neg h0] at h3
      refine wpAny_getItem_list hL (by first | lia | omega) (by first | lia | omega) ?_ (kk x F s (.refl ok.inh) rx)
      simp only [List.getElem?_toArray]; rw [← h3]; exact hx
theorem Ev.itemT {value idx : Expr} {ps : List VP} {k : Int} {j : Nat} {p : VP} (hv : Ev cx σ value (vTup ps) σ₁) (hi : Ev cx σ₁ idx (vInt k) σ₂) (hx : IsIdx idx)
    (hj : seqIndex? k ps.length = some j) (hp : ps[j]? = some p) (hsz : ps.length ≤ 1000 := by decide) : Ev cx σ (.Subscript value idx pos) p σ₂ :=
  .itemGen hv hi hx (fun F s v ok ⟨a, o, vs, e, f, ⟨n, h⟩, r⟩ => by
    subst e; subst h
    exact ⟨"tuple", _, ⟨_, ok.inh _ _ f, rfl⟩, PyProof.Rows.slot_tuple_getitem.lookup⟩) fun F s v u ok ⟨a, o, vs, e, f, ⟨n, h⟩, rv⟩ ⟨t, r2⟩ Q E kk => by
    subst e; subst h; subst r2
    obtain ⟨h1, h2, h3, h4⟩ := seqIdx hj
    obtain ⟨x, hx, rx⟩ := rv.get hp
    refine PyProof.Rows.getItem_tuple (items := vs.toArray) ⟨_, ok.inh _ _ f, rfl, n, rfl⟩ (by first | lia | omega) (by first | lia | omega) (j := j) ?_ (by simpa using hx) (kk x F s (.refl ok.inh) rx)
    rw [List.size_toArray, rv.length]; exact hj
theorem Ev.itemS {value idx : Expr} {x : List Nat} {k : Int} {j c : Nat} (hv : Ev cx σ value (vStr x) σ₁) (hi : Ev cx σ₁ idx (vInt k) σ₂) (hx : IsIdx idx)
    (hj : seqIndex? k x.length = some j) (hp : x[j]? = some c) (hsz : x.length ≤ sizeLine) : Ev cx σ (.Subscript value idx pos) (vStr [c]) σ₂ :=
  .itemGen hv hi hx (fun F s v ok ⟨t, e⟩ => by
    subst e
    exact ⟨"str", _, typeIs_str _ _ _, PySem.F.slot_str_getitem.lookup⟩) fun F s v u ok ⟨t, e⟩ ⟨t', r2⟩ Q E kk => by
    subst e; subst r2
    obtain ⟨h1, h2, h3, h4⟩ := seqIdx hj
    rw [sizeLine_is] at hsz
    have hc : Txt.charAt (L2S x) k = some c := by
      unfold Txt.charAt; rw [L2S_len, hj]
      show (L2S x).cps[j]? = some c
      unfold L2S; rw [List.getElem?_toArray]; exact hp
    refine SB.getItem (by unfold fitsSsize; rw [decide_eq_false (by first | lia | omega), decide_eq_false (by first | lia | omega)]; rfl) (by rw [hc]; rfl) (kk _ F _ (.toks ok.inh) ⟨s.toks, ?_⟩)
    unfold Txt.item; rw [hc]; rfl
/-- slices of texts -/
theorem txt_slice (x : List Nat) (lo hi : Option Int) : Txt.slice (L2S x) lo hi = L2S (sl x lo hi) := by
  have e : strSliceIndices lo hi 1 x.length = sliceRange (kms_lo lo x.length) (kms_hi hi x.length) 1 := by
    have q := kms_bounds lo hi x.length
    have q1 := congrArg (fun z : Int × Int × Int => z.1) q
    have q2 := congrArg (fun z : Int × Int × Int => z.2.1) q
    dsimp only at q1 q2
    rw [← q1, ← q2]
    rfl
  have pk : (strSliceIndices lo hi 1 x.length).filterMap (x.toArray[·]?) = sl x lo hi := by
    rw [e, sliceRange_one, pick_run, List.toList_toArray]; rfl
  unfold Txt.slice
  rw [L2S_len]
  show (if _ then _ else (⟨((strSliceIndices lo hi 1 x.length).filterMap (x.toArray[·]?)).toArray⟩ : PySem.Str)) = _
  rw [pk]
  split
  · rename_i h
    simp only [Bool.and_eq_true, beq_iff_eq] at h
    rw [e, sliceRange_one, List.length_map, List.length_range] at h
    have hl : kms_lo lo x.length = 0 := by
      have hh : kms_hi hi x.length ≤ x.length := by
        unfold kms_hi; split <;> (try split) <;> omega
      have hll : kms_lo lo x.length ≤ x.length := by
        unfold kms_lo; split <;> (try split) <;> omega
      omega
    unfold sl
    rw [hl] at h ⊢
    rw [List.drop_zero, h.2, List.take_length]
  · rfl
theorem Ev.slS {value : Expr} {lo hi : Option Expr} {p : Pos} {x : List Nat} {i j : Option Int} (hv : Ev cx σ value (vStr x) σ) (hl : EvPt cx σ lo i) (hh : EvPt cx σ hi j) (hsz : x.length ≤ sizeLine) :
    Ev cx σ (.Subscript value (.Slice lo hi none p) pos) (vStr (sl x i j)) σ where
  like := rfl
  vars := rfl
  run := fun F s ok Q E k => Subscript_ (hv.run F s ok _ _ fun v F₁ s₁ st₁ ok₁ r₁ => wpAny_Slice (hl.run F₁ s₁ ok₁ _ _ fun vl F₂ s₂ st₂ ok₂ r₂ => hh.run F₂ s₂ ok₂ _ _ fun vu F₃ s₃ st₃ ok₃ r₃ => by
    rw [evalPart_none]
    refine wpAny_pure ?_
    obtain ⟨t, rfl⟩ := r₁
    have fin : ∀ (l u : Option (Int × Tok)), l.map (·.1) = i → u.map (·.1) = j → vl = partValue l → vu = partValue u →
        wpAny (model cx.prog cx.w) cx.A (subscriptTail value (.Slice lo hi none p) (.str (L2S x) t) (.ref s₃.heap.objs.size)) Q E { s₃ with heap := s₃.heap.push { cls := .type "slice", data := .fields #[vl, vu, .none] } } := by
      rintro l u rfl rfl rfl rfl
      refine slice_tail (typeIs_str _ _ _) PySem.F.slot_str_getitem.lookup (wpAny_getItem_str_slice (l := l) (u := u) (st := none) ⟨_, Heap.get?_push_size _ rfl, rfl, rfl⟩ rfl ?_) ⟨_, rfl⟩
      have hle : (Txt.slice (L2S x) (l.map (·.1)) (u.map (·.1))).length ≤ sizeLine := Nat.le_trans (Txt.slice_le _ _ _) (by rw [L2S_len]; exact hsz)
      refine post_val_or_str ⟨hle, fun t' kk => ?_⟩
      have hst : Step (fun _ => False) F₃ s₃ F₃ { s₃ with heap := s₃.heap.push { cls := .type "slice", data := .fields #[partValue l, partValue u, .none] }, toks := kk } := Step.heap ok₃.inh fun b ob e => Heap.get?_push_of_some _ e
      exact k _ F₃ _ (st₁.trans (st₂.trans (st₃.trans (hst.weaken fun _ h => h.elim)))) (ok₃.pure hst) ⟨t', congrArg (Value.str · t') (txt_slice x _ _)⟩
    have pv : ∀ {z : Option Int} {G : FH} {v : Value}, (vPart z).rd G v → ∃ l : Option (Int × Tok), l.map (·.1) = z ∧ v = partValue l := by
      intro z G v h
      cases z with
      | none => cases h; exact ⟨none, rfl, rfl⟩
      | some n => obtain ⟨t, rfl⟩ := h; exact ⟨some (n, t), rfl, rfl⟩
    obtain ⟨l, h1, h2⟩ := pv r₂
    obtain ⟨u, h3, h4⟩ := pv r₃
    exact fin l u h1 h3 h2 h4))
end Mine
namespace Mine
open PySem PySem.W PySem.Calls PyProof.Rows Builtin Builtin.Str Builtin.Int
variable {cx : Cx} {σ σ₁ σ₂ σ₃ : St} {pos : Pos}
/-- what is known of the text's own names -/
structure Grd (K : Frag) (g : Heap) : Prop where
  X : K.In g
  T : ∃ p loose mg mb, TopRead p loose mg mb g
theorem StOK.g {F s} (ok : StOK cx F s σ) : ∀ b o, cx.g.get? b = some o → s.heap.get? b = some o := fun b o e => ok.inh _ _ (ok.gF b o e)
theorem Ev.gname {K : Frag} {x : PySem.Str} {v : Value} (G : Grd K cx.g) (e : nsIn K mainGlobals x = some (some v)) (hx : cx.env.kindOf x = some .globalImplicit)
    (hd : (x == (PySem.Str.ofString "__debug__")) = false := by decide) : Ev cx σ (.Name x pos) (vVal v) σ :=
  ⟨rfl, rfl, fun F s ok Q E k => by
    obtain ⟨p, loose, mg, mb, T⟩ := G.T
    exact Name_function_global ok.kind hx (loadGlobal_global (by rw [ok.glob]; exact T.g.keeps ok.g) (mg_of G.X T.g e) (k _ F s (.refl ok.inh) ok rfl)) hd⟩
theorem Ev.bname {K : Frag} {x : PySem.Str} {v : Value} (G : Grd K cx.g) (e : nsIn K mainGlobals x = some none) (hv : bootBuiltins x = some v) (hx : cx.env.kindOf x = some .globalImplicit)
    (hn : x ≠ PySem.Str.ofString "__name__" := by decide) (hd : (x == (PySem.Str.ofString "__debug__")) = false := by decide) : Ev cx σ (.Name x pos) (vVal v) σ :=
  ⟨rfl, rfl, fun F s ok Q E k => by
    obtain ⟨p, loose, mg, mb, T⟩ := G.T
    exact Name_function_global ok.kind hx (loadGlobal_builtin (by rw [ok.glob]; exact T.g.keeps ok.g) (mg_none_of G.X T.g e) (by rw [ok.bltn]; exact T.b.keeps ok.g) ((T.builtins x hn).trans hv) (k _ F s (.refl ok.inh) ok rfl)) hd⟩
/-- calls of built-in functions and types -/
theorem Ev.callB {x : PySem.Str} {np : Pos} {id : String} {e : Expr} {rest : List Expr} {ps : List VP} {r : VP} (hf : Ev cx σ (.Name x np) (vVal (.builtin id)) σ) (ha : EvAll cx σ pos (e :: rest) ps σ₁)
    (hop : ∀ F s vs, StOK cx F s σ₁ → Rds F ps vs → Gv cx (call (.builtin id) vs) F s r.rd)
    (he : starEach (e :: rest) cx.env = (false, eval e cx.env) :: starEach rest cx.env := by with_unfolding_all rfl) (hp : (backTo pos (starEach rest cx.env)).any (·.1) = false := by with_unfolding_all rfl) :
    Ev cx σ (.Call (.Name x np) (e :: rest) [] pos) r σ₁ where
  like := ha.like
  vars := ha.vars
  run := fun F s ok Q E k => wpAny_Call_Name_kw (hf.run F s ok _ _ fun v F₁ s₁ st₁ ok₁ r₁ => by
    cases r₁
    show wpAny _ _ (callWith pos (.builtin id) [] (backTo pos (starEach (e :: rest) cx.env)) []) Q E s₁
    exact PyProof.Rows.callWith_builtin1 (ha.run F₁ s₁ ok₁ _ _ fun vs F₂ s₂ st₂ ok₂ r₂ => hop F₂ s₂ vs ok₂ r₂ _ _ fun w F₃ s₃ st₃ r₃ =>
      k w F₃ s₃ (st₁.trans (st₂.trans (st₃.weaken fun _ h => h.elim))) (ok₂.pure st₃) r₃) he hp)
theorem Ev.callT {x : PySem.Str} {np : Pos} {T : String} {e : Expr} {rest : List Expr} {ps : List VP} {r : VP} (hf : Ev cx σ (.Name x np) (vVal (.type T)) σ) (ha : EvAll cx σ pos (e :: rest) ps σ₁)
    (hop : ∀ F s vs, StOK cx F s σ₁ → Rds F ps vs → Gv cx (call (.type T) vs) F s r.rd)
    (he : starEach (e :: rest) cx.env = (false, eval e cx.env) :: starEach rest cx.env := by with_unfolding_all rfl) (hp : (backTo pos (starEach rest cx.env)).any (·.1) = false := by with_unfolding_all rfl) :
    Ev cx σ (.Call (.Name x np) (e :: rest) [] pos) r σ₁ where
  like := ha.like
  vars := ha.vars
  run := fun F s ok Q E k => wpAny_Call_Name_kw (hf.run F s ok _ _ fun v F₁ s₁ st₁ ok₁ r₁ => by
    cases r₁
    show wpAny _ _ (callWith pos (.type T) [] (backTo pos (starEach (e :: rest) cx.env)) []) Q E s₁
    exact PyProof.Rows.callWith_type1 (ha.run F₁ s₁ ok₁ _ _ fun vs F₂ s₂ st₂ ok₂ r₂ => hop F₂ s₂ vs ok₂ r₂ _ _ fun w F₃ s₃ st₃ r₃ =>
      k w F₃ s₃ (st₁.trans (st₂.trans (st₃.weaken fun _ h => h.elim))) (ok₂.pure st₃) r₃) he hp)
theorem EvN.callT {x : PySem.Str} {np : Pos} {T : String} {e : Expr} {rest : List Expr} {ps qs : List VP} (hf : Ev cx σ (.Name x np) (vVal (.type T)) σ) (ha : EvAll cx σ pos (e :: rest) ps σ₁)
    (hop : ∀ F s vs, StOK cx F s σ₁ → Rds F ps vs → GvN cx (call (.type T) vs) F s qs)
    (he : starEach (e :: rest) cx.env = (false, eval e cx.env) :: starEach rest cx.env := by with_unfolding_all rfl) (hp : (backTo pos (starEach rest cx.env)).any (·.1) = false := by with_unfolding_all rfl) :
    EvN cx σ (.Call (.Name x np) (e :: rest) [] pos) qs σ₁ where
  like := ha.like
  vars := ha.vars
  run := fun F s ok Q E k => wpAny_Call_Name_kw (hf.run F s ok _ _ fun v F₁ s₁ st₁ ok₁ r₁ => by
    cases r₁
    show wpAny _ _ (callWith pos (.type T) [] (backTo pos (starEach (e :: rest) cx.env)) []) Q E s₁
    exact PyProof.Rows.callWith_type1 (ha.run F₁ s₁ ok₁ _ _ fun vs F₂ s₂ st₂ ok₂ r₂ => hop F₂ s₂ vs ok₂ r₂ _ _ fun a o ws h' tk hk hn hg hl hr =>
      k F₂ s₂ (st₁.trans st₂) ok₂ a o ws h' tk hk hn hg hl hr) he hp)
/-- operations by their values -/
theorem Rds.one {F : FH} {p : VP} {vs : List Value} (h : Rds F [p] vs) : ∃ v, vs = [v] ∧ p.rd F v := by
  cases h with | cons a b => cases b; exact ⟨_, rfl, a⟩
theorem Rds.two {F : FH} {p q : VP} {vs : List Value} (h : Rds F [p, q] vs) : ∃ v u, vs = [v, u] ∧ p.rd F v ∧ q.rd F u := by
  cases h with | cons a b => obtain ⟨u, rfl, c⟩ := b.one; exact ⟨_, _, rfl, a, c⟩
theorem Rds.three {F : FH} {p q r : VP} {vs : List Value} (h : Rds F [p, q, r] vs) : ∃ v u w, vs = [v, u, w] ∧ p.rd F v ∧ q.rd F u ∧ r.rd F w := by
  cases h with | cons a b => obtain ⟨u, w, rfl, c⟩ := b.two; exact ⟨_, _, _, rfl, a, c⟩
section len
variable {x : PySem.Str} {np : Pos} {e : Expr}
theorem Ev.lenL {ps : List VP} (hf : Ev cx σ (.Name x np) (vVal (.builtin "len")) σ) (h : Ev cx σ e (vSrcW σ ps) σ) (hsz : ps.length ≤ sizeLine)
    (he : starEach [e] cx.env = [(false, eval e cx.env)] := by with_unfolding_all rfl) : Ev cx σ (.Call (.Name x np) [e] [] pos) (vInt ps.length) σ :=
  .callB hf (.cons h .nil he) (fun F s vs ok r => by
    obtain ⟨v, rfl, r'⟩ := r.one
    obtain ⟨a, us, rfl, hL, rv⟩ := LstW.items r' ok
    rw [sizeLine_is] at hsz
    exact fun Q E k => call_len_list hL (by rw [List.size_toArray, rv.length]; first | lia | omega) (k _ F _ (.toks ok.inh) ⟨_, by rw [List.size_toArray, rv.length]⟩)) he rfl
theorem Ev.lenS {y : List Nat} (hf : Ev cx σ (.Name x np) (vVal (.builtin "len")) σ) (h : Ev cx σ e (vStr y) σ) (hsz : y.length ≤ sizeLine)
    (he : starEach [e] cx.env = [(false, eval e cx.env)] := by with_unfolding_all rfl) : Ev cx σ (.Call (.Name x np) [e] [] pos) (vInt y.length) σ :=
  .callB hf (.cons h .nil he) (fun F s vs ok r => by
    obtain ⟨v, rfl, t, rfl⟩ := r.one
    rw [sizeLine_is] at hsz
    exact fun Q E k => PySem.P.len_str (by rw [L2S_len]; first | lia | omega) (k _ F _ (.toks ok.inh) ⟨_, by rw [L2S_len]⟩)) he rfl
theorem Ev.min2 {f a b : Expr} {i j : Int} (hf : Ev cx σ (.Name x np) (vVal (.builtin "min")) σ) (h : EvAll cx σ pos [a, b] [vInt i, vInt j] σ₁)
    (he : starEach [a, b] cx.env = (false, eval a cx.env) :: starEach [b] cx.env := by with_unfolding_all rfl) (hp : (backTo pos (starEach [b] cx.env)).any (·.1) = false := by with_unfolding_all rfl) :
    Ev cx σ (.Call (.Name x np) [a, b] [] pos) (vInt (if j < i then j else i)) σ₁ :=
  .callB hf h (fun F s vs ok r => by
    obtain ⟨v, u, rfl, ⟨t, rfl⟩, ⟨t', rfl⟩⟩ := r.two
    exact fun Q E k => min_two_ints ok.hh fun h' tk hk => k _ F _ (.heap ok.inh hk) (by split <;> exact ⟨_, rfl⟩)) he hp
/-- a range -/
noncomputable def vRange (a b c : Int) : VP := ⟨fun F v => ∃ r t u w, v = .ref r ∧ F r = some { cls := .type "range", data := .fields #[.int a t, .int b u, .int c w] },
  fun h ⟨r, t, u, w, e, f⟩ => ⟨r, t, u, w, e, h _ _ f⟩⟩
theorem Ev.range1 {n : Int} (hf : Ev cx σ (.Name x np) (vVal (.type "range")) σ) (h : Ev cx σ e (vInt n) σ)
    (he : starEach [e] cx.env = [(false, eval e cx.env)] := by with_unfolding_all rfl) : Ev cx σ (.Call (.Name x np) [e] [] pos) (vRange 0 n 1) σ :=
  .callT hf (.cons h .nil he) (fun F s vs ok r => by
    obtain ⟨v, rfl, t, rfl⟩ := r.one
    exact fun Q E k => call_range_1 (k _ _ _ (.push ok.inh rfl) ⟨_, _, _, _, rfl, FH.set_at ..⟩)) he rfl
theorem Ev.range2 {a b : Expr} {i j : Int} (hf : Ev cx σ (.Name x np) (vVal (.type "range")) σ) (h : EvAll cx σ pos [a, b] [vInt i, vInt j] σ₁)
    (he : starEach [a, b] cx.env = (false, eval a cx.env) :: starEach [b] cx.env := by with_unfolding_all rfl) (hp : (backTo pos (starEach [b] cx.env)).any (·.1) = false := by with_unfolding_all rfl) :
    Ev cx σ (.Call (.Name x np) [a, b] [] pos) (vRange i j 1) σ₁ :=
  .callT hf h (fun F s vs ok r => by
    obtain ⟨v, u, rfl, ⟨t, rfl⟩, ⟨t', rfl⟩⟩ := r.two
    exact fun Q E k => call_range_2 (k _ _ _ (.push ok.inh rfl) ⟨_, _, _, _, rfl, FH.set_at ..⟩)) he hp
theorem Ev.range3 {a b c : Expr} {i j l : Int} (hf : Ev cx σ (.Name x np) (vVal (.type "range")) σ) (h : EvAll cx σ pos [a, b, c] [vInt i, vInt j, vInt l] σ₁) (hl : l ≠ 0) (hs : l.natAbs < 1073741824)
    (he : starEach [a, b, c] cx.env = (false, eval a cx.env) :: starEach [b, c] cx.env := by with_unfolding_all rfl) (hp : (backTo pos (starEach [b, c] cx.env)).any (·.1) = false := by with_unfolding_all rfl) :
    Ev cx σ (.Call (.Name x np) [a, b, c] [] pos) (vRange i j l) σ₁ :=
  .callT hf h (fun F s vs ok r => by
    obtain ⟨v, u, w, rfl, ⟨t, rfl⟩, ⟨t', rfl⟩, ⟨t'', rfl⟩⟩ := r.three
    exact fun Q E k => call_range_3 hl (k _ _ _ (.push ok.inh rfl) ⟨_, _, _, _, rfl, FH.set_at ..⟩) (.inl (PyProof.noPylong_small hs))) he hp
theorem Ev.tupleL {ps : List VP} (hf : Ev cx σ (.Name x np) (vVal (.type "tuple")) σ) (h : Ev cx σ e (vSrcW σ ps) σ) (hsz : ps.length ≤ sizeLine)
    (he : starEach [e] cx.env = [(false, eval e cx.env)] := by with_unfolding_all rfl) : Ev cx σ (.Call (.Name x np) [e] [] pos) (vTup ps) σ :=
  .callT hf (.cons h .nil he) (fun F s vs ok r => by
    obtain ⟨v, rfl, r'⟩ := r.one
    obtain ⟨a, us, rfl, hL, rv⟩ := LstW.items r' ok
    exact fun Q E k => call_tuple_list hL (fun h' hk => by
      have hn : s.heap.get? h'.objs.size = none := by
        cases q : s.heap.get? h'.objs.size with
        | none => rfl
        | some o => have := hk _ _ q; rw [get_size] at this; cases this
      have st : Step (fun _ => False) F s (F.set h'.objs.size _) { s with heap := h'.push { cls := .type "tuple", data := .seq us.toArray } } :=
        Step.freeze ok.inh (fun b ob q => Heap.get?_push_of_some _ (hk b ob q)) hn (Heap.get?_push_size _ rfl)
      exact k _ _ _ st ⟨_, _, us, rfl, FH.set_at .., ⟨0, rfl⟩, rv.mono st.sub⟩) (by rw [List.size_toArray, rv.length]; exact hsz)) he rfl
/-- the sum of a list of ints, of any size -/
theorem rds_ints {F : FH} : ∀ {ns : List Int} {vs : List Value}, Rds F (ns.map vInt) vs → ∃ xs : List (Int × Tok), vs = xs.map (fun p => .int p.1 p.2) ∧ xs.map (·.1) = ns
  | [], _, h => by cases h; exact ⟨[], rfl, rfl⟩
  | n :: ns, _, h => by
    cases h with
    | cons a b =>
      obtain ⟨t, rfl⟩ := a
      obtain ⟨xs, rfl, rfl⟩ := rds_ints b
      exact ⟨(n, t) :: xs, rfl, rfl⟩
theorem preSum_list : ∀ (xs : List (Int × Tok)), preSum (numAt xs.toArray) xs.length = (xs.map (·.1)).sum := by
  intro xs
  have := preSum_eq xs.toArray xs.length
  rw [this, List.take_of_length_le (by simp)]
  try simp
theorem Ev.sumL {ns : List Int} (hf : Ev cx σ (.Name x np) (vVal (.builtin "sum")) σ) (h : Ev cx σ e (vSrcW σ (ns.map vInt)) σ)
    (he : starEach [e] cx.env = [(false, eval e cx.env)] := by with_unfolding_all rfl) : Ev cx σ (.Call (.Name x np) [e] [] pos) (vInt ns.sum) σ :=
  .callB hf (.cons h .nil he) (fun F s vs ok r => by
    obtain ⟨v, rfl, r'⟩ := r.one
    obtain ⟨a, us, rfl, hL, rv⟩ := LstW.items r' ok
    obtain ⟨xs, rfl, rfl⟩ := rds_ints rv
    have hi : s.heap.IsList a (intItems xs.toArray) := by
      have e2 : intItems xs.toArray = (xs.map (fun p => Value.int p.1 p.2)).toArray := by unfold intItems; simp
      rw [e2]; exact hL
    exact fun Q E k => sum_intListG ok.hh hi fun h' tk t' hk => k _ F _ (.heap ok.inh hk) ⟨t', by rw [show xs.toArray.size = xs.length from by simp, preSum_list]⟩) he rfl
end len
end Mine
namespace Mine
open PySem PySem.W PySem.Calls PyProof.Rows Builtin Builtin.Str Builtin.Int
variable {cx : Cx} {σ σ₁ σ₂ σ₃ : St} {pos : Pos}
/-- methods of texts -/
theorem Ev.meth0 {o : Expr} {name : PySem.Str} {ap : Pos} {x : List Nat} {r : VP} (ho : Ev cx σ o (vStr x) σ₁)
    (hop : ∀ F s t, StOK cx F s σ₁ → ∀ (Q : Value → Shared → Prop) (E : Value → Shared → Prop), (∀ v F' s', Step (fun _ => False) F s F' s' → r.rd F' v → Q v s') → MethodOnS cx.prog cx.w cx.A E name (.str (L2S x) t) pos [] Q s)
    (hb : attributeBase o name cx.env (PySem.eval o cx.env) = PySem.eval o cx.env := by with_unfolding_all rfl) (hl : (ap.endLine == pos.line) = true := by with_unfolding_all rfl) : Ev cx σ (.Call (.Attribute o name ap) [] [] pos) r σ₁ where
  like := ho.like
  vars := ho.vars
  run := fun F s ok Q E k => Call_method0 hb hl (ho.run F s ok _ _ fun v F₁ s₁ st₁ ok₁ r₁ => by
    obtain ⟨t, rfl⟩ := r₁
    exact hop F₁ s₁ t ok₁ Q E fun w F₂ s₂ st₂ r₂ => k w F₂ s₂ (st₁.trans (st₂.weaken fun _ h => h.elim)) (ok₁.pure st₂) r₂)
theorem Ev.lower {o : Expr} {ap : Pos} {x : List Nat} (ho : Ev cx σ o (vStr x) σ₁) (hsz : (Txt.lower (L2S x)).length ≤ sizeLine)
    (hb : attributeBase o (PySem.Str.ofString "lower") cx.env (PySem.eval o cx.env) = PySem.eval o cx.env := by with_unfolding_all rfl) (hl : (ap.endLine == pos.line) = true := by with_unfolding_all rfl) : Ev cx σ (.Call (.Attribute o (PySem.Str.ofString "lower") ap) [] [] pos) (vStr (S2 (Txt.lower (L2S x)))) σ₁ :=
  .meth0 ho (fun F s t ok Q E k => SB.lower (tooLong_of hsz) (k _ F _ (.toks ok.inh) vStr_of)) hb hl
theorem Ev.swapcase {o : Expr} {ap : Pos} {x : List Nat} (ho : Ev cx σ o (vStr x) σ₁) (hsz : (Txt.swapcase (L2S x)).length ≤ sizeLine)
    (hb : attributeBase o (PySem.Str.ofString "swapcase") cx.env (PySem.eval o cx.env) = PySem.eval o cx.env := by with_unfolding_all rfl) (hl : (ap.endLine == pos.line) = true := by with_unfolding_all rfl) : Ev cx σ (.Call (.Attribute o (PySem.Str.ofString "swapcase") ap) [] [] pos) (vStr (S2 (Txt.swapcase (L2S x)))) σ₁ :=
  .meth0 ho (fun F s t ok Q E k => SB.swapcase (tooLong_of hsz) (k _ F _ (.toks ok.inh) vStr_of)) hb hl
/-- a method of one argument, by a call -/
theorem wpMeth1 {o e : Expr} {name : PySem.Str} {ap : Pos} {T id : String} {env : Env} {prog : Program} {w : World} {A : Around} {E : Value → Shared → Prop} {Q : Value → Shared → Prop} {s : Shared}
    (pa : PlainAttrs T) (sl : Slot T name id) (ty : typeOf (.builtin id) = pure (.type "method_descriptor"))
    (h : wpAny (model prog w) A (PySem.eval o env) (fun ov s₁ => s₁.TypeIs ov T ∧ (∀ a, ov = .ref a → ∃ ob, s₁.heap.get? a = some ob ∧ ob.dict = none) ∧
      wpAny (model prog w) A (PySem.eval e env) (fun u s₂ => wpAny (model prog w) A (call (.builtin id) [ov, u]) Q E s₂) E s₁) E s)
    (hs : starEach [e] env = [(false, PySem.eval e env)] := by with_unfolding_all rfl)
    (hb : attributeBase o name env (PySem.eval o env) = PySem.eval o env := by with_unfolding_all rfl) (hl : (ap.endLine == pos.line) = true := by with_unfolding_all rfl) :
    wpAny (model prog w) A (PySem.eval (.Call (.Attribute o name ap) [e] [] pos) env) Q E s := by
  refine Call_method1 hb hs hl (wpAny_mono h (fun ov s₁ ⟨hT, hd, hc⟩ => ⟨T, id, pa, sl, ty, hT, hd, ?_⟩) fun _ _ x => x)
  refine callWith_builtin rfl (evalArgs_plain (spliced_cons (wpAny_mono hc (fun u s₂ h₂ => spliced_nil h₂) fun _ _ x => x)))
theorem Ev.countS {o e : Expr} {ap : Pos} {x y : List Nat} (ho : Ev cx σ o (vStr x) σ₁) (he : Ev cx σ₁ e (vStr y) σ₂)
    (hs : starEach [e] cx.env = [(false, PySem.eval e cx.env)] := by with_unfolding_all rfl)
    (hb : attributeBase o (PySem.Str.ofString "count") cx.env (PySem.eval o cx.env) = PySem.eval o cx.env := by with_unfolding_all rfl) (hl : (ap.endLine == pos.line) = true := by with_unfolding_all rfl) :
    Ev cx σ (.Call (.Attribute o (PySem.Str.ofString "count") ap) [e] [] pos) (vInt (Txt.count (L2S x) (L2S y))) σ₂ where
  like := he.like.trans ho.like
  vars := he.vars.trans ho.vars
  run := fun F s ok Q E k => Call_method1 hb hs hl (ho.run F s ok _ _ fun v F₁ s₁ st₁ ok₁ r₁ => by
    obtain ⟨t, rfl⟩ := r₁
    refine SB.count (he.run F₁ s₁ ok₁ _ _ fun u F₂ s₂ st₂ ok₂ r₂ => ?_)
    obtain ⟨t', rfl⟩ := r₂
    have st₃ : Step (fun _ => False) F₂ s₂ F₂ { s₂ with toks := s₂.toks + 1 } := .toks ok₂.inh
    exact ⟨_, _, rfl, k _ F₂ _ (st₁.trans ((ho.has ▸ st₂).trans (st₃.weaken fun _ h => h.elim))) (ok₂.pure st₃) ⟨_, rfl⟩⟩)
/-- a list of texts -/
noncomputable def vStrs (l : List (List Nat)) : List VP := l.map vStr
theorem rds_strs {F : FH} : ∀ {l : List (PySem.Str × Tok)}, Rds F (vStrs (l.map fun p => S2 p.1)) (strValues l)
  | [] => .nil
  | (x, t) :: l => .cons vStr_of rds_strs
theorem strs_rds {F : FH} : ∀ {ls : List (List Nat)} {vs : List Value}, Rds F (vStrs ls) vs → ∃ l : List (PySem.Str × Tok), vs = strValues l ∧ l.map (·.1) = ls.map L2S
  | [], _, h => by cases h; exact ⟨[], rfl, rfl⟩
  | x :: ls, _, h => by
    cases h with
    | cons a b =>
      obtain ⟨t, rfl⟩ := a
      obtain ⟨l, rfl, e⟩ := strs_rds b
      exact ⟨(L2S x, t) :: l, rfl, by simp [e]⟩
/-- the parts of a text -/
noncomputable def splitL (x y : List Nat) : List (List Nat) := (Txt.split (L2S x) (L2S y)).map S2
theorem gv_split {x y : List Nat} {t u : Tok} {F : FH} {s : Shared} (hi : Inh F s.heap) (hy : (y.length == 0) = false) (hsz : x.length ≤ sizeLine) (hp : (splitL x y).length ≤ sizeLine) :
    GvN cx (call (.builtin "str.split") [.str (L2S x) t, .str (L2S y) u]) F s (vStrs (splitL x y)) := by
  intro Q E k
  have fin : ∀ (l : List (PySem.Str × Tok)) tk, l.map (·.1) = Txt.split (L2S x) (L2S y) → Q (.ref s.heap.objs.size) { s with heap := s.heap.push { cls := .type "list", data := .seq (strValues l).toArray }, toks := tk } := fun l tk e =>
    k _ _ (strValues l) _ tk (fun b ob q => Heap.get?_push_of_some _ q) (get_size _) (Heap.get?_push_size _ rfl) ⟨0, rfl⟩ (by
      have : splitL x y = l.map fun p => S2 p.1 := by unfold splitL; rw [← e, List.map_map]; rfl
      rw [this]; exact rds_strs)
  have hy' : ((L2S y).length == 0) = false := by rw [L2S_len]; exact hy
  have hs' : (L2S x).length ≤ sizeLine := by rw [L2S_len]; exact hsz
  unfold splitL at hp
  rw [List.length_map] at hp
  by_cases h1 : (decide ((L2S x).length < (L2S y).length) || decide (strKind (L2S x) < strKind (L2S y))) = true
  · exact call_meets PySem.F.slot_str_split (typeIs_str _ _ _) PySem.F.entry_str_split (PySem.F.args_str_split_2 _ _) (meets_str_split_cannot_occur (L2S x) (L2S y) t u h1)
      (fin [(L2S x, t)] s.toks (by unfold Txt.split; rw [if_pos h1]; rfl))
  · by_cases h2 : (occurrences (L2S x) (L2S y) 0 (L2S x).length ((L2S x).length + 1)).isEmpty = true
    · exact call_meets PySem.F.slot_str_split (typeIs_str _ _ _) PySem.F.entry_str_split (PySem.F.args_str_split_2 _ _) (meets_str_split_not_found (L2S x) (L2S y) t u (Bool.eq_false_iff.mpr h1) hy' h2)
        (fin [(L2S x, t)] s.toks (by unfold Txt.split; rw [if_neg h1, if_pos h2]; rfl))
    · have e : Txt.split (L2S x) (L2S y) = partsBetween (L2S x) (occurrences (L2S x) (L2S y) 0 (L2S x).length ((L2S x).length + 1)) (L2S y).length := by
        unfold Txt.split; rw [if_neg h1, if_neg h2]
      refine call_meets PySem.F.slot_str_split (typeIs_str _ _ _) PySem.F.entry_str_split (PySem.F.args_str_split_2 _ _) (meets_str_split_sep (L2S x) (L2S y) t u (Bool.eq_false_iff.mpr h1) hy' (Bool.eq_false_iff.mpr h2) hs' (e ▸ hp)) ?_
      have q := fin (numbered s.toks (Txt.split (L2S x) (L2S y))) (s.toks + (Txt.split (L2S x) (L2S y)).length) (numbered_texts _ _)
      rw [← strsFrom_eq, e] at q
      exact q
theorem EvN.split {o e : Expr} {ap : Pos} {x y : List Nat} (ho : Ev cx σ o (vStr x) σ₁) (he : Ev cx σ₁ e (vStr y) σ₂) (hy : (y.length == 0) = false) (hsz : x.length ≤ sizeLine) (hp : (splitL x y).length ≤ sizeLine)
    (hs : starEach [e] cx.env = [(false, PySem.eval e cx.env)] := by with_unfolding_all rfl)
    (hb : attributeBase o (PySem.Str.ofString "split") cx.env (PySem.eval o cx.env) = PySem.eval o cx.env := by with_unfolding_all rfl) (hl : (ap.endLine == pos.line) = true := by with_unfolding_all rfl) :
    EvN cx σ (.Call (.Attribute o (PySem.Str.ofString "split") ap) [e] [] pos) (vStrs (splitL x y)) σ₂ where
  like := he.like.trans ho.like
  vars := he.vars.trans ho.vars
  run := fun F s ok Q E k => wpMeth1 PySem.F.plainAttrs_str PySem.F.slot_str_split PySem.F.type_str_split (ho.run F s ok _ _ fun v F₁ s₁ st₁ ok₁ r₁ => by
    obtain ⟨t, rfl⟩ := r₁
    refine ⟨typeIs_str _ _ _, (fun _ q => nomatch q), he.run F₁ s₁ ok₁ _ _ fun u F₂ s₂ st₂ ok₂ r₂ => ?_⟩
    obtain ⟨t', rfl⟩ := r₂
    exact gv_split (cx := cx) ok₂.inh hy hsz hp Q E fun a o vs h' tk hk hn hg hl hr => k F₂ s₂ (st₁.trans (ho.has ▸ st₂)) ok₂ a o vs h' tk hk hn hg hl hr) hs hb hl
/-- texts joined -/
noncomputable def joinL (x : List Nat) (ls : List (List Nat)) : List Nat := S2 (Txt.join (L2S x) (ls.map L2S))
theorem Ev.join {o e : Expr} {ap : Pos} {x : List Nat} {ls : List (List Nat)} (ho : Ev cx σ o (vStr x) σ₁) (he : Ev cx σ₁ e (vSrcW σ₂ (vStrs ls)) σ₂) (hj : JoinOk (L2S x) (ls.map L2S) = true)
    (hs : starEach [e] cx.env = [(false, PySem.eval e cx.env)] := by with_unfolding_all rfl)
    (hb : attributeBase o (PySem.Str.ofString "join") cx.env (PySem.eval o cx.env) = PySem.eval o cx.env := by with_unfolding_all rfl) (hl : (ap.endLine == pos.line) = true := by with_unfolding_all rfl) :
    Ev cx σ (.Call (.Attribute o (PySem.Str.ofString "join") ap) [e] [] pos) (vStr (joinL x ls)) σ₂ where
  like := he.like.trans ho.like
  vars := he.vars.trans ho.vars
  run := fun F s ok Q E k => wpMeth1 PySem.F.plainAttrs_str PySem.F.slot_str_join PySem.F.type_str_join (ho.run F s ok _ _ fun v F₁ s₁ st₁ ok₁ r₁ => by
    obtain ⟨t, rfl⟩ := r₁
    refine ⟨typeIs_str _ _ _, (fun _ q => nomatch q), he.run F₁ s₁ ok₁ _ _ fun u F₂ s₂ st₂ ok₂ r₂ => ?_⟩
    obtain ⟨a, us, rfl, hL, rv⟩ := LstW.items r₂ ok₂
    obtain ⟨l, rfl, e⟩ := strs_rds rv
    refine SC.join hL e hj fun t' kk => ?_
    have st₃ : Step (fun _ => False) F₂ s₂ F₂ { s₂ with toks := kk } := .toks ok₂.inh
    exact k _ F₂ _ (st₁.trans ((ho.has ▸ st₂).trans (st₃.weaken fun _ h => h.elim))) (ok₂.pure st₃) vStr_of) hs hb hl
section sLists
variable {x : PySem.Str} {np : Pos} {e : Expr}
theorem itemsOf_rds {F : FH} {P : Nat → Value → Prop} : ∀ {acc : Array Value} {n : Nat} {ps : List VP}, ItemsOf P acc n → ps.length = n → (∀ j v p, ps[j]? = some p → P j v → p.rd F v) → Rds F ps acc.toList := by
  intro acc n ps h hl hp
  obtain ⟨hs, hi⟩ := h
  have gen : ∀ (ps : List VP) (vs : List Value) (k : Nat), ps.length = vs.length → (∀ (j : Nat) (v : Value) (p : VP), vs[j]? = some v → ps[j]? = some p → p.rd F v) → Rds F ps vs := by
    intro ps
    induction ps with
    | nil => intro vs k hl _; cases vs with | nil => exact .nil | cons _ _ => cases hl
    | cons p ps ih =>
      intro vs k hl hq
      cases vs with
      | nil => cases hl
      | cons v vs =>
        exact .cons (hq 0 v p rfl rfl) (ih vs k (by simpa using hl) fun j v p h1 h2 => hq (j + 1) v p (by simpa using h1) (by simpa using h2))
  refine gen ps acc.toList 0 (by rw [hl, ← hs]; simp) fun j v p h1 h2 => hp j v p h2 (hi j v (by simpa using h1))
theorem EvN.listS {y : List Nat} (hf : Ev cx σ (.Name x np) (vVal (.type "list")) σ) (h : Ev cx σ e (vStr y) σ) (hsz : y.length ≤ sizeLine)
    (he : starEach [e] cx.env = [(false, PySem.eval e cx.env)] := by with_unfolding_all rfl) : EvN cx σ (.Call (.Name x np) [e] [] pos) (vStrs (y.map fun c => [c])) σ :=
  .callT hf (.cons h .nil he) (fun F s vs ok r => by
    obtain ⟨v, rfl, t, rfl⟩ := r.one
    refine fun Q E k => call_list_str ok.hh (L2S y) t (fun h' tk acc c hk hg hi => k _ _ acc.toList h' tk hk (get_size _) hg ⟨c, rfl⟩ ?_) (by have := L2S_len y; unfold PySem.Str.length at this; rw [this]; exact hsz)
    refine itemsOf_rds hi (by have := L2S_len y; unfold PySem.Str.length at this; rw [this]; simp [vStrs]) fun j v p hp hv => ?_
    unfold vStrs at hp
    rw [List.map_map, List.getElem?_map] at hp
    obtain ⟨c, hc, rfl⟩ := Option.map_eq_some_iff.mp hp
    obtain ⟨c', t', h1, h2⟩ := hv
    have e1 : (L2S y).cps[j]? = some c := by unfold L2S; rw [List.getElem?_toArray]; exact hc
    rw [e1] at h1; cases h1
    exact ⟨t', h2⟩) he rfl
theorem EvN.listR {a b c : Int} {n : Nat} (hf : Ev cx σ (.Name x np) (vVal (.type "list")) σ) (h : Ev cx σ e (vRange a b c) σ) (hs : Builtin.Range.small a b c = true) (hn : Builtin.Range.rangeSize a b c = n) (hl : n ≤ 2 ^ 24)
    (he : starEach [e] cx.env = [(false, PySem.eval e cx.env)] := by with_unfolding_all rfl) : EvN cx σ (.Call (.Name x np) [e] [] pos) ((List.range n).map fun (i : Nat) => vInt (a + (i : Int) * c)) σ :=
  .callT hf (.cons h .nil he) (fun F s vs ok r => by
    obtain ⟨v, rfl, ad, t, u, w, rfl, f⟩ := r.one
    refine fun Q E k => call_list_range ok.hh (ok.inh _ _ f) hs hn hl (fun h' tk acc c hk hg hi => k _ _ acc.toList h' tk hk (get_size _) hg ⟨c, rfl⟩ ?_)
    refine itemsOf_rds hi (by simp) fun j v p hp hv => ?_
    rw [List.getElem?_map] at hp
    obtain ⟨i, hi', rfl⟩ := Option.map_eq_some_iff.mp hp
    have hij : i = j := by
      have hlt := (List.getElem?_eq_some_iff.mp hi').1
      have hq : (List.range n)[j]? = some j := List.getElem?_range (by simpa using hlt)
      rw [hq] at hi'; exact (Option.some.inj hi').symm
    subst hij
    exact hv) he rfl
end sLists
/-- [v] * n -/
theorem EvN.mul {a b : Expr} {p : VP} {n : Int} (ha : Ev cx σ a (vSrc σ [p]) σ) (hb : Ev cx σ b (vInt n) σ) (hsz : n ≤ 1000) (hlo : -1000 ≤ n) : EvN cx σ (.BinOp a .Mult b pos) (List.replicate n.toNat p) σ :=
  .op2 ha hb (fun Q E s h => wpAny_BinOp h) fun F s v u ok h1 ⟨t, h2⟩ Q E k => by
    subst h2
    obtain ⟨x, o, vs, rfl, hl, ⟨m, rfl⟩, r⟩ := h1.items ok
    obtain ⟨v, rfl, rv⟩ := r.one
    refine wpAny_binaryOp_repeat_ref (T := "list") (U := "int") (by decide) ⟨_, hl, rfl⟩ (fun s' => typeIs_int s' n t) noFill_list_mul PySem.F.fills_int_mul PySem.F.slot_int_rmul repeat_list PySem.F.slot_int_index.lookup
      (call_meets PySem.F.slot_int_rmul (typeIs_int s n t) PySem.F.entry_int_rmul (PySem.F.args_int_rmul_2 _ _) (int___rmul___int_list n t x _ m)
      ⟨hl, rfl, ⟨_, hl, rfl⟩, call_meets PySem.F.slot_list_mul ⟨_, hl, rfl⟩ PySem.F.entry_list_mul (PySem.F.args_list_mul_2 _ _)
        (lm_list_mul_any x _ m none #[] n t (by simp [Builtin.List.listFitsIndex]; first | lia | omega) (by simp; first | lia | omega) (by simp [Builtin.List.listTooLong, sizeLine]; first | lia | omega))
        ⟨hl, k _ _ (List.replicate n.toNat v) _ s.toks (fun b ob q => Heap.get?_push_of_some _ q) (get_size _) (Heap.get?_push_size _ rfl) ⟨0, ?_⟩ ?_⟩⟩)
    · have e : ∀ (j : Nat) (acc : Array Value), (List.replicate j #[v]).foldl (fun x1 x2 => x1 ++ x2) acc = acc ++ (List.replicate j v).toArray := by
        intro j
        induction j with
        | zero => intro acc; simp
        | succ j ih => intro acc; rw [List.replicate_succ, List.foldl_cons, ih, List.replicate_succ]; apply Array.toList_inj.mp; simp
      rw [show ([v] : List Value).toArray = #[v] from rfl]
      simp only [show (#[v] : Array Value).isEmpty = false from rfl, Bool.false_eq_true, if_false]
      rw [e]; simp
    · have gen : ∀ j : Nat, Rds F (List.replicate j p) (List.replicate j v) := by
        intro j; induction j with
        | zero => exact .nil
        | succ j ih => exact .cons rv ih
      exact gen _
theorem Ev.mulS {a b : Expr} {x : List Nat} {n : Int} (ha : Ev cx σ a (vStr x) σ₁) (hb : Ev cx σ₁ b (vInt n) σ₂) (hok : MulOk (L2S x) n) : Ev cx σ (.BinOp a .Mult b pos) (vStr (S2 (Txt.mul (L2S x) n))) σ₂ :=
  .bin ha hb fun F s v u ok ⟨t, e⟩ ⟨t', e'⟩ => by
    subst e; subst e'
    refine fun Q E kk => SB.mul hok fun t' k => kk (.str (Txt.mul (L2S x) n) t') F _ (.toks ok.inh) ?_
    exact vStr_of
end Mine
namespace Mine
open PySem PySem.W PySem.Calls PyProof.Rows Builtin Builtin.Str Builtin.Int
variable {cx : Cx} {σ σ₁ σ₂ σ₃ : St} {pos : Pos} {P P' : Out → Prop}
/-- statements one behind the other -/
noncomputable def Then (cx : Cx) (rest : List Stmt) (P : Out → Prop) : Out → Prop
  | .nx σ' => Exs cx σ' rest P
  | o => P o
theorem Exs.nil (h : P (.nx σ)) : Exs cx σ [] P := fun F s ok Q E k => wpAny_execs_nil (k .next F s (.nx σ) (.refl F) ok h)
theorem Exs.cons {st : Stmt} {rest : List Stmt} (h : Ex cx σ st (Then cx rest P)) : Exs cx σ (st :: rest) P := fun F s ok Q E k =>
  wpAny_execs_cons (h F s ok _ E fun f F' s' o sb oo po => by
    cases f with
    | next => cases o with
      | nx σ' => exact po F' s' oo Q E fun f F2 s2 o2 sb2 => k f F2 s2 o2 (sb.trans sb2)
      | _ => exact oo.elim
    | brk => cases o with
      | bk σ' => exact k .brk F' s' (.bk σ') sb oo po
      | _ => exact oo.elim
    | cont => cases o with
      | ct σ' => exact k .cont F' s' (.ct σ') sb oo po
      | _ => exact oo.elim
    | ret v => cases o with
      | rt p R => exact k (.ret v) F' s' (.rt p R) sb oo po
      | _ => exact oo.elim)
theorem Exs.mono {ss : List Stmt} (h : Exs cx σ ss P) (hp : ∀ o, P o → P' o) : Exs cx σ ss P' := fun F s ok Q E k => h F s ok Q E fun f F' s' o sb oo po => k f F' s' o sb oo (hp o po)
/-- a state forgotten in part -/
structure Wk (σ σ' : St) : Prop where
  vars : ∀ x p, (x, p) ∈ σ'.vars → (x, p) ∈ σ.vars
  nd : (σ'.vars.map (·.1)).Nodup
  res : σ'.res.Sublist σ.res
theorem Sub.has {R R' : Res} (h : R'.Sublist R) {a : Addr} (x : Res.has R' a) : Res.has R a := (h.map (·.1)).subset x
theorem ResOK.sub {F : FH} {h : Heap} {R R' : Res} (x : ResOK F h R) (s : R'.Sublist R) : ResOK F h R' := ⟨fun a c hm => x.ok a c (s.subset hm), fun a c hm => x.off a c (s.subset hm), (s.map (·.1)).nodup x.nodup⟩
theorem StOK.wk {F s} (ok : StOK cx F s σ) (h : Wk σ σ₁) : StOK cx F s σ₁ :=
  { ok with vars := fun x p hm => ok.vars x p (h.vars x p hm), nd := h.nd, res := ok.res.sub h.res, resW := fun a q => ok.resW a (Sub.has h.res q), locR := fun q => ok.locR (Sub.has h.res q), cells := fun y c hm => ⟨(ok.cells y c hm).1, (ok.cells y c hm).2.1, fun q => (ok.cells y c hm).2.2 (Sub.has h.res q)⟩, priv := fun a o hm => let ⟨p1, p2, p3, p4, p5⟩ := ok.priv a o hm; ⟨p1, p2, fun q => p3 (Sub.has h.res q), p4, p5⟩ }
theorem Exs.wk {ss : List Stmt} (w : Wk σ σ₁) (h : Exs cx σ₁ ss P) : Exs cx σ ss P := fun F s ok Q E k => h F s (ok.wk w) Q E k
theorem Exs.brk {rest : List Stmt} (h : P (.bk σ)) : Exs cx σ (.Break pos :: rest) P := .cons fun F s ok Q E k => wpAny_Break (k .brk F s (.bk σ) (.refl F) ok h)
theorem Exs.cont {rest : List Stmt} (h : P (.ct σ)) : Exs cx σ (.Continue pos :: rest) P := .cons fun F s ok Q E k => wpAny_Continue (k .cont F s (.ct σ) (.refl F) ok h)
theorem StOK.ret {F s} (ok : StOK cx F s σ) {p : VP} {v : Value} (r : p.rd F v) : OutOK cx F s (.ret v) (.rt p σ.res) := ⟨ok.base, r, ok.res, ok.resW⟩
theorem Exs.ret {e : Expr} {p : VP} {rest : List Stmt} (he : Ev cx σ e p σ₁) (h : P (.rt p σ₁.res)) : Exs cx σ (.Return (some e) pos :: rest) P := .cons fun F s ok Q E k =>
  wpAny_Return_some (he.run F s ok _ _ fun v F' s' st ok' r => k (.ret v) F' s' (.rt p σ₁.res) st.sub (ok'.ret r) h)
theorem Exs.iff {t : Expr} {b o rest : List Stmt} {c : Bool} (ht : Tst cx σ t c σ₁) (hb : c = true → Exs cx σ₁ b (Then cx rest P)) (ho : c = false → Exs cx σ₁ o (Then cx rest P)) :
    Exs cx σ (.If t b o pos :: rest) P := .cons fun F s ok Q E k => wpAny_If (ht.run F s ok _ _ fun F' s' st ok' => by
    cases c with
    | true => exact hb rfl F' s' ok' Q E fun f F2 s2 o2 sb2 => k f F2 s2 o2 (st.sub.trans sb2)
    | false => exact ho rfl F' s' ok' Q E fun f F2 s2 o2 sb2 => k f F2 s2 o2 (st.sub.trans sb2))
/-- a name stored -/
theorem StOK.put {F s h' tk} {x : PySem.Str} {p : VP} {v : Value} {vars' : List (PySem.Str × VP)} (ok : StOK cx F s σ)
    (hb : ∀ b o, F b = some o → h'.get? b = some o) (hk : ∀ b o, b ≠ cx.env.locals → (∀ y, (y, b) ∉ cx.env.cells) → s.heap.get? b = some o → h'.get? b = some o)
    (hl : ∀ b o, s.heap.get? b = some o → ∃ o', h'.get? b = some o') (hns : ∃ m, h'.Ns cx.env.locals m) (hcl : ∀ y c, (y, c) ∈ cx.env.cells → ∃ v, h'.IsCell c v)
    (hlow : ∀ b o, cx.s0.heap.get? b = some o → ¬ cx.W b → s.heap.get? b = some o → h'.get? b = some o)
    (hx : VarAt cx.env h' x v) (hr : p.rd F v) (hy : ∀ y u, y ≠ x → VarAt cx.env s.heap y u → VarAt cx.env h' y u)
    (hv : ∀ y q, (y, q) ∈ vars' → (y = x ∧ q = p) ∨ (y ≠ x ∧ (y, q) ∈ σ.vars)) (hnd : (vars'.map (·.1)).Nodup) :
    StOK cx F { s with heap := h', toks := tk } { vars := vars', res := σ.res } where
  base := ⟨ok.base.sub, hb, ok.base.fresh, fun a o w e => hlow a o e w (ok.base.keep a o w e), fun a o e => let ⟨o', e'⟩ := ok.base.live a o e; hl a o' e', ok.base.gens, ok.base.os⟩
  gF := ok.gF
  hh := ok.hh
  kind := ok.kind
  glob := ok.glob
  bltn := ok.bltn
  ns := hns
  newL := ok.newL
  locF := ok.locF
  locR := ok.locR
  cells := fun y c hm => ⟨hcl y c hm, (ok.cells y c hm).2⟩
  apart := ok.apart
  newC := ok.newC
  vars := fun y q hm => by
    rcases hv y q hm with ⟨rfl, rfl⟩ | ⟨hne, hm'⟩
    · exact ⟨v, hx, hr⟩
    · obtain ⟨u, a, r⟩ := ok.vars y q hm'
      exact ⟨u, hy y u hne a, r⟩
  res := ⟨fun a c hm => (ok.res.ok a c hm).at fun o e => hk a o (fun q => ok.locR (q ▸ Res.has_of hm)) (fun y q => (ok.cells y a q).2.2 (Res.has_of hm)) e, ok.res.off, ok.res.nodup⟩
  resW := ok.resW
  locW := ok.locW
  cellW := ok.cellW
  nd := hnd
  priv := fun a o hm => let ⟨p1, p2, p3, p4, p5⟩ := ok.priv a o hm; ⟨hk a o p4 p5 p1, p2, p3, p4, p5⟩
/-- where a name's value goes -/
inductive Home (env : Env) (x : PySem.Str) : Prop
  | loc (h : env.kindOf x = some .local)
  | cell (h : env.kindOf x = some .cell) (c : Addr) (hc : env.cells.lookup x = some c)
theorem store_at {F s} {x : PySem.Str} {p : VP} {v : Value} {vars' : List (PySem.Str × VP)} (ok : StOK cx F s σ) (hm : Home cx.env x) (hown : cx.env.kindOf x = some .cell → cx.own = true) (hr : p.rd F v)
    (hv : ∀ y q, (y, q) ∈ vars' → (y = x ∧ q = p) ∨ (y ≠ x ∧ (y, q) ∈ σ.vars)) (hnd : (vars'.map (·.1)).Nodup) {Q : Unit → Shared → Prop} {E : Value → Shared → Prop}
    (k : ∀ s', StOK cx F s' { vars := vars', res := σ.res } → Q () s') : wpAny (model cx.prog cx.w) cx.A (storeName cx.env x v) Q E s := by
  obtain ⟨m, hn⟩ := ok.ns
  have hLs : ∃ o, s.heap.get? cx.env.locals = some o := let ⟨o, _, _, e, _⟩ := hn; ⟨o, e⟩
  have hLF : ∀ b o, F b = some o → b ≠ cx.env.locals := fun b o e q => by rw [q, ok.locF] at e; cases e
  have hCF : ∀ y c, (y, c) ∈ cx.env.cells → ∀ b o, F b = some o → b ≠ c := fun y c hc b o e q => by rw [q, (ok.cells y c hc).2.1] at e; cases e
  have hLC : ∀ y c, (y, c) ∈ cx.env.cells → c ≠ cx.env.locals := fun y c hc q => by
    obtain ⟨⟨_, o, e, d⟩, _⟩ := ok.cells y c hc
    obtain ⟨o', es, ep, e', d', _⟩ := hn
    rw [q, e'] at e; cases e; rw [d'] at d; cases d
  cases hm with
  | loc hl =>
    refine wpAny_storeName_local hl hn (fun h' hn' hs => k _ (ok.put (tk := s.toks + 1) (p := p) (v := v) (fun b o e => (hs.2 b (hLF b o e)).trans (ok.inh b o e)) (fun b o h1 _ e => (hs.2 b h1).trans e) (fun b o e => ?_) ⟨_, hn'⟩ ?_ ?_ ?_ hr ?_ hv hnd)) (by rw [ok.kind]; rfl)
    · by_cases q : b = cx.env.locals
      · obtain ⟨o', _, _, e', _⟩ := hn'; exact ⟨o', q ▸ e'⟩
      · exact ⟨o, (hs.2 b q).trans e⟩
    · intro y c hc
      obtain ⟨⟨u, o, e, d⟩, _⟩ := ok.cells y c hc
      exact ⟨u, o, (hs.2 c (hLC y c hc)).trans e, d⟩
    · intro b o e0 _ e
      exact (hs.2 b fun q => by rw [q, ok.newL] at e0; cases e0).trans e
    · exact .inl ⟨hl, _, hn', by simp⟩
    · intro y u hne a
      rcases a with ⟨k', m', n', e'⟩ | ⟨k', c, lk, o, e, d⟩
      · have : m' y = m y := by
          obtain ⟨o1, es1, ep1, g1, d1, _, f1⟩ := n'
          obtain ⟨o2, es2, ep2, g2, d2, _, f2⟩ := hn
          rw [g1] at g2; cases g2; rw [d1] at d2; cases d2
          rw [← f1, ← f2]
        exact .inl ⟨k', _, hn', by rw [if_neg hne, ← this]; exact e'⟩
      · exact .inr ⟨k', c, lk, o, (hs.2 c (hLC y c (mem_of_lookup lk))).trans e, d⟩
  | cell hl c hc =>
    have hmem := mem_of_lookup hc
    obtain ⟨⟨v0, hv0⟩, hF, hR⟩ := ok.cells x c hmem
    refine wpAny_storeName_cell ok.kind hl hc hv0 fun h' hi hs => k { s with heap := h' } (ok.put (tk := s.toks) (p := p) (v := v) (fun b o e => (hs.2 b (hCF x c hmem b o e)).trans (ok.inh b o e)) (fun b o _ h2 e => (hs.2 b fun q => h2 x (q ▸ hmem)).trans e) (fun b o e => ?_) ⟨m, hn.sameBut hs (Ne.symm (hLC x c hmem))⟩ ?_ ?_ ?_ hr ?_ hv hnd)
    · by_cases q : b = c
      · obtain ⟨o', e', _⟩ := hi; exact ⟨o', q ▸ e'⟩
      · exact ⟨o, (hs.2 b q).trans e⟩
    · intro y c' hc'
      by_cases q : c' = c
      · exact ⟨_, q ▸ hi⟩
      · obtain ⟨⟨u, o, e, d⟩, _⟩ := ok.cells y c' hc'
        exact ⟨u, o, (hs.2 c' q).trans e, d⟩
    · intro b o e0 _ e
      exact (hs.2 b fun q => by rw [q, ok.newC (hown hl) x c hmem] at e0; cases e0).trans e
    · exact .inr ⟨.inl hl, c, hc, hi⟩
    · intro y u hne a
      rcases a with ⟨k', m', n', e'⟩ | ⟨k', c', lk, o, e, d⟩
      · exact .inl ⟨k', m', n'.sameBut hs (Ne.symm (hLC x c hmem)), e'⟩
      · refine .inr ⟨k', c', lk, o, (hs.2 c' fun q => hne ?_).trans e, d⟩
        exact name_of_addr ok.apart (mem_of_lookup lk) (q ▸ hmem)
/-- how the list of names turns -/
inductive Rep (x : PySem.Str) (p : VP) : List (PySem.Str × VP) → List (PySem.Str × VP) → Prop
  | here {q l} : Rep x p ((x, q) :: l) ((x, p) :: l)
  | there {y q l l'} : Rep x p l l' → Rep x p ((y, q) :: l) ((y, q) :: l')
theorem Rep.names {x p} : ∀ {l l'}, Rep x p l l' → l'.map (·.1) = l.map (·.1)
  | _, _, .here => rfl
  | _, _, .there h => by simp [h.names]
theorem Rep.mem {x p} : ∀ {l l'}, Rep x p l l' → x ∈ l.map (·.1)
  | _, _, .here => by simp
  | _, _, .there h => List.mem_cons_of_mem _ h.mem
theorem Rep.set {x p} : ∀ {l l'}, Rep x p l l' → (l.map (·.1)).Nodup → ∀ y q, (y, q) ∈ l' → (y = x ∧ q = p) ∨ (y ≠ x ∧ (y, q) ∈ l)
  | _, _, .here (l := l), hnd, y, q, hm => by
    rcases List.mem_cons.mp hm with e | hm2
    · cases e; exact .inl ⟨rfl, rfl⟩
    · refine .inr ⟨fun e => ?_, List.mem_cons_of_mem _ hm2⟩
      subst e
      have hm3 : y ∈ l.map (·.1) := List.mem_map.mpr ⟨(y, q), hm2, rfl⟩
      exact (List.nodup_cons.mp hnd).1 hm3
  | _, _, .there (y := z) h, hnd, y, q, hm => by
    rcases List.mem_cons.mp hm with e | hm
    · cases e
      refine .inr ⟨fun e => ?_, List.mem_cons_self⟩
      subst e
      exact (List.nodup_cons.mp hnd).1 h.mem
    · exact (h.set (List.nodup_cons.mp hnd).2 y q hm).imp id fun ⟨a, b⟩ => ⟨a, List.mem_cons_of_mem _ b⟩
/-- a store into a name, old or new -/
structure Put (cx : Cx) (σ : St) (x : PySem.Str) (p : VP) (vars' : List (PySem.Str × VP)) : Prop where
  home : Home cx.env x
  own : cx.env.kindOf x = some .cell → cx.own = true
  set : (σ.vars.map (·.1)).Nodup → (∀ y q, (y, q) ∈ vars' → (y = x ∧ q = p) ∨ (y ≠ x ∧ (y, q) ∈ σ.vars)) ∧ (vars'.map (·.1)).Nodup
theorem Put.old {x : PySem.Str} {p : VP} {l : List (PySem.Str × VP)} (hh : Home cx.env x) (ho : cx.env.kindOf x = some .cell → cx.own = true) (r : Rep x p σ.vars l) : Put cx σ x p l :=
  ⟨hh, ho, fun hnd => ⟨r.set hnd, r.names ▸ hnd⟩⟩
theorem Put.new {x : PySem.Str} {p : VP} (hh : Home cx.env x) (ho : cx.env.kindOf x = some .cell → cx.own = true) (hn : (σ.vars.map (·.1)).all (fun y => !(y == x)) = true) : Put cx σ x p ((x, p) :: σ.vars) := by
  have hne : x ∉ σ.vars.map (·.1) := fun hm => by
    have := List.all_eq_true.mp hn x hm
    simp at this
  refine ⟨hh, ho, fun hnd => ⟨fun y q hm => ?_, List.nodup_cons.mpr ⟨hne, hnd⟩⟩⟩
  rcases List.mem_cons.mp hm with e | hm
  · cases e; exact .inl ⟨rfl, rfl⟩
  · exact .inr ⟨fun e => hne (e ▸ List.mem_map_of_mem (f := fun z : PySem.Str × VP => z.1) hm), hm⟩
theorem Put.run {F s} {x : PySem.Str} {p : VP} {v : Value} {l : List (PySem.Str × VP)} (h : Put cx σ x p l) (ok : StOK cx F s σ) (hr : p.rd F v) {Q : Unit → Shared → Prop} {E : Value → Shared → Prop}
    (k : ∀ s', StOK cx F s' { vars := l, res := σ.res } → Q () s') : wpAny (model cx.prog cx.w) cx.A (storeName cx.env x v) Q E s :=
  store_at ok h.home h.own hr (h.set ok.nd).1 (h.set ok.nd).2 k
/-- a target -/
structure As (cx : Cx) (σ : St) (t : Expr) (p : VP) (σ' : St) : Prop where
  run : ∀ F s v, StOK cx F s σ → p.rd F v → ∀ (Q : Unit → Shared → Prop) (E : Value → Shared → Prop), (∀ s', StOK cx F s' σ' → Q () s') → wpAny (model cx.prog cx.w) cx.A (assign t cx.env v) Q E s
theorem As.name {x : PySem.Str} {p : VP} {l : List (PySem.Str × VP)} (h : Put cx σ x p l) : As cx σ (.Name x pos) p { vars := l, res := σ.res } :=
  ⟨fun F s v ok r Q E k => wpAny_assign_Name (h.run ok r k)⟩
structure AsAll (cx : Cx) (σ : St) (ts : List Expr) (ps : List VP) (σ' : St) : Prop where
  len : (assignEach ts cx.env).length = ps.length
  star : (assignEach ts cx.env).findIdx? (·.1) = none
  run : ∀ F s vs, StOK cx F s σ → Rds F ps vs → ∀ (Q : Unit → Shared → Prop) (E : Value → Shared → Prop), (∀ s', StOK cx F s' σ' → Q () s') → wpAny (model cx.prog cx.w) cx.A (assignInOrder ((assignEach ts cx.env).map (·.2)) vs) Q E s
theorem AsAll.nil : AsAll cx σ [] [] σ := ⟨rfl, rfl, fun F s vs ok r Q E k => by cases r; exact wpAny_pure (k s ok)⟩
theorem AsAll.cons {t : Expr} {ts : List Expr} {p : VP} {ps : List VP} (h : As cx σ t p σ₁) (hr : AsAll cx σ₁ ts ps σ₂)
    (he : assignEach (t :: ts) cx.env = (false, assign t cx.env) :: assignEach ts cx.env := by with_unfolding_all rfl) : AsAll cx σ (t :: ts) (p :: ps) σ₂ where
  len := by rw [he]; simp [hr.len]
  star := by rw [he, List.findIdx?_cons]; simp [hr.star]
  run := fun F s vs ok r Q E k => by
    rw [he]
    cases r with
    | cons a b => exact assignInOrder_cons (h.run F s _ ok a _ _ fun s' ok' => hr.run F s' _ ok' b Q E k)
theorem StOK.keep {F s h' tk} (ok : StOK cx F s σ) (hk : ∀ b o, s.heap.get? b = some o → h'.get? b = some o) : StOK cx F { s with heap := h', toks := tk } σ :=
  ok.pure (.heap ok.inh hk)
theorem As.tup {ts : List Expr} {k : Nat} {ps : List VP} (h : AsAll cx σ ts ps σ₁) : As cx σ (.Tuple ts k pos) (vTup ps) σ₁ :=
  ⟨fun F s v ok ⟨a, o, vs, e, f, ⟨n, q⟩, r⟩ Q E k => by
    subst e; subst q
    have ht : s.heap.IsTuple a vs.toArray := ⟨_, ok.inh _ _ f, rfl, n, rfl⟩
    refine wpAny_assign_Tuple ok.hh ht (by rw [h.len, List.size_toArray, r.length]) h.star fun h' hx => ?_
    exact h.run F _ vs (ok.keep (tk := s.toks) fun b ob e => hx b ob (fun q => by rw [q, get_size] at e; cases e) e) r Q E k⟩
theorem As.tupL {ts : List Expr} {k : Nat} {ps : List VP} (h : AsAll cx σ ts ps σ₁) : As cx σ (.Tuple ts k pos) (vListW ps) σ₁ :=
  ⟨fun F s v ok ⟨a, o, vs, n, e, f, c, d, r⟩ Q E k => by
    subst e
    have hl : s.heap.IsList a vs.toArray := ⟨_, ok.inh _ _ f, c, n, d⟩
    show wpAny _ _ (do standAt pos; unpack (.ref a) (assignEach ts cx.env)) Q E s
    refine wpAny_bind (wpAny_standAt ?_)
    unfold unpack
    rw [h.star, show (assignEach ts cx.env).length = vs.toArray.size from by rw [h.len, List.size_toArray, r.length]]
    refine wpAny_bind (wpAny_holding (kun_itemsOf ok.hh hl fun h' hx => ?_))
    exact h.run F _ vs (ok.keep (tk := s.toks) fun b ob e => hx b ob (fun q => by rw [q, get_size] at e; cases e) e) r Q E k⟩
/-- an assignment to one target -/
theorem Exs.assign {t e : Expr} {p : VP} {rest : List Stmt} (he : Ev cx σ e p σ₁) (ht : As cx σ₁ t p σ₂) (h : Exs cx σ₂ rest P)
    (hs : swapsWithSole [t] e pos.line cx.env = pure false := by with_unfolding_all rfl) (hw : swappedStores [t] e cx.env = pure none := by with_unfolding_all rfl)
    (ha : (assignEach [t] cx.env).map (·.2) = [PySem.assign t cx.env] := by with_unfolding_all rfl) : Exs cx σ (.Assign [t] e pos :: rest) P := .cons fun F s ok Q E k =>
  wpAny_Assign_stores (he.run F s ok _ _ fun v F₁ s₁ st₁ ok₁ r₁ => by
    rw [ha]
    exact ht.run F₁ s₁ v ok₁ r₁ _ _ fun s' ok' => k .next F₁ s' (.nx σ₂) st₁.sub ok' h) hs hw
/-- a new list for a name: a cell of its own -/
theorem StOK.own {F s h' tk a o vs ps} (ok : StOK cx F s σ) (hk : ∀ b ob, s.heap.get? b = some ob → h'.get? b = some ob) (hn : s.heap.get? a = none) (ha : h'.get? a = some o) (hl : LsObj vs o) (hr : Rds F ps vs) :
    StOK cx F { s with heap := h', toks := tk } { vars := σ.vars, res := (a, .lst ps) :: σ.res } := by
  have ok' : StOK cx F { s with heap := h', toks := tk } σ := ok.keep hk
  have hnot : ∀ b, σ.res.has b → b ≠ a := fun b hb q => by
    obtain ⟨⟨b', c⟩, hm, rfl⟩ := List.mem_map.mp hb
    obtain ⟨ob, e⟩ := (ok.res.ok b' c hm).ex
    have q' : b' = a := q
    rw [q', hn] at e; cases e
  have hF : F a = none := by
    cases q : F a with
    | none => rfl
    | some ob => have := ok.inh _ _ q; rw [hn] at this; cases this
  have hL : cx.env.locals ≠ a := fun q => by obtain ⟨m, ob, _, _, e, _⟩ := ok.ns; rw [q, hn] at e; cases e
  have hC : ∀ y c, (y, c) ∈ cx.env.cells → c ≠ a := fun y c hm q => by obtain ⟨⟨v, ob, e, d⟩, _⟩ := ok.cells y c hm; rw [q, hn] at e; cases e
  have h0 : cx.s0.heap.get? a = none := by
    cases q : cx.s0.heap.get? a with
    | none => rfl
    | some ob => obtain ⟨o', e⟩ := ok.base.live a ob q; rw [hn] at e; cases e
  have has : ∀ b, Res.has ((a, Cell.lst ps) :: σ.res) b → b = a ∨ σ.res.has b := fun b hb => by
    unfold Res.has at hb; rw [List.map_cons] at hb; exact List.mem_cons.mp hb
  refine { ok' with locR := fun q => ?_, cells := fun y c hm => ⟨(ok'.cells y c hm).1, (ok'.cells y c hm).2.1, fun q => ?_⟩, res := ⟨?_, ?_, ?_⟩, resW := fun b hb => ?_, priv := fun b ob hm => ?_ }
  · rcases has _ q with h | h
    · exact hL h
    · exact ok.locR h
  · rcases has _ q with h | h
    · exact hC y c hm h
    · exact (ok.cells y c hm).2.2 h
  · intro b c hm
    rcases List.mem_cons.mp hm with e | hm
    · cases e; exact ⟨o, vs, ha, hl, hr⟩
    · exact ok'.res.ok b c hm
  · intro b c hm
    rcases List.mem_cons.mp hm with e | hm
    · cases e; exact hF
    · exact ok.res.off b c hm
  · exact List.nodup_cons.mpr ⟨fun hm => hnot a hm rfl, ok.res.nodup⟩
  · rcases has _ hb with h | h
    · exact .inr (h ▸ h0)
    · exact ok.resW b h
  · obtain ⟨p1, p2, p3, p4, p5⟩ := ok'.priv b ob hm
    refine ⟨p1, p2, fun q => ?_, p4, p5⟩
    rcases has _ q with h | h
    · have q1 := (ok.priv b ob hm).1
      rw [h, hn] at q1; cases q1
    · exact p3 h
end Mine
namespace Mine
open PySem PySem.W PySem.Calls PyProof.Rows Builtin Builtin.Str Builtin.Int
variable {cx : Cx} {σ σ₁ σ₂ σ₃ : St} {pos : Pos} {P P' : Out → Prop}
/-- all but ms stands -/
structure Off (ms : List Addr) (F : FH) (s : Shared) (F' : FH) (s' : Shared) : Prop where
  sub : Sub F F'
  inh : Inh F' s'.heap
  fresh : ∀ a o, s.heap.get? a = some o → F a = none → F' a = none
  keep : ∀ a o, a ∉ ms → s.heap.get? a = some o → s'.heap.get? a = some o
  gens : s'.gens = s.gens
  os : s'.os = s.os
theorem Off.heap {ms : List Addr} {F : FH} {s : Shared} (hi : Inh F s.heap) (hF : ∀ m ∈ ms, F m = none) {h' : Heap} {tk : Nat} (hk : ∀ b o, b ∉ ms → s.heap.get? b = some o → h'.get? b = some o) :
    Off ms F s F { s with heap := h', toks := tk } :=
  ⟨Sub.refl F, fun a o e => hk a o (fun q => by rw [hF a q] at e; cases e) (hi a o e), fun _ _ _ n => n, hk, rfl, rfl⟩
/-- an iterator: its own memory ms, the items that it gives -/
structure Wlk (cx : Cx) (I : Addr) (target : Expr) (ms : List Addr) (ps : List VP) (R0 : Res) (J : Nat → FH → Heap → Prop) : Prop where
  frame : ∀ i F h F' h', J i F h → Sub F F' → Inh F' h' → (∀ m ∈ ms, F' m = none) → (∀ a c, (a, c) ∈ R0 → CellOK F' h' a c) → (∀ m ∈ ms, ∀ o, h.get? m = some o → h'.get? m = some o) → J i F' h'
  at_ : ∀ i F h, J i F h → ∀ m ∈ ms, ∃ o, h.get? m = some o
  item : ∀ i F s p (N : Shared → Prop) (Q : Value → Shared → Prop) (E : Value → Shared → Prop), ps[i]? = some p → Inh F s.heap → J i F s.heap → (∀ m ∈ ms, F m = none) →
    (∀ v F' s', p.rd F' v → J (i + 1) F' s'.heap → Off ms F s F' s' → (∀ m ∈ ms, F' m = none) → Q v s') →
    wpAny (model cx.prog cx.w) cx.A (pyNext (.ref I)) (fun r s₁ => match r with | none => N s₁ | some v => wpAny (model cx.prog cx.w) cx.A (letOwnedTupleGo target (.ref I) v) (fun _ s₂ => Q v s₂) E s₁) E s
  done : ∀ F s (Q : Option Value → Shared → Prop) (E : Value → Shared → Prop), J ps.length F s.heap → Inh F s.heap → (∀ m ∈ ms, F m = none) → (∀ s', Off ms F s F s' → Q none s') → wpAny (model cx.prog cx.w) cx.A (pyNext (.ref I)) Q E s
  self : ∀ i F s (Q : Value → Shared → Prop) (E : Value → Shared → Prop), J i F s.heap → Q (.ref I) s → wpAny (model cx.prog cx.w) cx.A (pyIter (.ref I)) Q E s
structure EvIter (cx : Cx) (σ : St) (e target : Expr) (ps : List VP) (R0 : Res) (σ' : St) : Prop where
  like : σ'.res.map (·.1) = σ.res.map (·.1)
  vars : σ'.vars = σ.vars
  sub : ∀ x ∈ R0, x ∈ σ'.res
  run : ∀ F s, StOK cx F s σ → ∀ (Q : Value → Shared → Prop) (E : Value → Shared → Prop),
    (∀ F₁ s₁, Step σ.res.has F s F₁ s₁ → StOK cx F₁ s₁ σ' → ∀ I ms J h' tk, (∀ b o, s₁.heap.get? b = some o → h'.get? b = some o) → (∀ m ∈ ms, s₁.heap.get? m = none) → ms.Nodup →
      Wlk cx I target ms ps R0 J → J 0 F₁ h' → Q (.ref I) { s₁ with heap := h', toks := tk }) →
    wpAny (model cx.prog cx.w) cx.A (PySem.eval e cx.env) (fun x s₁ => wpAny (model cx.prog cx.w) cx.A (pyIter x) Q E s₁) E s
theorem none_of_fresh {F : FH} {h : Heap} {a : Addr} (hi : Inh F h) (hn : h.get? a = none) : F a = none := by
  cases q : F a with
  | none => rfl
  | some o => rw [hi _ _ q] at hn; cases hn
/-- from the library's iterators over things that stand -/
theorem Wlk.of {I : Addr} {target : Expr} {ps : List VP} {fp : List Addr} {n : Nat} {Pv : Nat → Value → Prop} {Sw : Nat → Heap → Prop} (W : Walks cx.prog cx.w cx.A I fp [I] n Pv Sw) (hn : n = ps.length) (F₀ : FH)
    (hat : ∀ i h, Sw i h → ∃ o, h.get? I = some o) (hfp : ∀ b ∈ fp, b = I ∨ ∃ o, F₀ b = some o) (hp : ∀ G i v p, Sub F₀ G → ps[i]? = some p → Pv i v → p.rd G v)
    (hlet : ∀ i (s : Shared) v (Q : Unit → Shared → Prop) (E : Value → Shared → Prop), Sw (i + 1) s.heap → (∃ G p, Sub F₀ G ∧ ps[i]? = some p ∧ p.rd G v) → Q () s → wpAny (model cx.prog cx.w) cx.A (letOwnedTupleGo target (.ref I) v) Q E s) :
    Wlk cx I target [I] ps [] (fun i F h => Sw i h ∧ Sub F₀ F ∧ Inh F h) where
  frame := fun i F h F' h' ⟨a, b, c⟩ hs hi hn _ hm => ⟨W.frame i h h' a fun b' hb o e => by
      rcases hfp b' hb with rfl | ⟨o', e'⟩
      · exact hm _ (by simp) o e
      · have h1 := c _ _ (b _ _ e')
        rw [e] at h1; cases h1
        exact hi _ _ (hs _ _ (b _ _ e')), b.trans hs, hi⟩
  at_ := fun i F h ⟨a, _⟩ m hm => by rw [List.mem_singleton.mp hm]; exact hat i h a
  item := fun i F s p N Q E hi hin ⟨a, b, c⟩ hF k => by
    have hlt : i < n := by rw [hn]; exact (List.getElem?_eq_some_iff.mp hi).1
    refine W.item i s _ E hlt a fun v h' tk hPv hSt hk => ?_
    have hr := hp F i v p b hi hPv
    have st : Off [I] F s F { s with heap := h', toks := tk } := .heap hin hF hk
    exact hlet i _ v _ E hSt ⟨F, p, b, hi, hr⟩ (k v F _ hr ⟨hSt, b, st.inh⟩ st hF)
  done := fun F s Q E ⟨a, b, c⟩ hin hF k => W.done s Q E (hn ▸ a) fun h' tk hk => k _ (.heap hin hF hk)
  self := fun i F s Q E ⟨a, _⟩ q => W.self i s Q E a q
/-- what lets the tuple alone -/
noncomputable def Calm (t : Expr) : Prop := ∀ it v, letOwnedTupleGo t it v = pure ()
theorem calm_name {x : PySem.Str} : Calm (.Name x pos) := fun _ _ => rfl
/-- a list that stands -/
theorem EvIter.list {e target : Expr} {ps : List VP} (h : Ev cx σ e (vListW ps) σ₁)
    (ht : Calm target ∨ ∃ ts k p, target = .Tuple ts k p ∧ ∀ q ∈ ps, ∃ qs, q = vTup qs) : EvIter cx σ e target ps [] σ₁ where
  like := h.like
  vars := h.vars
  sub := fun _ hm => (List.not_mem_nil hm).elim
  run := fun F s ok Q E k => h.run F s ok _ _ fun v F₁ s₁ st₁ ok₁ ⟨a, o, vs, n, e1, f, c, d, r⟩ => by
    subst e1
    have hl : s₁.heap.IsList a vs.toArray := ⟨_, ok₁.inh _ _ f, c, n, d⟩
    refine wpAny_pyIter_list hl ?_
    have hne : a ≠ s₁.heap.objs.size := Nat.ne_of_lt (Heap.lt_size (ok₁.inh _ _ f))
    have W := Walks.list (prog := cx.prog) (w := cx.w) (A := cx.A) ok₁.hh s₁.heap.objs.size a hne vs.toArray
    refine k F₁ s₁ st₁ ok₁ _ [s₁.heap.objs.size] _ _ s₁.toks (fun b ob q => Heap.get?_push_of_some _ q) (fun m hm => by rw [List.mem_singleton.mp hm]; exact get_size _) (by simp)
      (Wlk.of W (by rw [List.size_toArray, r.length]) F₁ (fun i h ⟨⟨o, q, _⟩, _⟩ => ⟨o, q⟩) (fun b hb => ?_) (fun G i v p hs hp hv => ?_) fun i s' v Q' E' ⟨hit, _⟩ hx q => ?_)
      ⟨⟨⟨_, Heap.get?_push_size _ rfl, rfl, rfl⟩, hl.push _⟩, .refl _, fun b ob q => Heap.get?_push_of_some _ (ok₁.inh _ _ q)⟩
    · rcases List.mem_cons.mp hb with rfl | hb
      · exact .inl rfl
      · rw [List.mem_singleton.mp hb]; exact .inr ⟨o, f⟩
    · obtain ⟨u, hu, ru⟩ := r.get hp
      have : vs[i]? = some v := by simpa using hv
      rw [this] at hu; cases hu
      exact p.mono hs ru
    · rcases ht with ht | ⟨ts, kk, p, rfl, hq⟩
      · exact wpAny_of_eq (ht _ _) q
      · obtain ⟨G, p', _, hp', hr'⟩ := hx
        obtain ⟨qs, rfl⟩ := hq p' (List.mem_of_getElem? hp')
        obtain ⟨a', o', vs', rfl, _⟩ := hr'
        exact wpAny_letOwnedTupleGo_listiter hit q
/-- a list of one's own -/
theorem EvIter.own {e target : Expr} {ps : List VP} {a : Addr} (h : Ev cx σ e (vVal (.ref a)) σ₁) (hm : (a, Cell.lst ps) ∈ σ₁.res)
    (ht : Calm target ∨ ∃ ts k p, target = .Tuple ts k p ∧ ∀ q ∈ ps, ∃ qs, q = vTup qs) : EvIter cx σ e target ps [(a, .lst ps)] σ₁ where
  like := h.like
  vars := h.vars
  sub := fun x hx => by rw [List.mem_singleton.mp hx]; exact hm
  run := fun F s ok Q E k => h.run F s ok _ _ fun v F₁ s₁ st₁ ok₁ e1 => by
    cases e1
    obtain ⟨o, vs, g, l, r⟩ := ok₁.res.ok a _ hm
    refine wpAny_pyIter_list (l.isList g) ?_
    have hne : a ≠ s₁.heap.objs.size := Nat.ne_of_lt (Heap.lt_size g)
    generalize hI : s₁.heap.objs.size = I at hne ⊢
    have hIn : s₁.heap.get? I = none := hI ▸ get_size _
    have hI' : (s₁.heap.push { cls := .type "list_iterator", data := .fields #[.ref a, .int 0 0] }).get? I = some { cls := .type "list_iterator", data := .fields #[.ref a, .int 0 0] } := hI ▸ Heap.get?_push_size _ rfl
    refine k F₁ s₁ st₁ ok₁ I [I] (fun i F h => h.IsListIter I a i ∧ CellOK F h a (.lst ps)) _ s₁.toks (fun b ob q => Heap.get?_push_of_some _ q) (fun m hm => by rw [List.mem_singleton.mp hm]; exact hIn) (by simp)
      { frame := fun i F h F' h' ⟨⟨oi, e1, e2, e3⟩, b⟩ hs hi hn hr hm => ⟨⟨oi, hm I (by simp) _ e1, e2, e3⟩, hr a _ (by simp)⟩, at_ := fun i F h ⟨⟨oi, e1, _⟩, _⟩ m hm => by rw [List.mem_singleton.mp hm]; exact ⟨oi, e1⟩, item := ?_, done := ?_, self := ?_ }
      ⟨⟨_, hI', rfl, rfl⟩, (CellOK.at (c := .lst ps) (fun o q => Heap.get?_push_of_some _ q) ⟨o, vs, g, l, r⟩)⟩
    · rintro i F s p N' Q' E' hp hin ⟨hit, o, vs, g, l, r⟩ hF kk
      obtain ⟨u, hu, ru⟩ := r.get hp
      refine wpAny_pyNext_list_item hit (l.isList g) (x := u) (by simpa using hu) fun h' hit' hs => ?_
      have st : Off [I] F s F { s with heap := h' } := .heap (tk := s.toks) hin hF fun b ob hb q => (hs.2 b (by simpa using hb)).trans q
      have fin := kk u F _ ru ⟨hit', o, vs, (hs.2 a hne).trans g, l, r⟩ st hF
      rcases ht with ht | ⟨ts, kx, px, rfl, hq⟩
      · exact wpAny_of_eq (ht _ _) fin
      · obtain ⟨qs, rfl⟩ := hq p (List.mem_of_getElem? hp)
        obtain ⟨a', o', vs', rfl, _⟩ := ru
        exact wpAny_letOwnedTupleGo_listiter hit' fin
    · rintro F s Q' E' ⟨hit, o, vs, g, l, r⟩ hin hF kk
      exact wpAny_pyNext_list_end ok.hh hit (l.isList g) (by simp [r.length]) fun h' hs => kk _ (.heap (tk := s.toks) hin hF fun b ob hb q => hs b ob (by simpa using hb) q)
    · rintro i F s Q' E' ⟨hit, _⟩ q
      exact wpAny_pyIter_listiter hit q
/-- a text's signs -/
theorem EvIter.str {e target : Expr} {x : List Nat} (h : Ev cx σ e (vStr x) σ₁) (ht : Calm target) : EvIter cx σ e target (vStrs (x.map fun c => [c])) [] σ₁ where
  like := h.like
  vars := h.vars
  sub := fun _ hm => (List.not_mem_nil hm).elim
  run := fun F s ok Q E k => h.run F s ok _ _ fun v F₁ s₁ st₁ ok₁ ⟨t, e1⟩ => by
    subst e1
    have hsz : (L2S x).cps.size = (vStrs (x.map fun c => [c])).length := by have := L2S_len x; unfold PySem.Str.length at this; rw [this]; simp [vStrs]
    have sign : ∀ (G : FH) i v p, Sub F₁ G → (vStrs (x.map fun c => [c]))[i]? = some p → SignAt (L2S x) i v → p.rd G v := fun G i v p _ hp hv => by
      unfold vStrs at hp
      rw [List.map_map, List.getElem?_map] at hp
      obtain ⟨c, hc, rfl⟩ := Option.map_eq_some_iff.mp hp
      obtain ⟨c', t', h1, h2⟩ := hv
      have e1 : (L2S x).cps[i]? = some c := by unfold L2S; rw [List.getElem?_toArray]; exact hc
      rw [e1] at h1; cases h1
      exact ⟨t', h2⟩
    cases ha : (L2S x).cps.all (· < 128) with
    | true =>
      refine wpAny_pyIter_ascii ha ?_
      have W := Walks.strAscii (prog := cx.prog) (w := cx.w) (A := cx.A) ok₁.hh s₁.heap.objs.size (L2S x) t
      exact k F₁ s₁ st₁ ok₁ _ [s₁.heap.objs.size] _ _ s₁.toks (fun b ob q => Heap.get?_push_of_some _ q) (fun m hm => by rw [List.mem_singleton.mp hm]; exact get_size _) (by simp)
        (Wlk.of W hsz F₁ (fun i h ⟨o, q, _⟩ => ⟨o, q⟩) (fun b hb => .inl (List.mem_singleton.mp hb)) sign fun i s' v Q' E' _ _ q => wpAny_of_eq (ht _ _) q)
        ⟨⟨_, Heap.get?_push_size _ rfl, rfl, rfl⟩, .refl _, fun b ob q => Heap.get?_push_of_some _ (ok₁.inh _ _ q)⟩
    | false =>
      refine wpAny_pyIter_wide ha ?_
      have W := Walks.strWide (prog := cx.prog) (w := cx.w) (A := cx.A) ok₁.hh s₁.heap.objs.size (L2S x) t
      exact k F₁ s₁ st₁ ok₁ _ [s₁.heap.objs.size] _ _ s₁.toks (fun b ob q => Heap.get?_push_of_some _ q) (fun m hm => by rw [List.mem_singleton.mp hm]; exact get_size _) (by simp)
        (Wlk.of W hsz F₁ (fun i h ⟨o, q, _⟩ => ⟨o, q⟩) (fun b hb => .inl (List.mem_singleton.mp hb)) sign fun i s' v Q' E' _ _ q => wpAny_of_eq (ht _ _) q)
        ⟨⟨_, Heap.get?_push_size _ rfl, rfl, rfl⟩, .refl _, fun b ob q => Heap.get?_push_of_some _ (ok₁.inh _ _ q)⟩
/-- a range -/
theorem EvIter.range {e target : Expr} {a b c : Int} {n : Nat} (h : Ev cx σ e (vRange a b c) σ₁) (ht : Calm target) (hs : Builtin.Range.small a b c = true) (hn : Builtin.Range.rangeSize a b c = n) :
    EvIter cx σ e target ((List.range n).map fun (i : Nat) => vInt (a + (i : Int) * c)) [] σ₁ where
  like := h.like
  vars := h.vars
  sub := fun _ hm => (List.not_mem_nil hm).elim
  run := fun F s ok Q E k => h.run F s ok _ _ fun v F₁ s₁ st₁ ok₁ ⟨r, t, u, w, e1, f⟩ => by
    subst e1
    refine wpAny_pyIter_range (ok₁.inh _ _ f) hs ?_
    have W := Walks.range (prog := cx.prog) (w := cx.w) (A := cx.A) ok₁.hh s₁.heap.objs.size a c n
    refine k F₁ s₁ st₁ ok₁ _ [s₁.heap.objs.size] _ _ s₁.toks (fun b ob q => Heap.get?_push_of_some _ q) (fun m hm => by rw [List.mem_singleton.mp hm]; exact get_size _) (by simp)
      (Wlk.of W (by simp) F₁ (fun i h q => ⟨_, q⟩) (fun b hb => .inl (List.mem_singleton.mp hb)) (fun G i v p _ hp hv => ?_) fun i s' v Q' E' _ _ q => wpAny_of_eq (ht _ _) q)
      ⟨?_, .refl _, fun b ob q => Heap.get?_push_of_some _ (ok₁.inh _ _ q)⟩
    · rw [List.getElem?_map] at hp
      obtain ⟨j, hj, rfl⟩ := Option.map_eq_some_iff.mp hp
      have hij : j = i := by
        have hlt := (List.getElem?_eq_some_iff.mp hj).1
        have hq : (List.range n)[i]? = some i := List.getElem?_range (by simpa using hlt)
        rw [hq] at hj; exact (Option.some.inj hj).symm
      subst hij
      exact hv
    · have e2 : (a + ((0 : Nat) : Int) * c) = a := by simp
      have e3 : ((n : Int) - ((0 : Nat) : Int)) = n := by simp
      show IsRangeIter _ _ (a + ((0 : Nat) : Int) * c) ((n : Int) - ((0 : Nat) : Int)) c
      rw [e2, e3, ← hn]
      exact Heap.get?_push_size _ rfl
/-- all but ms stands: the state too -/
theorem StOK.off {F F' s s'} {ms : List Addr} (x : StOK cx F s σ) (st : Off ms F s F' s') (h1 : cx.env.locals ∉ ms) (h2 : ∀ y c, (y, c) ∈ cx.env.cells → c ∉ ms) (h3 : ∀ a, σ.res.has a → a ∉ ms) (h4 : ∀ a o, (a, o) ∈ cx.priv → a ∉ ms)
    (h5 : ∀ m ∈ ms, cx.s0.heap.get? m = none) : StOK cx F' s' σ := by
  have kl : ∀ o, s.heap.get? cx.env.locals = some o → s'.heap.get? cx.env.locals = some o := fun o e => st.keep _ o h1 e
  have kc : ∀ y c, (y, c) ∈ cx.env.cells → ∀ o, s.heap.get? c = some o → s'.heap.get? c = some o := fun y c hm o e => st.keep _ o (h2 y c hm) e
  have n0 : ∀ a o, cx.s0.heap.get? a = some o → a ∉ ms := fun a o e q => by rw [h5 a q] at e; cases e
  refine { base := ?_, gF := fun b o e => st.sub _ _ (x.gF b o e), hh := x.hh, kind := x.kind, glob := x.glob, bltn := x.bltn, ns := ?_, newL := x.newL, locF := ?_, locR := x.locR, cells := ?_, apart := x.apart, newC := x.newC, vars := ?_, res := ⟨fun a c hm => ?_, fun a c hm => ?_, x.res.nodup⟩, resW := x.resW, locW := x.locW, cellW := x.cellW, nd := x.nd, priv := fun a o hm => ?_ }
  · refine ⟨x.base.sub.trans st.sub, st.inh, fun a o e n => ?_, fun a o w e => st.keep a o (n0 a o e) (x.base.keep a o w e), fun a o e => ?_, st.gens.trans x.base.gens, st.os.trans x.base.os⟩
    · obtain ⟨o', e'⟩ := x.base.live a o e
      exact st.fresh a o' e' (x.base.fresh a o e n)
    · obtain ⟨o', e'⟩ := x.base.live a o e
      exact ⟨o', st.keep a o' (n0 a o e) e'⟩
  · obtain ⟨m, n⟩ := x.ns; exact ⟨m, n.at' kl⟩
  · obtain ⟨m, o, es, ep, e, _⟩ := x.ns
    exact st.fresh _ o e x.locF
  · intro y c hm
    obtain ⟨⟨v, o, e, d⟩, f, r⟩ := x.cells y c hm
    exact ⟨⟨v, o, kc y c hm o e, d⟩, st.fresh _ o e f, r⟩
  · intro y p hm
    obtain ⟨v, a, r⟩ := x.vars y p hm
    exact ⟨v, a.at kl (fun c hc => kc y c hc), p.mono st.sub r⟩
  · exact CellOK.mono st.sub ((x.res.ok a c hm).at fun o e => st.keep a o (h3 a (Res.has_of hm)) e)
  · obtain ⟨o, e⟩ := (x.res.ok a c hm).ex
    exact st.fresh a o e (x.res.off a c hm)
  · obtain ⟨p1, p2, p3, p4, p5⟩ := x.priv a o hm
    exact ⟨st.keep a o (h4 a o hm) p1, st.fresh a o p1 p2, p3, p4, p5⟩
/-- new private memory is apart from all that the state names -/
structure Apart (cx : Cx) (σ : St) (ms : List Addr) : Prop where
  loc : cx.env.locals ∉ ms
  cell : ∀ y c, (y, c) ∈ cx.env.cells → c ∉ ms
  res : ∀ a, σ.res.has a → a ∉ ms
  priv : ∀ a o, (a, o) ∈ cx.priv → a ∉ ms
  s0 : ∀ m ∈ ms, cx.s0.heap.get? m = none
theorem StOK.apartOf {F s} (x : StOK cx F s σ) {ms : List Addr} (hn : ∀ m ∈ ms, s.heap.get? m = none) : Apart cx σ ms where
  loc := fun q => by obtain ⟨m, o, _, _, e, _⟩ := x.ns; rw [hn _ q] at e; cases e
  cell := fun y c hm q => by obtain ⟨⟨v, o, e, _⟩, _⟩ := x.cells y c hm; rw [hn _ q] at e; cases e
  res := fun a ha q => by
    obtain ⟨⟨b, c⟩, hm, rfl⟩ := List.mem_map.mp ha
    obtain ⟨o, e⟩ := (x.res.ok b c hm).ex
    rw [hn _ q] at e; cases e
  priv := fun a o hm q => by have := (x.priv a o hm).1; rw [hn _ q] at this; cases this
  s0 := fun m hm => by
    cases q : cx.s0.heap.get? m with
    | none => rfl
    | some o => obtain ⟨o', e⟩ := x.base.live m o q; rw [hn m hm] at e; cases e
noncomputable def Cx.with_ (cx : Cx) (pv : List (Addr × Obj)) : Cx := { cx with priv := pv ++ cx.priv }
/-- into the turn: the iterator's memory is private -/
theorem StOK.inTurn {F s} (x : StOK cx F s σ) {ms : List Addr} (ap : Apart cx σ ms) (hF : ∀ m ∈ ms, F m = none) {pv : List (Addr × Obj)} (hp : ∀ a o, (a, o) ∈ pv → a ∈ ms ∧ s.heap.get? a = some o) : StOK (cx.with_ pv) F s σ :=
  { base := x.base, gF := x.gF, hh := x.hh, kind := x.kind, glob := x.glob, bltn := x.bltn, ns := x.ns, newL := x.newL, locF := x.locF, locR := x.locR, cells := x.cells, apart := x.apart, newC := x.newC, vars := x.vars, res := x.res, resW := x.resW, locW := x.locW, cellW := x.cellW, nd := x.nd
    priv := fun a o hm => by
      rcases List.mem_append.mp hm with hm | hm
      · obtain ⟨h1, h2⟩ := hp a o hm
        exact ⟨h2, hF a h1, fun q => ap.res a q h1, fun q => ap.loc (q ▸ h1), fun y q => ap.cell y a q h1⟩
      · exact x.priv a o hm }
theorem StOK.outTurn {F s} {pv : List (Addr × Obj)} (x : StOK (cx.with_ pv) F s σ) : StOK cx F s σ :=
  { base := x.base, gF := x.gF, hh := x.hh, kind := x.kind, glob := x.glob, bltn := x.bltn, ns := x.ns, newL := x.newL, locF := x.locF, locR := x.locR, cells := x.cells, apart := x.apart, newC := x.newC, vars := x.vars, res := x.res, resW := x.resW, locW := x.locW, cellW := x.cellW, nd := x.nd
    priv := fun a o hm => x.priv a o (List.mem_append_right _ hm) }
theorem exists_pv {h : Heap} : ∀ {ms : List Addr}, (∀ m ∈ ms, ∃ o, h.get? m = some o) → ∃ pv : List (Addr × Obj), (∀ a o, (a, o) ∈ pv → a ∈ ms ∧ h.get? a = some o) ∧ ∀ m ∈ ms, ∃ o, (m, o) ∈ pv
  | [], _ => ⟨[], fun _ _ h => (List.not_mem_nil h).elim, fun _ h => (List.not_mem_nil h).elim⟩
  | m :: ms, h => by
    obtain ⟨o, e⟩ := h m (by simp)
    obtain ⟨pv, h1, h2⟩ := exists_pv (ms := ms) fun m' hm => h m' (List.mem_cons_of_mem _ hm)
    refine ⟨(m, o) :: pv, fun a o' hm => ?_, fun m' hm => ?_⟩
    · rcases List.mem_cons.mp hm with q | hm
      · cases q; exact ⟨by simp, e⟩
      · obtain ⟨a1, a2⟩ := h1 a o' hm; exact ⟨List.mem_cons_of_mem _ a1, a2⟩
    · rcases List.mem_cons.mp hm with rfl | hm
      · exact ⟨o, by simp⟩
      · obtain ⟨o', q⟩ := h2 m' hm; exact ⟨o', List.mem_cons_of_mem _ q⟩
end Mine
namespace Mine
open PySem PySem.W PySem.Calls PyProof.Rows Builtin Builtin.Str Builtin.Int
variable {cx : Cx} {σ σ₁ σ₂ σ₃ : St} {pos : Pos} {P P' : Out → Prop}
theorem compLoop_go {prog : Program} {w : World} {A : Around} {R : Result → Shared → Prop} {s : Shared} {elt target iter : Expr} {ifs : List Expr} {scope : Scope} {it acc : Value} {env : Env} (I : Nat → Shared → Prop)
    (turn : ∀ n s, I n s → ∀ E, wpAny (model prog w) A (pyNext it) (fun r s₁ => match r with
      | none => R (.ok .next) s₁
      | some v => wpAny (model prog w) A (letOwnedTupleGo target it v) (fun _ s₂ => wpAny (model prog w) A (PySem.assign target env v) (fun _ s₂ =>
          wpAny (model prog w) A (forIn ifs true fun c r => if r = true then do let ok ← isTrue c env (PySem.eval c env); pure (ForInStep.yield ok) else pure (ForInStep.yield r)) (fun ok s₃ =>
            if ok = true then wpAny (model prog w) A (PySem.eval elt env) (fun x s₄ =>
              wpAny (model prog w) A (call (.builtin "list.append") [acc, x]) (fun _ s₅ => ∃ m, m < n ∧ I m s₅) E s₄) E s₃
            else ∃ m, m < n ∧ I m s₃) E s₂) E s₂) E s₁) E s)
    (n : Nat) (h : I n s) :
    codeAny (model prog w) A (.compLoop (.ListComp elt [⟨target, iter, ifs, 0⟩] scope pos) 0 it acc env) R s := by
  refine codeAny_loop rfl I (fun n s hI => ?_) n h
  show wpAny _ A ((compTurn (.ListComp elt [⟨target, iter, ifs, 0⟩] scope pos) 0 it acc env).onRaise (fun x => do noteFrame x env; theTreesLotGoes x)) _ _ s
  refine wpAny_noted ?_
  rw [compTurn_list]
  refine wpAny_bind (wpAny_standAt (wpAny_bind (wpAny_mono (turn n s hI _) (fun r s₁ h₁ => ?_) fun _ _ h' => h')))
  cases r with
  | none => exact wpAny_pure h₁
  | some v =>
    refine wpAny_bind (wpAny_mono h₁ (fun _ s₂ h₂ => ?_) fun _ _ h' => h')
    refine wpAny_bind (wpAny_mono h₂ (fun _ s₂ h₂ => wpAny_bind (wpAny_mono h₂ (fun ok s₃ h₃ => ?_) fun _ _ h' => h')) fun _ _ h' => h')
    cases ok with
    | false => exact wpAny_pure ⟨rfl, h₃⟩
    | true =>
      exact wpAny_bind (wpAny_bind (wpAny_mono h₃ (fun x s₄ h₄ => wpAny_bind (wpAny_mono h₄ (fun _ s₅ h₅ => wpAny_pure (wpAny_pure ⟨rfl, h₅⟩)) fun _ _ h' => h')) fun _ _ h' => h'))
/-- the tests of a comprehension -/
inductive Ifs (cx : Cx) : St → List Expr → Bool → St → Prop
  | nil (σ : St) : Ifs cx σ [] true σ
  | one {σ σ' : St} {c : Expr} {b : Bool} : Tst cx σ c b σ' → Ifs cx σ [c] b σ'
theorem Ifs.run {ifs b} (h : Ifs cx σ ifs b σ₁) {F s} (ok : StOK cx F s σ) {Q : Bool → Shared → Prop} {E : Value → Shared → Prop} (k : ∀ F' s', Step σ.res.has F s F' s' → StOK cx F' s' σ₁ → Q b s') :
    wpAny (model cx.prog cx.w) cx.A (forIn ifs true fun c r => if r = true then do let ok ← isTrue c cx.env (PySem.eval c cx.env); pure (ForInStep.yield ok) else pure (ForInStep.yield r)) Q E s := by
  cases h with
  | nil => exact wpAny_tests_nil (k F s (.refl ok.inh) ok)
  | one h => exact wpAny_tests_one (h.run F s ok Q E k)
/-- within a comprehension -/
noncomputable def Cx.comp (cx : Cx) (scope : Scope) (cl : List (PySem.Str × Addr)) (C : Addr) (F0 : FH) (s0 : Shared) (W : Addr → Prop) (pv : List (Addr × Obj)) : Cx :=
  { prog := cx.prog, w := cx.w, A := cx.A, env := compEnvC scope cl C cx.env, g := cx.g, F0 := F0, s0 := s0, W := W, own := false, priv := pv }
/-- what is seen of the state within -/
structure Seen (cx : Cx) (σ : St) (scope : Scope) (cl : List (PySem.Str × Addr)) (cv : List (PySem.Str × VP)) : Prop where
  clos : closureFor scope cx.env = pure cl
  kind : scope.kind = .function
  names : ∀ x ∈ scope.names, x.2 = .local → scope.names.lookup x.1 = some .local
  nocell : ∀ x ∈ scope.names, x.2 ≠ .cell
  sub : ∀ x c, (x, c) ∈ cl → (x, c) ∈ cx.env.cells
  apart : cl.Pairwise fun x y => x.2 ≠ y.2
  vars : ∀ x p, (x, p) ∈ cv → (x, p) ∈ σ.vars ∧ cx.env.kindOf x ≠ some .local ∧ cl.lookup x = cx.env.cells.lookup x ∧ ((relabel scope cx.env).names.lookup x = some .cell ∨ ((relabel scope cx.env).names.lookup x = some .free ∧ (x == (PySem.Str.ofString "__classdict__")) = false))
  nd : (cv.map (·.1)).Nodup
theorem Seen.none {scope : Scope} (hf : ∀ x ∈ scope.names, x.2 ≠ .free) (hk : scope.kind = .function) (hn : ∀ x ∈ scope.names, x.2 = .local → scope.names.lookup x.1 = some .local) (hc : ∀ x ∈ scope.names, x.2 ≠ .cell) : Seen cx σ scope [] [] :=
  ⟨closureFor_none hf, hk, hn, hc, fun _ _ h => (List.not_mem_nil h).elim, .nil, fun _ _ h => (List.not_mem_nil h).elim, .nil⟩
theorem list_append_cell {prog : Program} {w : World} {A : Around} {E : Value → Shared → Prop} {s : Shared} {D : Addr} {o : Obj} {vs : List Value} {x : Value} {Q : Value → Shared → Prop} (g : s.heap.get? D = some o) (l : LsObj vs o) (hsz : vs.length ≤ sizeLine)
    (hQ : ∀ h' o', h'.get? D = some o' → LsObj (vs ++ [x]) o' → (∀ b, b ≠ D → h'.get? b = s.heap.get? b) → Q .none { s with heap := h' }) : wpAny (model prog w) A (call (.builtin "list.append") [.ref D, x]) Q E s := by
  obtain ⟨n, rfl⟩ := l
  refine wpAny_list_append_plain (items := vs.toArray) ⟨n, g⟩ (fun h' ⟨n', g'⟩ hs => hQ h' _ g' ⟨n', ?_⟩ fun b hb => hs.2 b hb) (by rw [List.size_toArray]; exact hsz)
  rw [List.push_toArray]
/-- one turn of a comprehension -/
noncomputable def CTurn (cx : Cx) (σ : St) (target elt : Expr) (ifs : List Expr) (p : VP) (b : Bool) (q : VP) (R' : Res) : Prop :=
  ∃ σt σu, As cx σ target p σt ∧ σt.res = σ.res ∧ Ifs cx σt ifs b σu ∧ (b = false → σu.res = R') ∧ (b = true → ∃ σv, Ev cx σu elt q σv ∧ σv.res = R')
theorem Step.off {W : Addr → Prop} {F G H : FH} {s t u : Shared} {ms : List Addr} (x : Step W F s G t) (y : Off ms G t H u) (hn : ∀ m ∈ ms, s.heap.get? m = none) : Step W F s H u where
  sub := x.sub.trans y.sub
  inh := y.inh
  fresh := fun a o e n => let ⟨o', e'⟩ := x.live a o e; y.fresh a o' e' (x.fresh a o e n)
  keep := fun a o w e => y.keep a o (fun q => by rw [hn a q] at e; cases e) (x.keep a o w e)
  live := fun a o e => let ⟨o', e'⟩ := x.live a o e; ⟨o', y.keep a o' (fun q => by rw [hn a q] at e; cases e) e'⟩
  gens := y.gens.trans x.gens
  os := y.os.trans x.os
/-- the heart of a comprehension: from the iterator to the list -/
theorem comp_core {elt target iter : Expr} {ifs : List Expr} {scope : Scope} {cl : List (PySem.Str × Addr)} {cv : List (PySem.Str × VP)} {ps : List VP} {R0 : Res} (hseen : Seen cx σ₁ scope cl cv)
    (R : Nat → Res) (hR0 : R 0 = σ₁.res) (hRa : ∀ k, (R k).map (·.1) = σ₁.res.map (·.1)) (hRs : ∀ k x, x ∈ R0 → x ∈ R k) (out : Nat → List VP) (ho : out 0 = []) (b : Nat → Bool) (q : Nat → VP)
    (hout : ∀ k, k < ps.length → out (k + 1) = if b k then out k ++ [q k] else out k) (hol : ∀ k, k ≤ ps.length → (out k).length ≤ sizeLine)
    (turn : ∀ C F0 s0 W pv k p, ps[k]? = some p → CTurn (cx.comp scope cl C F0 s0 W pv) { vars := cv, res := R k } target elt ifs p (b k) (q k) (R (k + 1)))
    {F : FH} {s : Shared} {h' : Heap} {tk : Nat} (ok : StOK cx F s σ₁) {I : Addr} {ms : List Addr} {J : Nat → FH → Heap → Prop} (hk : ∀ b o, s.heap.get? b = some o → h'.get? b = some o) (hms : ∀ m ∈ ms, s.heap.get? m = none)
    (W : Wlk cx I target ms ps R0 J) (hJ : J 0 F h') {E : Value → Shared → Prop} {RR : Value → Addr → Result → Shared → Prop}
    (fin : ∀ F' s' C D o vs, Step σ₁.res.has F s F' s' → StOK cx F' s' { vars := σ₁.vars, res := R ps.length } → s.heap.get? C = none → s.heap.get? D = none → C ≠ D → F' C = none → F' D = none → (∃ m, s'.heap.Ns C m) → s'.heap.get? D = some o → LsObj vs o → Rds F' (out ps.length) vs → RR (.ref D) C (.ok .next) s') :
    wpAny (model cx.prog cx.w) cx.A (newList []) (fun acc s₃ => wpAny (model cx.prog cx.w) cx.A (newFunctionEnv scope cx.env.globals cl [] cx.env.qual none .none (some cx.env)) (fun cenv s₄ =>
      codeAny (model cx.prog cx.w) cx.A (.compStart (.ListComp elt [⟨target, iter, ifs, 0⟩] scope pos) 0 (.ref I) acc { cenv with scope := relabel scope cx.env }) (RR acc cenv.locals) s₄) E s₃) E { s with heap := h', toks := tk } := by
  refine wpAny_newObj_type (wpAny_newFunctionEnv hseen.nocell (by intro y hy; simp at hy) (fun h₁ hns₁ hsb₁ => ?_) hseen.kind)
  dsimp only at hns₁ hsb₁ ⊢
  generalize hH2 : h'.push { cls := .type "list", dict := none, data := .seq ([] : List Value).toArray } = H2 at hns₁ hsb₁ ⊢
  have hC : H2.objs.size = h'.objs.size + 1 := by rw [← hH2, Heap.size_push]
  generalize hDe : h'.objs.size = D at hC ⊢
  generalize hCe : H2.objs.size = C at hns₁ hsb₁ hC ⊢
  have hDC : D ≠ C := by omega
  have nD : h'.get? D = none := hDe ▸ get_size _
  have nC : h'.get? C = none := get_ge (by omega)
  have sD : s.heap.get? D = none := by cases z : s.heap.get? D with | none => rfl | some o => rw [hk _ _ z] at nD; cases nD
  have sC : s.heap.get? C = none := by cases z : s.heap.get? C with | none => rfl | some o => rw [hk _ _ z] at nC; cases nC
  have old : ∀ b o, h'.get? b = some o → h₁.get? b = some o := fun b o e => hsb₁.extBut b o (fun z => by rw [z, nC] at e; cases e) (Heap.get?_push_of_some _ (hH2 ▸ Heap.get?_push_of_some _ e))
  have hacc : h₁.get? D = some { cls := .type "list", data := .seq ([] : List Value).toArray } := hsb₁.extBut _ _ hDC (Heap.get?_push_of_some _ (hH2 ▸ hDe ▸ Heap.get?_push_size _ rfl))
  have fmn : ∀ {a : Addr}, s.heap.get? a = none → F a = none := fun z => none_of_fresh ok.inh z
  have mD : D ∉ ms := fun z => by obtain ⟨o, e⟩ := W.at_ _ _ _ hJ D z; rw [nD] at e; cases e
  have mC : C ∉ ms := fun z => by obtain ⟨o, e⟩ := W.at_ _ _ _ hJ C z; rw [nC] at e; cases e
  have ap := ok.apartOf (ms := ms) hms
  have apC := ok.apartOf (ms := [C]) fun m hm => by rw [List.mem_singleton.mp hm]; exact sC
  have apD := ok.apartOf (ms := [D]) fun m hm => by rw [List.mem_singleton.mp hm]; exact sD
  have rhas : ∀ k a, (R k).has a ↔ σ₁.res.has a := fun k a => by unfold Res.has; rw [hRa]
  have st₀ : Step σ₁.res.has F s F { s with heap := h₁, toks := tk + ([] : List (PySem.Str × Value)).length } := Step.heap ok.inh fun b o e => old b o (hk b o e)
  -- the outer state, at any later time
  have outer : ∀ F' s' k, Step σ₁.res.has F s F' s' → ResOK F' s'.heap (R k) → StOK cx F' s' { vars := σ₁.vars, res := R k } := fun F' s' k st hr => ok.step (σ' := { vars := σ₁.vars, res := R k }) st rfl hr (hRa k)
  have res0 : ResOK F h₁ (R 0) := by rw [hR0]; exact (ok.keep (tk := tk) fun b o e => old b o (hk b o e)).res
  let Inv : Nat → Shared → Prop := fun n s' => ∃ i F', i ≤ ps.length ∧ n = ps.length + 1 - i ∧ J i F' s'.heap ∧ Step σ₁.res.has F s F' s' ∧ ResOK F' s'.heap (R i) ∧ F' C = none ∧ F' D = none ∧ (∀ m ∈ ms, F' m = none) ∧ (∃ m, s'.heap.Ns C m) ∧ ∃ o vs, s'.heap.get? D = some o ∧ LsObj vs o ∧ Rds F' (out i) vs
  have loop : codeAny (model cx.prog cx.w) cx.A (.compLoop (.ListComp elt [⟨target, iter, ifs, 0⟩] scope pos) 0 (.ref I) (.ref D) (compEnvC scope cl C cx.env)) (RR (.ref D) C) { s with heap := h₁, toks := tk + ([] : List (PySem.Str × Value)).length } := by
    refine compLoop_go Inv ?_ (ps.length + 1) ⟨0, F, Nat.zero_le _, rfl, ?_, st₀, res0, fmn sC, fmn sD, fun m hm => fmn (hms m hm), ⟨_, hns₁⟩, _, [], hacc, ⟨0, rfl⟩, by rw [ho]; exact .nil⟩
    · rintro n s' ⟨i, F', hle, rfl, hJ', st', hres', hFC, hFD, hFm, hnsC, oD, vs, gD, lD, rD⟩ E
      by_cases hlt : i < ps.length
      · obtain ⟨p, hp⟩ : ∃ p, ps[i]? = some p := ⟨_, List.getElem?_eq_getElem hlt⟩
        refine W.item i F' s' p _ _ _ hp st'.inh hJ' hFm fun v F₂ s₂ hr hJ₂ off₂ hFm₂ => ?_
        have st₂ : Step σ₁.res.has F s F₂ s₂ := st'.off off₂ hms
        have out' := outer F' s' i st' hres'
        have hres₂ : ResOK F₂ s₂.heap (R i) := (out'.off off₂ ap.loc ap.cell (fun a ha => ap.res a ((rhas i a).mp ha)) ap.priv ap.s0).res
        have out₂ := outer F₂ s₂ i st₂ hres₂
        have gD₂ := off₂.keep D oD mD gD
        have hFD₂ := off₂.fresh D oD gD hFD
        obtain ⟨mC', nsC'⟩ := hnsC
        have nsC₂ : s₂.heap.Ns C mC' := nsC'.at' fun o e => off₂.keep C o mC e
        have hFC₂ : F₂ C = none := by obtain ⟨o, _, _, e, _⟩ := nsC'; exact off₂.fresh C o e hFC
        obtain ⟨pv, hpv1, hpv2⟩ := exists_pv (W.at_ _ _ _ hJ₂)
        -- inside
        have inn : StOK (cx.comp scope cl C F s σ₁.res.has ((D, oD) :: pv)) F₂ s₂ { vars := cv, res := R i } := by
          refine { base := st₂, gF := out₂.gF, hh := ok.hh, kind := hseen.kind, glob := ok.glob, bltn := ok.bltn, ns := ⟨_, nsC₂⟩, newL := sC, locF := hFC₂, locR := fun z => apC.res C ((rhas i C).mp z) (List.mem_singleton.mpr rfl), cells := fun y c hm => ?_, apart := hseen.apart, newC := (fun z => nomatch z), vars := fun y z hm => ?_, res := hres₂, resW := fun a ha => .inl ((rhas i a).mp ha), locW := fun z => apC.res C z (List.mem_singleton.mpr rfl), cellW := fun y c hm z => ?_, nd := hseen.nd, priv := fun a o hm => ?_ }
          · exact out₂.cells y c (hseen.sub y c hm)
          · obtain ⟨h1, h2, h3, h4⟩ := hseen.vars y z hm
            obtain ⟨u, a, r⟩ := out₂.vars y z h1
            refine ⟨u, ?_, r⟩
            rcases a with ⟨k, _⟩ | ⟨k, c, lk, o, e, d⟩
            · exact absurd k h2
            · exact .inr ⟨h4, c, h3.trans lk, o, e, d⟩
          · exact (ok.cells y c (hseen.sub y c hm)).2.2 z
          · rcases List.mem_cons.mp hm with z | hm
            · cases z
              exact ⟨gD₂, hFD₂, fun z => apD.res D ((rhas i D).mp z) (List.mem_singleton.mpr rfl), hDC, fun y z => apD.cell y D (hseen.sub y D z) (List.mem_singleton.mpr rfl)⟩
            · obtain ⟨h1, h2⟩ := hpv1 a o hm
              exact ⟨h2, hFm₂ a h1, fun z => ap.res a ((rhas i a).mp z) h1, fun z => mC ((show a = C from z) ▸ h1), fun y z => ap.cell y a (hseen.sub y a z) h1⟩
        obtain ⟨σt, σu, ht, htr, hif, hno, hyes⟩ := turn C F s σ₁.res.has ((D, oD) :: pv) i p hp
        refine ht.run F₂ s₂ v inn hr _ _ fun s₃ ok₃ => hif.run ok₃ fun F₄ s₄ st₄ ok₄ => ?_
        -- back to the invariant
        have back : ∀ F₅ s₅ (σx : St), StOK (cx.comp scope cl C F s σ₁.res.has ((D, oD) :: pv)) F₅ s₅ σx → Sub F₂ F₅ → σx.res = R (i + 1) →
            J (i + 1) F₅ s₅.heap ∧ Step σ₁.res.has F s F₅ s₅ ∧ ResOK F₅ s₅.heap (R (i + 1)) ∧ F₅ C = none ∧ F₅ D = none ∧ (∀ m ∈ ms, F₅ m = none) ∧ (∃ m, s₅.heap.Ns C m) ∧ s₅.heap.get? D = some oD := fun F₅ s₅ σx ok₅ sb hr₅ => by
          have pz : ∀ m ∈ ms, ∃ o, s₂.heap.get? m = some o ∧ s₅.heap.get? m = some o ∧ F₅ m = none := fun m hm => by
            obtain ⟨o, hox⟩ := hpv2 m hm
            obtain ⟨q1, q2, _⟩ := ok₅.priv m o (List.mem_cons_of_mem _ hox)
            exact ⟨o, (hpv1 m o hox).2, q1, q2⟩
          obtain ⟨q1, q2, _⟩ := ok₅.priv D oD List.mem_cons_self
          have hr' : ResOK F₅ s₅.heap (R (i + 1)) := hr₅ ▸ ok₅.res
          refine ⟨W.frame (i + 1) F₂ s₂.heap F₅ s₅.heap hJ₂ sb ok₅.inh (fun m hm => (pz m hm).choose_spec.2.2) (fun a c hm => hr'.ok a c (hRs _ _ hm)) fun m hm o e => ?_, ok₅.base, hr', ok₅.locF, q2, fun m hm => (pz m hm).choose_spec.2.2, ok₅.ns, q1⟩
          obtain ⟨o', e1, e2, _⟩ := pz m hm
          rw [e] at e1; cases e1; exact e2
        have rep := rD.mono off₂.sub
        cases hb : b i with
        | false =>
          rw [hb] at hno
          simp only [Bool.false_eq_true, if_false]
          obtain ⟨b1, b2, b3, b4, b5, b6, b7, b8⟩ := back F₄ s₄ σu ok₄ st₄.sub (hno rfl)
          refine ⟨ps.length + 1 - (i + 1), by omega, i + 1, F₄, hlt, rfl, b1, b2, b3, b4, b5, b6, b7, oD, vs, b8, lD, ?_⟩
          rw [hout i hlt, hb]; exact rep.mono st₄.sub
        | true =>
          rw [hb] at hyes
          simp only [if_true]
          obtain ⟨σv, he, hvr⟩ := hyes rfl
          refine he.run F₄ s₄ ok₄ _ _ fun x F₅ s₅ st₅ ok₅ rx => ?_
          obtain ⟨b1, b2, b3, b4, b5, b6, b7, b8⟩ := back F₅ s₅ σv ok₅ (st₄.sub.trans st₅.sub) hvr
          have repl := rep.mono (st₄.sub.trans st₅.sub)
          refine list_append_cell b8 lD (by rw [repl.length]; exact hol i hle) fun h₆ o₆ g₆ l₆ hs₆ => ?_
          have off₆ : Off [D] F₅ s₅ F₅ { s₅ with heap := h₆ } := Off.heap (tk := s₅.toks) b2.inh (fun m hm => by rw [List.mem_singleton.mp hm]; exact b5) fun b' o hb' e => (hs₆ b' (by simpa using hb')).trans e
          have st₆ : Step σ₁.res.has F s F₅ { s₅ with heap := h₆ } := b2.off off₆ fun m hm => by rw [List.mem_singleton.mp hm]; exact sD
          have out₅ := outer F₅ s₅ (i + 1) b2 b3
          have res₆ : ResOK F₅ h₆ (R (i + 1)) := (out₅.off off₆ apD.loc apD.cell (fun a ha => apD.res a ((rhas (i + 1) a).mp ha)) apD.priv apD.s0).res
          obtain ⟨mz, nz⟩ := b7
          refine ⟨ps.length + 1 - (i + 1), by omega, i + 1, F₅, hlt, rfl, ?_, st₆, res₆, b4, b5, b6, ⟨mz, nz.at' fun o e => (hs₆ C (Ne.symm hDC)).trans e⟩, o₆, vs ++ [x], g₆, l₆, ?_⟩
          · exact W.frame (i + 1) F₅ s₅.heap F₅ h₆ b1 (.refl _) st₆.inh b6 (fun a c hm => res₆.ok a c (hRs _ _ hm)) fun m hm o e => (hs₆ m fun z => mD (z ▸ hm)).trans e
          · rw [hout i hlt, hb]; exact repl.append (.cons rx .nil)
      · have hie : i = ps.length := by omega
        subst hie
        refine W.done F' s' _ _ hJ' st'.inh hFm fun s₂ off₂ => ?_
        have st₂ : Step σ₁.res.has F s F' s₂ := st'.off off₂ hms
        have out' := outer F' s' _ st' hres'
        have hres₂ : ResOK F' s₂.heap (R ps.length) := (out'.off off₂ ap.loc ap.cell (fun a ha => ap.res a ((rhas _ a).mp ha)) ap.priv ap.s0).res
        obtain ⟨mz, nz⟩ := hnsC
        exact fin F' s₂ C D oD vs st₂ (outer F' s₂ _ st₂ hres₂) sC sD (Ne.symm hDC) hFC hFD ⟨mz, nz.at' fun o e => off₂.keep C o mC e⟩ (off₂.keep D oD mD gD) lD rD
    · exact W.frame 0 F h' F h₁ hJ (.refl F) st₀.inh (fun m hm => fmn (hms m hm)) (fun a c hm => res0.ok a c (hRs 0 _ hm)) fun m hm o e => old m o e
  refine codeAny_compStart_list loop ?_
  exact W.self 0 F { s with heap := h₁, toks := tk + ([] : List (PySem.Str × Value)).length } _ _ (W.frame 0 F h' F h₁ hJ (.refl F) st₀.inh (fun m hm => fmn (hms m hm)) (fun a c hm => res0.ok a c (hRs 0 _ hm)) fun m hm o e => old m o e) loop
/-- a new object frozen behind the step -/
theorem Step.thaw {W : Addr → Prop} {F F' : FH} {s s' : Shared} (x : Step W F s F' s') {a : Addr} {o : Obj} (hn : s.heap.get? a = none) (hF : F' a = none) (e : s'.heap.get? a = some o) : Step W F s (F'.set a o) s' where
  sub := x.sub.trans (FH.set_sub hF)
  inh := fun b ob q => by
    unfold FH.set at q
    by_cases z : b = a
    · subst z; simp at q; subst q; exact e
    · simp [z] at q; exact x.inh b ob q
  fresh := fun b ob q m => by rw [FH.set_ne (fun z => by rw [z, hn] at q; cases q)]; exact x.fresh b ob q m
  keep := x.keep
  live := x.live
  gens := x.gens
  os := x.os
theorem StOK.thaw {F s a o} (x : StOK cx F s σ) (ap : Apart cx σ [a]) (hF : F a = none) (e : s.heap.get? a = some o) : StOK cx (F.set a o) s σ := by
  have ha : a ∈ [a] := List.mem_singleton.mpr rfl
  have sb := FH.set_sub (o := o) hF
  have ne : ∀ b, b ∉ [a] → F.set a o b = F b := fun b hb => FH.set_ne fun q => hb (by rw [q]; exact ha)
  refine { base := ?_, gF := fun b ob q => sb _ _ (x.gF b ob q), hh := x.hh, kind := x.kind, glob := x.glob, bltn := x.bltn, ns := x.ns, newL := x.newL, locF := by rw [ne _ ap.loc]; exact x.locF, locR := x.locR, cells := fun y c hm => ⟨(x.cells y c hm).1, by rw [ne _ (ap.cell y c hm)]; exact (x.cells y c hm).2.1, (x.cells y c hm).2.2⟩, apart := x.apart, newC := x.newC, vars := fun y p hm => ?_, res := ⟨fun b c hm => CellOK.mono sb (x.res.ok b c hm), fun b c hm => by rw [ne _ (ap.res b (Res.has_of hm))]; exact x.res.off b c hm, x.res.nodup⟩, resW := x.resW, locW := x.locW, cellW := x.cellW, nd := x.nd, priv := fun b ob hm => ?_ }
  · exact x.base.thaw (ap.s0 a ha) hF e
  · obtain ⟨v, q, r⟩ := x.vars y p hm; exact ⟨v, q, p.mono sb r⟩
  · obtain ⟨p1, p2, p3, p4, p5⟩ := x.priv b ob hm
    exact ⟨p1, by rw [ne _ (ap.priv b ob hm)]; exact p2, p3, p4, p5⟩
theorem Apart.res_of {ms : List Addr} (x : Apart cx σ ms) (h : σ₁.res.map (·.1) = σ.res.map (·.1)) : Apart cx σ₁ ms := ⟨x.loc, x.cell, fun a ha => x.res a (by rw [← has_like h]; exact ha), x.priv, x.s0⟩
section comps
variable {elt target iter : Expr} {ifs : List Expr} {scope : Scope} {cl : List (PySem.Str × Addr)} {cv : List (PySem.Str × VP)} {ps : List VP} {R0 : Res}
/-- a comprehension's value -/
theorem Ev.comp {lp : Pos} (hi : EvIter cx σ iter target ps R0 σ₁) (hseen : Seen cx σ₁ scope cl cv)
    (R : Nat → Res) (hR0 : R 0 = σ₁.res) (hRa : ∀ k, (R k).map (·.1) = σ₁.res.map (·.1)) (hRs : ∀ k x, x ∈ R0 → x ∈ R k) (out : Nat → List VP) (ho : out 0 = []) (b : Nat → Bool) (q : Nat → VP)
    (hout : ∀ k, k < ps.length → out (k + 1) = if b k then out k ++ [q k] else out k) (hol : ∀ k, k ≤ ps.length → (out k).length ≤ sizeLine)
    (turn : ∀ C F0 s0 W pv k p, ps[k]? = some p → CTurn (cx.comp scope cl C F0 s0 W pv) { vars := cv, res := R k } target elt ifs p (b k) (q k) (R (k + 1)))
    (hs : ∀ x, foldedSetIterable iter cx.env x = pure x := by intro _; with_unfolding_all rfl) :
    Ev cx σ (.ListComp elt [⟨target, iter, ifs, 0⟩] scope lp) (vList (out ps.length)) { vars := σ₁.vars, res := R ps.length } where
  like := (hRa _).trans hi.like
  vars := hi.vars
  run := fun F s ok Q E k => by
    rw [eval_ListComp]
    refine wpAny_comprehension_free rfl hs hseen.clos hseen.kind hseen.names (hi.run F s ok _ _ fun F₁ s₁ st₁ ok₁ I ms J h' tk hk hms hnd W hJ => ?_)
    refine comp_core (pos := lp) (target := target) (ifs := ifs) (iter := iter) hseen R hR0 hRa hRs out ho b q hout hol turn ok₁ hk hms W hJ fun F' s' C D o vs st ok' hC hD hCD hFC hFD hns gD lD rD => ?_
    obtain ⟨m, hn⟩ := hns
    refine ⟨m, hn, fun h'' hsb => ?_⟩
    have apC := (ok₁.apartOf (ms := [C]) fun m hm => by rw [List.mem_singleton.mp hm]; exact hC).res_of (σ₁ := { vars := σ₁.vars, res := R ps.length }) (hRa _)
    have apD := (ok₁.apartOf (ms := [D]) fun m hm => by rw [List.mem_singleton.mp hm]; exact hD).res_of (σ₁ := { vars := σ₁.vars, res := R ps.length }) (hRa _)
    have off : Off [C] F' s' F' { s' with heap := h'' } := Off.heap (tk := s'.toks) st.inh (fun m hm => by rw [List.mem_singleton.mp hm]; exact hFC) fun b' ob hb e => (hsb.2 b' (by simpa using hb)).trans e
    have gD' : h''.get? D = some o := (hsb.2 D (Ne.symm hCD)).trans gD
    have st₂ := st.off off fun m hm => by rw [List.mem_singleton.mp hm]; exact hC
    have ok₂ := ok'.off off apC.loc apC.cell apC.res apC.priv apC.s0
    exact k _ _ _ (st₁.trans (has_like hi.like ▸ st₂.thaw hD hFD gD')) (ok₂.thaw apD hFD gD') ⟨D, o, vs, rfl, FH.set_at .., lD, rD.mono (FH.set_sub hFD)⟩
/-- a comprehension for a name -/
theorem Exs.assignComp {x : PySem.Str} {np lp : Pos} {rest : List Stmt} {vars' : List (PySem.Str × VP)} (hi : EvIter cx σ iter target ps R0 σ₁) (hseen : Seen cx σ₁ scope cl cv)
    (R : Nat → Res) (hR0 : R 0 = σ₁.res) (hRa : ∀ k, (R k).map (·.1) = σ₁.res.map (·.1)) (hRs : ∀ k x, x ∈ R0 → x ∈ R k) (out : Nat → List VP) (ho : out 0 = []) (b : Nat → Bool) (q : Nat → VP)
    (hout : ∀ k, k < ps.length → out (k + 1) = if b k then out k ++ [q k] else out k) (hol : ∀ k, k ≤ ps.length → (out k).length ≤ sizeLine)
    (turn : ∀ C F0 s0 W pv k p, ps[k]? = some p → CTurn (cx.comp scope cl C F0 s0 W pv) { vars := cv, res := R k } target elt ifs p (b k) (q k) (R (k + 1)))
    (hput : Put cx { vars := σ₁.vars, res := R ps.length } x (vList (out ps.length)) vars') (h : Exs cx { vars := vars', res := R ps.length } rest P)
    (hsw : swapsWith (.ListComp elt [⟨target, iter, ifs, 0⟩] scope lp) (some (.Name x np)) pos.line cx.env = pure true := by with_unfolding_all rfl)
    (hs : ∀ x, foldedSetIterable iter cx.env x = pure x := by intro _; with_unfolding_all rfl) :
    Exs cx σ (.Assign [.Name x np] (.ListComp elt [⟨target, iter, ifs, 0⟩] scope lp) pos :: rest) P := .cons fun F s ok Q E k => by
  rw [exec_Assign_Name_used _ _ _ _ hsw]
  refine wpAny_bind (wpAny_standAt (wpAny_bind ?_))
  show wpAny _ _ (do let _ ← comprehension (.ListComp elt [⟨target, iter, ifs, 0⟩] scope lp) scope cx.env _ (newList []) false (PySem.eval iter cx.env) (some (PySem.assign (.Name x np) cx.env))) _ _ s
  refine wpAny_bind (wpAny_mono (wpAny_comprehension_free (Q := fun _ s' => Q .next s') rfl hs hseen.clos hseen.kind hseen.names (hi.run F s ok _ _ fun F₁ s₁ st₁ ok₁ I ms J h' tk hk hms hnd W hJ => ?_))
    (fun _ s' hq => wpAny_pure (wpAny_pure hq)) fun _ _ e => e)
  refine comp_core (pos := lp) (target := target) (ifs := ifs) (iter := iter) hseen R hR0 hRa hRs out ho b q hout hol turn ok₁ hk hms W hJ fun F' s' C D o vs st ok' hC hD hCD hFC hFD hns gD lD rD => ?_
  obtain ⟨m, oC, es, ep, gC, dC, kC, fC⟩ := hns
  have apC := (ok₁.apartOf (ms := [C]) fun m hm => by rw [List.mem_singleton.mp hm]; exact hC).res_of (σ₁ := { vars := σ₁.vars, res := R ps.length }) (hRa _)
  have apD := (ok₁.apartOf (ms := [D]) fun m hm => by rw [List.mem_singleton.mp hm]; exact hD).res_of (σ₁ := { vars := σ₁.vars, res := R ps.length }) (hRa _)
  have ok₂ := ok'.thaw apD hFD gD
  have hFC₂ : (F'.set D o) C = none := by rw [FH.set_ne hCD]; exact hFC
  have ok₃ : StOK (cx.with_ [(C, oC)]) (F'.set D o) s' { vars := σ₁.vars, res := R ps.length } := ok₂.inTurn apC (fun m hm => by rw [List.mem_singleton.mp hm]; exact hFC₂) fun a oa hm => by cases List.mem_singleton.mp hm; exact ⟨List.mem_singleton.mpr rfl, gC⟩
  have hput' : Put (cx.with_ [(C, oC)]) { vars := σ₁.vars, res := R ps.length } x (vList (out ps.length)) vars' := ⟨hput.home, hput.own, hput.set⟩
  show wpAny _ _ (PySem.assign (.Name x np) cx.env (.ref D)) _ _ s'
  refine wpAny_assign_Name (hput'.run ok₃ ⟨D, o, vs, rfl, FH.set_at .., lD, rD.mono (FH.set_sub hFD)⟩ fun s₄ ok₄ => ?_)
  obtain ⟨gC₄, _⟩ := ok₄.priv C oC List.mem_cons_self
  refine ⟨m, ⟨oC, es, ep, gC₄, dC, kC, fC⟩, fun h'' hsb => ?_⟩
  have off : Off [C] (F'.set D o) s₄ (F'.set D o) { s₄ with heap := h'' } := Off.heap (tk := s₄.toks) ok₄.inh (fun m hm => by rw [List.mem_singleton.mp hm]; exact hFC₂) fun b' ob hb e => (hsb.2 b' (by simpa using hb)).trans e
  exact k .next _ _ (.nx _) ((st₁.sub.trans st.sub).trans (FH.set_sub hFD)) ((StOK.outTurn ok₄).off off apC.loc apC.cell apC.res apC.priv apC.s0) h
end comps
end Mine
namespace Mine
open PySem PySem.W PySem.Calls PyProof.Rows Builtin Builtin.Str Builtin.Int
variable {cx : Cx} {σ σ₁ σ₂ σ₃ : St} {pos : Pos} {P P' : Out → Prop}
/-- one owned cell turns -/
inductive RSet (a : Addr) (c c' : Cell) : Res → Res → Prop
  | here {l} : RSet a c c' ((a, c) :: l) ((a, c') :: l)
  | there {b d l l'} : RSet a c c' l l' → RSet a c c' ((b, d) :: l) ((b, d) :: l')
theorem RSet.names {a c c'} : ∀ {l l'}, RSet a c c' l l' → l'.map (·.1) = l.map (·.1)
  | _, _, .here => rfl
  | _, _, .there h => by simp [h.names]
theorem RSet.mem {a c c'} : ∀ {l l'}, RSet a c c' l l' → (a, c) ∈ l
  | _, _, .here => by simp
  | _, _, .there h => List.mem_cons_of_mem _ h.mem
theorem RSet.set {a c c'} : ∀ {l l'}, RSet a c c' l l' → (l.map (·.1)).Nodup → ∀ b d, (b, d) ∈ l' → (b = a ∧ d = c') ∨ (b ≠ a ∧ (b, d) ∈ l)
  | _, _, .here (l := l), hnd, b, d, hm => by
    rcases List.mem_cons.mp hm with e | hm2
    · cases e; exact .inl ⟨rfl, rfl⟩
    · refine .inr ⟨fun e => ?_, List.mem_cons_of_mem _ hm2⟩
      subst e
      have hm3 : b ∈ l.map (·.1) := List.mem_map.mpr ⟨(b, d), hm2, rfl⟩
      exact (List.nodup_cons.mp hnd).1 hm3
  | _, _, .there (b := z) h, hnd, b, d, hm => by
    rcases List.mem_cons.mp hm with e | hm
    · cases e
      refine .inr ⟨fun e => ?_, List.mem_cons_self⟩
      subst e
      exact (List.nodup_cons.mp hnd).1 (List.mem_map.mpr ⟨_, h.mem, rfl⟩)
    · exact (h.set (List.nodup_cons.mp hnd).2 b d hm).imp id fun ⟨x, y⟩ => ⟨x, List.mem_cons_of_mem _ y⟩
theorem StOK.turn {F s h' tk a c c' R'} (ok : StOK cx F s σ) (r : RSet a c c' σ.res R') (hs : ∀ b, b ≠ a → h'.get? b = s.heap.get? b) (hc : CellOK F h' a c') :
    Step σ.res.has F s F { s with heap := h', toks := tk } ∧ StOK cx F { s with heap := h', toks := tk } { vars := σ.vars, res := R' } := by
  have hF : F a = none := ok.res.off a c r.mem
  have st : Step σ.res.has F s F { s with heap := h', toks := tk } := by
    refine ⟨.refl F, fun b o e => ?_, fun _ _ _ n => n, fun b o w e => ?_, fun b o e => ?_, rfl, rfl⟩
    · exact (hs b fun q => by rw [q, hF] at e; cases e).trans (ok.inh b o e)
    · exact (hs b fun q => w (q ▸ Res.has_of r.mem)).trans e
    · by_cases q : b = a
      · subst q; exact hc.ex
      · exact ⟨o, (hs b q).trans e⟩
  refine ⟨st, ok.step (σ' := { vars := σ.vars, res := R' }) st rfl ⟨fun b d hm => ?_, fun b d hm => ?_, ?_⟩ r.names⟩
  · rcases r.set ok.res.nodup b d hm with ⟨rfl, rfl⟩ | ⟨hne, hm'⟩
    · exact hc
    · exact (ok.res.ok b d hm').at fun o e => (hs b hne).trans e
  · rcases r.set ok.res.nodup b d hm with ⟨rfl, rfl⟩ | ⟨hne, hm'⟩
    · exact hF
    · exact ok.res.off b d hm'
  · show (R'.map (·.1)).Nodup
    rw [r.names]; exact ok.res.nodup
/-- statements that are expressions -/
theorem Exs.expr {e : Expr} {p : VP} {rest : List Stmt} (he : Ev cx σ e p σ₁) (hp : ∀ F v, p.rd F v → v = .none) (h : Exs cx σ₁ rest P)
    (hi : interactive cx.env = false) (hs : swapsWith e none pos.line cx.env = pure false := by with_unfolding_all rfl) : Exs cx σ (.Expr e pos :: rest) P := .cons fun F s ok Q E k =>
  wpAny_Expr (he.run F s ok _ _ fun v F₁ s₁ st₁ ok₁ r₁ => by
    cases hp _ _ r₁
    exact k .next F₁ s₁ (.nx σ₁) st₁.sub ok₁ h) hi hs
theorem typeIs_cell {F s a ps} (ok : StOK cx F s σ) (hm : (a, Cell.lst ps) ∈ σ.res) : s.TypeIs (.ref a) "list" ∧ ∀ b, (Value.ref a) = .ref b → ∃ ob, s.heap.get? b = some ob ∧ ob.dict = none := by
  obtain ⟨o, vs, e, ⟨n, rfl⟩, _⟩ := ok.res.ok a _ hm
  refine ⟨⟨_, e, rfl⟩, fun b q => ?_⟩
  cases q
  exact ⟨_, e, rfl⟩
theorem Ev.append {o e : Expr} {ap : Pos} {a : Addr} {p : VP} {ps : List VP} {R' : Res} (ho : Ev cx σ o (vVal (.ref a)) σ) (he : Ev cx σ e p σ) (r : RSet a (.lst ps) (.lst (ps ++ [p])) σ.res R') (hsz : ps.length ≤ sizeLine)
    (hs : starEach [e] cx.env = [(false, PySem.eval e cx.env)] := by with_unfolding_all rfl)
    (hb : attributeBase o (PySem.Str.ofString "append") cx.env (PySem.eval o cx.env) = PySem.eval o cx.env := by with_unfolding_all rfl) (hl : (ap.endLine == pos.line) = true := by with_unfolding_all rfl) :
    Ev cx σ (.Call (.Attribute o (PySem.Str.ofString "append") ap) [e] [] pos) (vVal .none) { vars := σ.vars, res := R' } where
  like := r.names
  vars := rfl
  run := fun F s ok Q E k => wpMeth1 PySem.F.plainAttrs_list PySem.F.slot_list_append PySem.F.type_list_append (ho.run F s ok _ _ fun v F₁ s₁ st₁ ok₁ r₁ => by
    cases r₁
    obtain ⟨t1, t2⟩ := typeIs_cell ok₁ r.mem
    refine ⟨t1, t2, he.run F₁ s₁ ok₁ _ _ fun u F₂ s₂ st₂ ok₂ r₂ => ?_⟩
    obtain ⟨ob, vs, e, l, rv⟩ := ok₂.res.ok a _ r.mem
    refine list_append_cell e l (by rw [rv.length]; exact hsz) fun h' o' g' l' hs' => ?_
    obtain ⟨st₃, ok₃⟩ := ok₂.turn (tk := s₂.toks) r hs' ⟨o', _, g', l', rv.append (.cons r₂ .nil)⟩
    exact k _ F₂ _ (st₁.trans (st₂.trans st₃)) ok₃ rfl) hs hb hl
theorem Ev.pop0 {o e : Expr} {ap : Pos} {a : Addr} {p : VP} {ps : List VP} {R' : Res} (ho : Ev cx σ o (vVal (.ref a)) σ) (he : Ev cx σ e (vInt 0) σ) (r : RSet a (.lst (p :: ps)) (.lst ps) σ.res R') (hsz : ps.length < sizeLine)
    (hs : starEach [e] cx.env = [(false, PySem.eval e cx.env)] := by with_unfolding_all rfl)
    (hb : attributeBase o (PySem.Str.ofString "pop") cx.env (PySem.eval o cx.env) = PySem.eval o cx.env := by with_unfolding_all rfl) (hl : (ap.endLine == pos.line) = true := by with_unfolding_all rfl) :
    Ev cx σ (.Call (.Attribute o (PySem.Str.ofString "pop") ap) [e] [] pos) p { vars := σ.vars, res := R' } where
  like := r.names
  vars := rfl
  run := fun F s ok Q E k => wpMeth1 PySem.F.plainAttrs_list PySem.F.slot_list_pop PySem.F.type_list_pop (ho.run F s ok _ _ fun v F₁ s₁ st₁ ok₁ r₁ => by
    cases r₁
    obtain ⟨t1, t2⟩ := typeIs_cell ok₁ r.mem
    refine ⟨t1, t2, he.run F₁ s₁ ok₁ _ _ fun u F₂ s₂ st₂ ok₂ ⟨t, r₂⟩ => ?_⟩
    subst r₂
    obtain ⟨ob, vs, e, ⟨n, rfl⟩, rv⟩ := ok₂.res.ok a _ r.mem
    cases rv with
    | cons rp rs =>
      rename_i v vs'
      have hlen := rs.length
      have hq : seqIndex? 0 (v :: vs').toArray.size = some 0 := by simp [seqIndex?]
      have hz : (v :: vs').toArray.size ≤ sizeLine := by simp; first | lia | omega
      refine call_meets PySem.F.slot_list_pop (typeIs_cell ok₂ r.mem).1 PySem.F.entry_list_pop (PySem.F.args_list_pop_2 _ _) (MeetsSeq.list_pop_at a (v :: vs').toArray n 0 t 0 v (by decide) hq (by simp) hz) ⟨e, ?_⟩
      have hg := Heap.get?_update_self (h := s₂.heap) (fun o => Obj.mapSeq (fun xs => xs.eraseIdxIfInBounds 0) o) e (by simp [Obj.mapSeq]; rfl)
      have hlo : LsObj vs' (Obj.mapSeq (fun xs => xs.eraseIdxIfInBounds 0) { cls := Value.type "list", data := Data.seq (v :: vs').toArray n }) := by simp [LsObj, Obj.mapSeq, Array.eraseIdxIfInBounds]
      obtain ⟨st₃, ok₃⟩ := ok₂.turn (h' := s₂.heap.update a (Obj.mapSeq fun xs => xs.eraseIdxIfInBounds 0)) (tk := s₂.toks) r (fun b hb => (Heap.SameBut.update ..).2 b hb) ⟨_, vs', hg, hlo, rs⟩
      exact k _ F₂ _ (st₁.trans (st₂.trans st₃)) ok₃ rp) hs hb hl
theorem setItem_cell {prog : Program} {w : World} {A : Around} {E : Value → Shared → Prop} {s : Shared} {a : Addr} {vs : List Value} {n k : Nat} {t : Tok} {v : Value} {Q : Unit → Shared → Prop}
    (e : s.heap.get? a = some { cls := .type "list", data := .seq vs.toArray n }) (hk : k < vs.length) {ki : Int} (h0 : 0 ≤ ki) (hki : ki.toNat = k) (hfit : ki < 2 ^ 63)
    (hQ : ∀ h', h'.get? a = some { cls := .type "list", data := .seq (vs.set k v).toArray n } → (∀ b, b ≠ a → h'.get? b = s.heap.get? b) → Q () { s with heap := h' }) :
    wpAny (model prog w) A (PySem.setItem (.ref a) (.int ki t) v) Q E s := by
  have hl : s.heap.IsList a vs.toArray := ⟨_, e, rfl, n, rfl⟩
  unfold PySem.setItem
  refine wpAny_holding ?_
  refine wpAny_bind (wpAny_sequenceKey hl.typeIs (by decide) ?_)
  refine wpAny_bind (wpAny_callSpecial?_slot (name := PySem.Str.ofString "__setitem__") hl.typeIs slot_list_setitem (wpAny_call_entry slot_list_setitem hl.typeIs entry_list_setitem ?_ (args_list_setitem _ _ _)))
  show wpAny _ _ (Builtin.List.listSubscript? (.int ki t) >>= _) _ _ s
  refine wpAny_bind (wpAny_listSubscript_int (fitsIndex_of h0 hfit) ?_)
  clear hfit
  obtain ⟨j, rfl⟩ := Int.eq_ofNat_of_zero_le h0
  have hjk : j = k := by simpa using hki
  subst hjk
  clear hki h0
  have hx : vs.toArray[j]? = some vs[j] := by simp [hk]
  show wpAny _ _ ((seqItemAt a j >>= fun r => pure (r.map (j, ·))) >>= _) _ _ s
  refine wpAny_bind (wpAny_bind (wpAny_seqItemAt e rfl (wpAny_pure ?_)))
  rw [hx]
  show wpAny _ _ (setSeqItemAt a j v >>= _) _ _ s
  have fin := hQ (s.heap.update a (Obj.mapSeq (·.setIfInBounds j v))) ((Heap.get?_update_self _ e (by simp [Obj.mapSeq]; rfl)).trans (by simp [Obj.mapSeq])) fun b hb => (Heap.SameBut.update ..).2 b hb
  refine wpAny_bind (wpAny_setSeqItemAt e rfl ?_)
  first
    | exact wpAny_bind (wpAny_pure (wpAny_pure ⟨.none, rfl, wpAny_pure fin⟩))
    | exact wpAny_pure ⟨.none, rfl, wpAny_pure fin⟩
/-- an item stored -/
theorem Exs.setItem {o i value : Expr} {pp : Pos} {a : Addr} {ps : List VP} {p : VP} {k : Nat} {R' : Res} {rest : List Stmt} (hv : Ev cx σ value p σ) (ho : Ev cx σ o (vVal (.ref a)) σ) (hi : Ev cx σ i (vInt k) σ)
    (hk : k < ps.length) (r : RSet a (.lst ps) (.lst (ps.set k p)) σ.res R') (hsz : ps.length ≤ sizeLine) (h : Exs cx { vars := σ.vars, res := R' } rest P)
    (hs : swapsWith value (some (.Subscript o i pp)) pos.line cx.env = pure false := by with_unfolding_all rfl) : Exs cx σ (.Assign [.Subscript o i pp] value pos :: rest) P := .cons fun F s ok Q E kk =>
  wpAny_Assign_Subscript (hv.run F s ok _ _ fun v F₁ s₁ st₁ ok₁ r₁ => ho.run F₁ s₁ ok₁ _ _ fun ov F₂ s₂ st₂ ok₂ r₂ => hi.run F₂ s₂ ok₂ _ _ fun iv F₃ s₃ st₃ ok₃ ⟨t, r₃⟩ => by
    cases r₂; subst r₃
    obtain ⟨ob, vs, e, ⟨n, rfl⟩, rv⟩ := ok₃.res.ok a _ r.mem
    rw [sizeLine_is] at hsz
    have hr : p.rd F₃ v := p.mono (st₂.sub.trans st₃.sub) r₁
    refine setItem_cell e (k := k) (by rw [rv.length]; exact hk) (ki := (k : Int)) (by first | lia | omega) (by simp) (by first | lia | omega) fun h' hg hs' => ?_
    obtain ⟨st₄, ok₄⟩ := ok₃.turn (tk := s₃.toks) r hs' ⟨_, vs.set k v, hg, ⟨n, rfl⟩, rv.set hr⟩
    exact kk .next F₃ _ (.nx _) ((st₁.sub.trans st₂.sub).trans st₃.sub) ok₄ h) hs
end Mine
namespace Mine
open PySem PySem.W PySem.Calls PyProof.Rows Builtin Builtin.Str Builtin.Int
variable {cx : Cx} {σ σ₁ σ₂ σ₃ : St} {pos : Pos} {P P' : Out → Prop}
/-- a new list for a name, owned -/
theorem Exs.asOwn {x : PySem.Str} {np : Pos} {e : Expr} {ps : List VP} {rest : List Stmt} (he : EvN cx σ e ps σ₁)
    (h : ∀ a : Addr, cx.s0.heap.get? a = none → ∃ l, Put cx { vars := σ₁.vars, res := (a, .lst ps) :: σ₁.res } x (vVal (.ref a)) l ∧ Exs cx { vars := l, res := (a, .lst ps) :: σ₁.res } rest P)
    (hs : swapsWithSole [.Name x np] e pos.line cx.env = pure false := by with_unfolding_all rfl) (hw : swappedStores [.Name x np] e cx.env = pure none := by with_unfolding_all rfl)
    (ha : (assignEach [.Name x np] cx.env).map (·.2) = [PySem.assign (.Name x np) cx.env] := by with_unfolding_all rfl) : Exs cx σ (.Assign [.Name x np] e pos :: rest) P := .cons fun F s ok Q E k =>
  wpAny_Assign_stores (he.run F s ok _ _ fun F₁ s₁ st₁ ok₁ a o vs h' tk hk hn hg hl hr => by
    rw [ha]
    have h0 : cx.s0.heap.get? a = none := by
      cases q : cx.s0.heap.get? a with
      | none => rfl
      | some ob => obtain ⟨o', e⟩ := ok₁.base.live a ob q; rw [hn] at e; cases e
    obtain ⟨l, hp, hx⟩ := h a h0
    refine wpAny_assign_Name (hp.run (ok₁.own hk hn hg hl hr) rfl fun s' ok' => k .next F₁ s' (.nx _) st₁.sub ok' hx)) hs hw
/-- an owned cell given up -/
inductive RDel (a : Addr) (c : Cell) : Res → Res → Prop
  | here {l} : RDel a c ((a, c) :: l) l
  | there {b d l l'} : RDel a c l l' → RDel a c ((b, d) :: l) ((b, d) :: l')
theorem RDel.mem {a c} : ∀ {l l'}, RDel a c l l' → (a, c) ∈ l
  | _, _, .here => by simp
  | _, _, .there h => List.mem_cons_of_mem _ h.mem
theorem RDel.sub {a c} : ∀ {l l'}, RDel a c l l' → l'.Sublist l
  | _, _, .here => List.sublist_cons_self ..
  | _, _, .there h => h.sub.cons_cons _
theorem RDel.not {a c} : ∀ {l l'}, RDel a c l l' → (l.map (·.1)).Nodup → ¬ Res.has l' a
  | _, _, .here, h => by rw [List.map_cons] at h; exact (List.nodup_cons.mp h).1
  | _, _, .there (b := b) h, hn => by
    rw [List.map_cons] at hn
    intro q
    unfold Res.has at q
    rw [List.map_cons] at q
    rcases List.mem_cons.mp q with e | q
    · exact (List.nodup_cons.mp hn).1 (e ▸ List.mem_map.mpr ⟨_, h.mem, rfl⟩)
    · exact h.not (List.nodup_cons.mp hn).2 q
/-- an owned list frozen -/
theorem StOK.freeze {F s x a ps R' l} (ok : StOK cx F s σ) (hx : (x, vVal (.ref a)) ∈ σ.vars) (r : RDel a (.lst ps) σ.res R') (hl : Rep x (vList ps) σ.vars l) (h0 : cx.s0.heap.get? a = none) :
    ∃ F', Sub F F' ∧ StOK cx F' s { vars := l, res := R' } := by
  obtain ⟨o, vs, e, lo, rv⟩ := ok.res.ok a _ r.mem
  have hF := ok.res.off a _ r.mem
  have ha : Res.has σ.res a := Res.has_of r.mem
  have sb := FH.set_sub (o := o) hF
  have ne : ∀ b, b ≠ a → F.set a o b = F b := fun b hb => FH.set_ne hb
  refine ⟨F.set a o, sb, ?_⟩
  have nd' : (l.map (·.1)).Nodup := hl.names ▸ ok.nd
  have old : StOK cx F s { vars := σ.vars, res := R' } := ok.wk ⟨fun _ _ h => h, ok.nd, r.sub⟩
  have notR : ¬ Res.has R' a := r.not ok.res.nodup
  refine { base := ok.base.thaw h0 hF e, gF := fun b ob q => sb _ _ (ok.gF b ob q), hh := ok.hh, kind := ok.kind, glob := ok.glob, bltn := ok.bltn, ns := ok.ns, newL := ok.newL, locF := ?_, locR := old.locR, cells := fun y c hm => ⟨(old.cells y c hm).1, ?_, (old.cells y c hm).2.2⟩, apart := ok.apart, newC := ok.newC, vars := fun y p hm => ?_, res := ⟨fun b c hm => CellOK.mono sb (old.res.ok b c hm), fun b c hm => ?_, old.res.nodup⟩, resW := old.resW, locW := ok.locW, cellW := ok.cellW, nd := nd', priv := fun b ob hm => ?_ }
  · exact (ne _ fun q => ok.locR (by rw [q]; exact ha)).trans ok.locF
  · exact (ne _ fun q => (ok.cells y c hm).2.2 (by rw [q]; exact ha)).trans (ok.cells y c hm).2.1
  · rcases hl.set ok.nd y p hm with ⟨rfl, rfl⟩ | ⟨_, hm'⟩
    · obtain ⟨v, q, rr⟩ := ok.vars y _ hx
      exact ⟨v, q, a, o, vs, rr, FH.set_at .., lo, rv.mono sb⟩
    · obtain ⟨v, q, rr⟩ := ok.vars y p hm'; exact ⟨v, q, p.mono sb rr⟩
  · exact (ne _ fun q => notR (by have h3 : b = a := q; rw [← h3]; exact Res.has_of hm)).trans (old.res.off b c hm)
  · obtain ⟨p1, p2, p3, p4, p5⟩ := old.priv b ob hm
    exact ⟨p1, (ne b fun q => (ok.priv b ob hm).2.2.1 (by rw [q]; exact ha)).trans p2, p3, p4, p5⟩
theorem Exs.freeze {x : PySem.Str} {a : Addr} {ps : List VP} {R' : Res} {l : List (PySem.Str × VP)} {ss : List Stmt} (hx : (x, vVal (.ref a)) ∈ σ.vars) (r : RDel a (.lst ps) σ.res R') (hl : Rep x (vList ps) σ.vars l) (h0 : cx.s0.heap.get? a = none)
    (h : Exs cx { vars := l, res := R' } ss P) : Exs cx σ ss P := fun F s ok Q E k => by
  obtain ⟨F', sb, ok'⟩ := ok.freeze hx r hl h0
  exact h F' s ok' Q E fun f F₂ s₂ o sb₂ => k f F₂ s₂ o (sb.trans sb₂)
/-- op-assignment to a name -/
theorem Exs.aug {x : PySem.Str} {np : Pos} {e : Expr} {op : Operator} {p q r : VP} {l : List (PySem.Str × VP)} {rest : List Stmt} (hx : (x, p) ∈ σ.vars) (he : Ev cx σ e q σ₁)
    (hop : ∀ F s v u, StOK cx F s σ₁ → p.rd F v → q.rd F u → Gv cx (inplaceOp op v u) F s r.rd) (hp : Put cx σ₁ x r l) (h : Exs cx { vars := l, res := σ₁.res } rest P) :
    Exs cx σ (.AugAssign (.Name x np) op e pos :: rest) P := .cons fun F s ok Q E k => by
  obtain ⟨v, av, rv⟩ := ok.vars x p hx
  refine wpAny_AugAssign_Name (load_at (h := s.heap) av ok.kind (he.run F s ok _ _ fun u F₁ s₁ st₁ ok₁ r₁ => ?_))
  refine hop F₁ s₁ v u ok₁ (p.mono st₁.sub rv) r₁ _ _ fun z F₂ s₂ st₂ r₂ => ?_
  exact hp.run (ok₁.pure st₂) r₂ fun s' ok' => k .next F₂ s' (.nx _) (st₁.sub.trans st₂.sub) ok' h
theorem Exs.augAddI {x : PySem.Str} {np : Pos} {e : Expr} {i j : Int} {l : List (PySem.Str × VP)} {rest : List Stmt} (hx : (x, vInt i) ∈ σ.vars) (he : Ev cx σ e (vInt j) σ₁) (hp : Put cx σ₁ x (vInt (i + j)) l) (h : Exs cx { vars := l, res := σ₁.res } rest P) :
    Exs cx σ (.AugAssign (.Name x np) .Add e pos :: rest) P :=
  .aug hx he (fun F s v u ok ⟨t, r1⟩ ⟨t', r2⟩ => by subst r1; subst r2; exact fun Q E k => PySem.P.iadd_int (k _ F _ (.toks ok.inh) ⟨_, rfl⟩)) hp h
theorem Exs.augSubI {x : PySem.Str} {np : Pos} {e : Expr} {i j : Int} {l : List (PySem.Str × VP)} {rest : List Stmt} (hx : (x, vInt i) ∈ σ.vars) (he : Ev cx σ e (vInt j) σ₁) (hp : Put cx σ₁ x (vInt (i - j)) l) (h : Exs cx { vars := l, res := σ₁.res } rest P) :
    Exs cx σ (.AugAssign (.Name x np) .Sub e pos :: rest) P :=
  .aug hx he (fun F s v u ok ⟨t, r1⟩ ⟨t', r2⟩ => by subst r1; subst r2; exact fun Q E k => PySem.P.isub_int (k _ F _ (.toks ok.inh) ⟨_, rfl⟩)) hp h
theorem Exs.augAddS {x : PySem.Str} {np : Pos} {e : Expr} {y z : List Nat} {l : List (PySem.Str × VP)} {rest : List Stmt} (hx : (x, vStr y) ∈ σ.vars) (he : Ev cx σ e (vStr z) σ₁) (hsz : y.length + z.length ≤ sizeLine) (hp : Put cx σ₁ x (vStr (y ++ z)) l) (h : Exs cx { vars := l, res := σ₁.res } rest P) :
    Exs cx σ (.AugAssign (.Name x np) .Add e pos :: rest) P :=
  .aug hx he (fun F s v u ok ⟨t, r1⟩ ⟨t', r2⟩ => by
    subst r1; subst r2
    exact fun Q E k => SB.iadd (fun t' kk => k _ F _ (.toks ok.inh) ⟨_, by rw [L2S_append]⟩) (by rw [L2S_len, L2S_len]; exact hsz)) hp h
/-- one value for several targets -/
theorem Exs.assign2 {t₁ t₂ e : Expr} {p : VP} {rest : List Stmt} (he : Ev cx σ e p σ₁) (h1 : As cx σ₁ t₁ p σ₂) (h2 : As cx σ₂ t₂ p σ₃) (h : Exs cx σ₃ rest P)
    (ha : (assignEach [t₁, t₂] cx.env).map (·.2) = [PySem.assign t₁ cx.env, PySem.assign t₂ cx.env] := by with_unfolding_all rfl) (hw : swappedStores [t₁, t₂] e cx.env = pure none := by with_unfolding_all rfl) :
    Exs cx σ (.Assign [t₁, t₂] e pos :: rest) P := .cons fun F s ok Q E k =>
  wpAny_Assign_two (he.run F s ok _ _ fun v F₁ s₁ st₁ ok₁ r₁ => h1.run F₁ s₁ v ok₁ r₁ _ _ fun s₂ ok₂ => h2.run F₁ s₂ v ok₂ r₁ _ _ fun s₃ ok₃ => k .next F₁ s₃ (.nx σ₃) st₁.sub ok₃ h) ha hw
theorem Exs.assign3 {t₁ t₂ t₃ e : Expr} {p : VP} {σ₄ : St} {rest : List Stmt} (he : Ev cx σ e p σ₁) (h1 : As cx σ₁ t₁ p σ₂) (h2 : As cx σ₂ t₂ p σ₃) (h3 : As cx σ₃ t₃ p σ₄) (h : Exs cx σ₄ rest P)
    (hs : swapsWithSole [t₁, t₂, t₃] e pos.line cx.env = pure false := by with_unfolding_all rfl) (ha : (assignEach [t₁, t₂, t₃] cx.env).map (·.2) = [PySem.assign t₁ cx.env, PySem.assign t₂ cx.env, PySem.assign t₃ cx.env] := by with_unfolding_all rfl) (hw : swappedStores [t₁, t₂, t₃] e cx.env = pure none := by with_unfolding_all rfl) :
    Exs cx σ (.Assign [t₁, t₂, t₃] e pos :: rest) P := .cons fun F s ok Q E k =>
  wpAny_Assign_stores (he.run F s ok _ _ fun v F₁ s₁ st₁ ok₁ r₁ => by
    rw [ha]
    refine wpAny_bind (wpAny_holding (h1.run F₁ s₁ v ok₁ r₁ _ _ fun s₂ ok₂ => ?_))
    refine wpAny_bind (wpAny_holding (h2.run F₁ s₂ v ok₂ r₁ _ _ fun s₃ ok₃ => ?_))
    exact h3.run F₁ s₃ v ok₃ r₁ _ _ fun s₄ ok₄ => k .next F₁ s₄ (.nx σ₄) st₁.sub ok₄ h) hs hw
/-- two names by a tuple display: the last is stored first -/
theorem Exs.swap {elts : List Expr} {kk : Nat} {tp : Pos} {e : Expr} {x y : PySem.Str} {p q : VP} {l₁ l₂ : List (PySem.Str × VP)} {rest : List Stmt} (he : Ev cx σ e (vTup [p, q]) σ₁) (h1 : Put cx σ₁ y q l₁) (h2 : Put cx { vars := l₁, res := σ₁.res } x p l₂)
    (h : Exs cx { vars := l₂, res := σ₁.res } rest P)
    (hs : swapsWithSole [.Tuple elts kk tp] e pos.line cx.env = pure false := by with_unfolding_all rfl) (hw : swappedStores [.Tuple elts kk tp] e cx.env = pure (some [x, y]) := by with_unfolding_all rfl) :
    Exs cx σ (.Assign [.Tuple elts kk tp] e pos :: rest) P := .cons fun F s ok Q E k =>
  Assign_Tuple_swapped (he.run F s ok _ _ fun v F₁ s₁ st₁ ok₁ ⟨a, o, vs, e1, f, ⟨n, q1⟩, r⟩ => by
    subst e1; subst q1
    obtain ⟨u, z, rfl, r1, r2⟩ := r.two
    have ht : s₁.heap.IsTuple a #[u, z] := ⟨_, ok₁.inh _ _ f, rfl, n, rfl⟩
    show wpAny _ _ (unpackItems (.ref a) (#[u, z] : Array Value).size none) _ _ _
    refine wpAny_unpackItems_tuple ok₁.hh ht fun h' hx => ?_
    show wpAny _ _ (assignInOrder [bindName cx.env y, bindName cx.env x] [z, u]) _ _ _
    have ok₂ := ok₁.keep (h' := h') (tk := s₁.toks) fun b ob e => hx b ob (fun q => by rw [q, get_size] at e; cases e) e
    refine assignInOrder_cons (wpAny_bindName (h1.run ok₂ r2 fun s₃ ok₃ => ?_))
    refine assignInOrder_cons (wpAny_bindName (h2.run ok₃ r1 fun s₄ ok₄ => wpAny_pure (k .next F₁ s₄ (.nx _) st₁.sub ok₄ h)))) hs hw
/-- truth of a list -/
theorem Tst.list {e : Expr} {ps : List VP} (ha : Ev cx σ e (vSrcW σ₁ ps) σ₁) (he : ∀ whole, isTrue e cx.env whole = (do let v ← whole; standAt e.pos; holding [v] (truthy v))) (hsz : ps.length ≤ sizeLine) : Tst cx σ e (!ps.isEmpty) σ₁ :=
  .val ha he fun F s v ok r => by
    obtain ⟨c, vs, rfl, hL, rv⟩ := LstW.items r ok
    rw [sizeLine_is] at hsz
    have hq : vs.toArray.isEmpty = ps.isEmpty := by
      have := rv.length
      cases vs <;> cases ps <;> simp_all
    exact fun Q E k => wpAny_truthy_list hL (by rw [List.size_toArray, rv.length]; first | lia | omega) (by rw [hq]; exact k _ F _ (.toks ok.inh) rfl)
/-- x or None -/
theorem Ev.orNone {a : Expr} {i : Int} {np : Pos} {kk : Nat} (ha : Ev cx σ a (vInt i) σ) : Ev cx σ (.BoolOp .Or [a, .Constant .none kk np] pos) (vPart (if i = 0 then none else some i)) σ where
  like := rfl
  vars := rfl
  run := fun F s ok Q E k => wpAny_Or2 (ha.run F s ok _ _ fun v F₁ s₁ st₁ ok₁ ⟨t, r₁⟩ => by
    subst r₁
    refine PySem.P.truthy_int ?_
    by_cases h : i = 0
    · subst h
      simp only [bne_self_eq_false, Bool.false_eq_true, if_false]
      exact (Ev.cNone (cx := cx) (σ := σ)).run F₁ s₁ ok₁ _ _ fun u F₂ s₂ st₂ ok₂ r₂ => k u F₂ s₂ (st₁.trans st₂) ok₂ r₂
    · have hb : (i != 0) = true := by simpa using h
      simp only [hb, if_true]
      exact k _ F₁ s₁ st₁ ok₁ (by rw [if_neg h]; exact ⟨_, rfl⟩))
end Mine
namespace Mine
open PySem PySem.W PySem.Calls PyProof.Rows Builtin Builtin.Str Builtin.Int
variable {cx : Cx} {σ σ₁ σ₂ σ₃ : St} {pos : Pos} {P P' : Out → Prop}
/-- a turn's ends, by an invariant -/
noncomputable def TurnI (cx : Cx) (next : St → Prop) (rest : List Stmt) (P : Out → Prop) : Out → Prop
  | .nx σ' => ∃ σ'', Wk σ' σ'' ∧ next σ''
  | .ct σ' => ∃ σ'', Wk σ' σ'' ∧ next σ''
  | .bk σ' => Exs cx σ' rest P
  | .rt p R => P (.rt p R)
theorem Exs.forI {target e : Expr} {body rest : List Stmt} {ps : List VP} (hi : EvIter cx σ e target ps [] σ₁) (Inv : Nat → St → Prop) (h0 : ∃ σ', Wk σ₁ σ' ∧ Inv 0 σ')
    (body_ : ∀ k p pv σk, ps[k]? = some p → Inv k σk → ∃ σt, As (cx.with_ pv) σk target p σt ∧ Exs (cx.with_ pv) σt body (TurnI cx (Inv (k + 1)) rest P))
    (after : ∀ σk, Inv ps.length σk → Exs cx σk rest P)
    (hs : ∀ x, foldedSetIterable e cx.env x = pure x := by intro _; with_unfolding_all rfl) : Exs cx σ (.For target e body [] pos :: rest) P := .cons fun F s ok Q E k => by
  refine wpAny_For (hi.run F s ok _ _ fun F₁ s₁ st₁ ok₁ I ms J h' tk hk hms hnd W hJ => ?_) hs
  have hFm : ∀ m ∈ ms, F₁ m = none := fun m hm => none_of_fresh ok₁.inh (hms m hm)
  obtain ⟨σ0, w0, i0⟩ := h0
  have ap0 : Apart cx σ0 ms := by
    have a := ok₁.apartOf hms
    exact ⟨a.loc, a.cell, fun x hx => a.res x (Sub.has w0.res hx), a.priv, a.s0⟩
  have ok0 : StOK cx F₁ { s₁ with heap := h', toks := tk } σ0 := (ok₁.keep (tk := tk) hk).wk w0
  refine codeAny_forLoop_any (fun n s' => ∃ i F' σi, i ≤ ps.length ∧ n = ps.length + 1 - i ∧ J i F' s'.heap ∧ StOK cx F' s' σi ∧ Inv i σi ∧ Apart cx σi ms ∧ (∀ m ∈ ms, F' m = none) ∧ Sub F F') ?_ (ps.length + 1)
    ⟨0, F₁, σ0, Nat.zero_le _, rfl, hJ, ok0, i0, ap0, hFm, st₁.sub⟩
  rintro n s' ⟨i, F', σi, hle, rfl, hJ', ok', hinv, ap, hF', hsub⟩
  by_cases hlt : i < ps.length
  · obtain ⟨p, hp⟩ : ∃ p, ps[i]? = some p := ⟨_, List.getElem?_eq_getElem hlt⟩
    refine W.item i F' s' p _ _ _ hp ok'.inh hJ' hF' fun v F₂ s₂ hr hJ₂ st₂ hF₂ => ?_
    · have ok₂ : StOK cx F₂ s₂ σi := ok'.off st₂ ap.loc ap.cell ap.res ap.priv ap.s0
      obtain ⟨pv, hpv1, hpv2⟩ := exists_pv (W.at_ _ _ _ hJ₂)
      obtain ⟨σt, ht, hb⟩ := body_ i p pv σi hp hinv
      refine ht.run F₂ s₂ v (ok₂.inTurn ap hF₂ hpv1) hr _ _ fun s₃ ok₃ => ?_
      refine hb F₂ s₃ ok₃ _ _ fun f F₄ s₄ o sb oo po => ?_
      have back : ∀ σ', StOK (cx.with_ pv) F₄ s₄ σ' → (∃ σ'', Wk σ' σ'' ∧ Inv (i + 1) σ'') → ∃ m, m < ps.length + 1 - i ∧ ∃ i F' σi, i ≤ ps.length ∧ m = ps.length + 1 - i ∧ J i F' s₄.heap ∧ StOK cx F' s₄ σi ∧ Inv i σi ∧ Apart cx σi ms ∧ (∀ m ∈ ms, F' m = none) ∧ Sub F F' := fun σ' ok₄ ⟨σ'', w, iv⟩ => by
        have pz : ∀ m ∈ ms, ∃ o, s₂.heap.get? m = some o ∧ s₄.heap.get? m = some o ∧ F₄ m = none ∧ ¬ σ'.res.has m := fun m hm => by
          obtain ⟨o, ho⟩ := hpv2 m hm
          obtain ⟨q1, q2, q3, _⟩ := ok₄.priv m o (List.mem_append_left _ ho)
          exact ⟨o, (hpv1 m o ho).2, q1, q2, q3⟩
        refine ⟨ps.length + 1 - (i + 1), by first | lia | omega, i + 1, F₄, σ'', hlt, rfl, ?_, (ok₄.wk w).outTurn, iv, ⟨ap.loc, ap.cell, fun x hx hm => ?_, ap.priv, ap.s0⟩, fun m hm => (pz m hm).choose_spec.2.2.1, (hsub.trans st₂.sub).trans sb⟩
        · refine W.frame (i + 1) F₂ s₂.heap F₄ s₄.heap hJ₂ sb ok₄.inh (fun m hm => (pz m hm).choose_spec.2.2.1) (fun _ _ h => (List.not_mem_nil h).elim) fun m hm o e => ?_
          obtain ⟨o', e1, e2, _⟩ := pz m hm
          rw [e] at e1; cases e1; exact e2
        · exact (pz x hm).choose_spec.2.2.2 (Sub.has w.res hx)
      cases f with
      | next => cases o with
        | nx σ' => exact back σ' oo po
        | _ => exact oo.elim
      | cont => cases o with
        | ct σ' => exact back σ' oo po
        | _ => exact oo.elim
      | brk => cases o with
        | bk σ' => exact k .next F₄ s₄ (.nx σ') ((hsub.trans st₂.sub).trans sb) (StOK.outTurn oo) po
        | _ => exact oo.elim
      | ret v => cases o with
        | rt p R => exact k (.ret v) F₄ s₄ (.rt p R) ((hsub.trans st₂.sub).trans sb) oo po
        | _ => exact oo.elim
  · have hie : i = ps.length := by first | lia | omega
    subst hie
    refine W.done F' s' _ _ hJ' ok'.inh hF' fun s₂ st₂ => ?_
    exact wpAny_execs_nil (k .next F' s₂ (.nx _) hsub (ok'.off st₂ ap.loc ap.cell ap.res ap.priv ap.s0) (after _ hinv))
/-- a while by an invariant and a measure -/
theorem Exs.whlI {t : Expr} {body rest : List Stmt} (Inv : Nat → St → Prop) (n₀ : Nat) (h0 : ∃ σ', Wk σ σ' ∧ Inv n₀ σ')
    (turn : ∀ n σn, Inv n σn → ∃ b σt, Tst cx σn t b σt ∧ (b = true → Exs cx σt body (TurnI cx (fun σ' => ∃ m, m < n ∧ Inv m σ') rest P)) ∧ (b = false → Exs cx σt rest P)) : Exs cx σ (.While t body [] pos :: rest) P := .cons fun F s ok Q E k => by
  obtain ⟨σ0, w0, i0⟩ := h0
  refine wpAny_While (codeAny_whileLoop (fun n s' => ∃ F' σn, Inv n σn ∧ StOK cx F' s' σn ∧ Sub F F') ?_ n₀ ⟨F, σ0, i0, ok.wk w0, .refl F⟩)
  rintro n s' ⟨F', σn, hinv, ok', sb⟩
  obtain ⟨b, σt, ht, hb, hn⟩ := turn n σn hinv
  refine ht.run F' s' ok' _ _ fun F₂ s₂ st₂ ok₂ => ?_
  cases b with
  | false =>
    simp only [Bool.false_eq_true, if_false]
    exact wpAny_execs_nil (k .next F₂ s₂ (.nx σt) (sb.trans st₂.sub) ok₂ (hn rfl))
  | true =>
    simp only [if_true]
    refine hb rfl F₂ s₂ ok₂ _ _ fun f F₃ s₃ o sb₃ oo po => ?_
    have sb' := (sb.trans st₂.sub).trans sb₃
    cases f with
    | next => cases o with
      | nx σ' => obtain ⟨σ'', w, m, hm, iv⟩ := po; exact ⟨m, hm, F₃, σ'', iv, StOK.wk oo w, sb'⟩
      | _ => exact oo.elim
    | cont => cases o with
      | ct σ' => obtain ⟨σ'', w, m, hm, iv⟩ := po; exact ⟨m, hm, F₃, σ'', iv, StOK.wk oo w, sb'⟩
      | _ => exact oo.elim
    | brk => cases o with
      | bk σ' => exact k .next F₃ s₃ (.nx σ') sb' oo po
      | _ => exact oo.elim
    | ret v => cases o with
      | rt p R => exact k (.ret v) F₃ s₃ (.rt p R) sb' oo po
      | _ => exact oo.elim
/-- a tuple of which its kind alone is known -/
noncomputable def vTupW (ps : List VP) : VP := ⟨fun F v => ∃ (a : Addr) (o : Obj) (vs : List Value) (n : Nat), v = .ref a ∧ F a = some o ∧ o.cls = .type "tuple" ∧ o.data = .seq vs.toArray n ∧ Rds F ps vs,
  fun h ⟨a, o, vs, n, e, f, c, d, r⟩ => ⟨a, o, vs, n, e, h _ _ f, c, d, r.mono h⟩⟩
theorem As.tupW {ts : List Expr} {k : Nat} {ps : List VP} (h : AsAll cx σ ts ps σ₁) : As cx σ (.Tuple ts k pos) (vTupW ps) σ₁ :=
  ⟨fun F s v ok ⟨a, o, vs, n, e, f, c, d, r⟩ Q E k => by
    subst e
    have ht : s.heap.IsTuple a vs.toArray := ⟨o, ok.inh _ _ f, c, n, d⟩
    refine wpAny_assign_Tuple ok.hh ht (by rw [h.len, List.size_toArray, r.length]) h.star fun h' hx => ?_
    exact h.run F _ vs (ok.keep (tk := s.toks) fun b ob e => hx b ob (fun q => by rw [q, get_size] at e; cases e) e) r Q E k⟩
/-- zip of two lists that stand -/
theorem EvIter.zip {x : PySem.Str} {np : Pos} {ea eb : Expr} {elts : List Expr} {kk : Nat} {tp : Pos} {ps qs : List VP} (hf : Ev cx σ (.Name x np) (vVal (.type "zip")) σ) (h : EvAll cx σ pos [ea, eb] [vList ps, vList qs] σ)
    (he : starEach [ea, eb] cx.env = (false, eval ea cx.env) :: starEach [eb] cx.env := by with_unfolding_all rfl) (hp : (backTo pos (starEach [eb] cx.env)).any (·.1) = false := by with_unfolding_all rfl) :
    EvIter cx σ (.Call (.Name x np) [ea, eb] [] pos) (.Tuple elts kk tp) (List.zipWith (fun p q => vTupW [p, q]) ps qs) [] σ where
  like := rfl
  vars := rfl
  sub := fun _ hm => (List.not_mem_nil hm).elim
  run := fun F s ok Q E k => wpAny_Call_Name_kw (hf.run F s ok _ _ fun v F₀ s₀ st₀ ok₀ r₀ => by
    cases r₀
    show wpAny _ _ (callWith pos (.type "zip") [] (backTo pos (starEach [ea, eb] cx.env)) []) _ _ s₀
    refine PyProof.Rows.callWith_type1 (h.run F₀ s₀ ok₀ _ _ fun args F₁ s₁ st₀₁ ok₁ rargs => ?_) he hp
    obtain ⟨v, u, rfl, ⟨a, o, vs, e1, f1, l1, r1⟩, ⟨b, o', us, e2, f2, l2, r2⟩⟩ := rargs.two
    have st₁ := st₀.trans st₀₁
    subst e1; subst e2
    have g1 := l1.isList (ok₁.inh _ _ f1)
    have g2 := l2.isList (ok₁.inh _ _ f2)
    refine call_zip_2 g1 g2 fun h' hz hTI hTO hi1 hi2 hsz hkeep => ?_
    generalize hm : s₁.heap.objs.size = m at *
    have la : @LT.lt Nat _ a m := hm ▸ Heap.lt_size (ok₁.inh _ _ f1)
    have lb : @LT.lt Nat _ b m := hm ▸ Heap.lt_size (ok₁.inh _ _ f2)
    have W := WalksT.zip2 (prog := cx.prog) (w := cx.w) (A := cx.A) ok₁.hh (m + 4) (m + 2) (m + 3) m (m + 1) a b (by constructor <;> (show (_ : Nat) ≠ _; first | lia | omega)) vs.toArray us.toArray
    have hlen : (List.zipWith (fun p q => vTupW [p, q]) ps qs).length = min vs.toArray.size us.toArray.size := by rw [List.length_zipWith, List.size_toArray, List.size_toArray, r1.length, r2.length]
    have J0 : (fun i h => IsZip h (m + 4) (m + 2) (m + 3) .none ∧ IsPair h (m + 2) (.ref m) (.ref (m + 1)) ∧ (∃ a b, IsPair h (m + 3) a b) ∧ h.IsListIter m a i ∧ h.IsListIter (m + 1) b i ∧ h.IsList a vs.toArray ∧ h.IsList b us.toArray) 0 h' := by
      refine ⟨hz, hTI, ⟨_, _, hTO⟩, hi1, hi2, ?_, ?_⟩
      · obtain ⟨n, rfl⟩ := l1; exact ⟨_, hkeep _ _ (ok₁.inh _ _ f1), rfl, n, rfl⟩
      · obtain ⟨n, rfl⟩ := l2; exact ⟨_, hkeep _ _ (ok₁.inh _ _ f2), rfl, n, rfl⟩
    generalize hS : (fun i h => IsZip h (m + 4) (m + 2) (m + 3) .none ∧ IsPair h (m + 2) (.ref m) (.ref (m + 1)) ∧ (∃ a b, IsPair h (m + 3) a b) ∧ h.IsListIter m a i ∧ h.IsListIter (m + 1) b i ∧ h.IsList a vs.toArray ∧ h.IsList b us.toArray) = Sw at *
    have hat : ∀ i h, Sw i h → ∀ c ∈ [m, m + 1, m + 2, m + 3, m + 4], ∃ o, h.get? c = some o := fun i h hsw c hc => by
      subst hS
      obtain ⟨z1, z2, ⟨_, _, z3⟩, ⟨_, z4, _⟩, ⟨_, z5, _⟩, _⟩ := hsw
      simp only [List.mem_cons, List.not_mem_nil, or_false] at hc
      rcases hc with rfl | rfl | rfl | rfl | rfl
      · exact ⟨_, z4⟩
      · exact ⟨_, z5⟩
      · exact ⟨_, z2⟩
      · exact ⟨_, z3⟩
      · exact ⟨_, z1⟩
    have J1 : Sw 0 h' := by rw [← hS]; exact J0
    refine W.self 0 _ _ _ J1 ?_
    refine k F₁ s₁ st₁ ok₁ (m + 4) [m, m + 1, m + 2, m + 3, m + 4] (fun i F h => Sw i h ∧ Sub F₁ F ∧ Inh F h) h' s₁.toks hkeep (fun c hc => by
        simp only [List.mem_cons, List.not_mem_nil, or_false] at hc
        rcases hc with h | h | h | h | h <;> (rw [h]; apply get_ge; show @LE.le Nat _ _ _; first | lia | omega)) (by simp) ?_ ⟨J1, .refl _, fun c o e => hkeep _ _ (ok₁.inh _ _ e)⟩
    have hsubs : ∀ c : Nat, c ∈ [m + 4, m + 3, m, m + 1] → c ∈ [m, m + 1, m + 2, m + 3, m + 4] := fun c q => by
      simp only [List.mem_cons, List.not_mem_nil, or_false] at q ⊢; first | lia | omega
    refine ⟨?_, fun i F h ⟨z, _⟩ c hc => hat i h z c hc, ?_, ?_, ?_⟩
    · rintro i F h F' h2 ⟨x1, x2, x3⟩ hs hi hn _ hmm
      refine ⟨W.frame i h h2 x1 fun c hc o e => ?_, x2.trans hs, hi⟩
      simp only [List.mem_cons, List.not_mem_nil, or_false] at hc
      rcases hc with rfl | rfl | rfl | rfl | rfl | rfl | rfl
      · exact hmm _ (by simp) o e
      · exact hmm _ (by simp) o e
      · exact hmm _ (by simp) o e
      · exact hmm _ (by simp) o e
      · exact hmm _ (by simp) o e
      · have h1 := x3 _ _ (x2 _ _ f1); rw [e] at h1; cases h1; exact hi _ _ (hs _ _ (x2 _ _ f1))
      · have h1 := x3 _ _ (x2 _ _ f2); rw [e] at h1; cases h1; exact hi _ _ (hs _ _ (x2 _ _ f2))
    · rintro i F s p N Q' E' hp hin ⟨x1, x2, x3⟩ hF kk2
      have hlt : i < min vs.toArray.size us.toArray.size := by rw [← hlen]; exact (List.getElem?_eq_some_iff.mp hp).1
      refine W.item i s _ E' hlt x1 fun T vals h₂ tk hv hT hTup hMid hk2 => ?_
      refine W.go _ _ _ i T _ _ E' hMid fun h₃ hS3 hk3 => ?_
      obtain ⟨x', y', e1, e2, rfl⟩ := hv
      obtain ⟨oT, gT, cT, nT, dT⟩ := hTup
      have apT : T ∉ [m + 4, m + 3, m, m + 1] := W.apart _ _ _ hMid
      have gT3 : h₃.get? T = some oT := hk3 _ _ apT gT
      have nT0 : s.heap.get? T = none := get_ge hT
      have keepAll : ∀ c o, c ∉ [m, m + 1, m + 2, m + 3, m + 4] → s.heap.get? c = some o → h₃.get? c = some o := fun c o hc e => by
        have hc' : c ∉ [m + 4, m + 3, m, m + 1] := fun q => hc (hsubs c q)
        exact hk3 _ _ hc' (hk2 _ _ hc' e)
      have hFT : F T = none := by cases q : F T with | none => rfl | some o => rw [hin _ _ q] at nT0; cases nT0
      have sb := FH.set_sub (o := oT) hFT
      have inh3 : Inh (F.set T oT) h₃ := fun c o q => by
        unfold FH.set at q
        by_cases z : c = T
        · subst z; simp at q; subst q; exact gT3
        · simp [z] at q
          exact keepAll c o (fun hm' => by rw [hF c hm'] at q; cases q) (hin _ _ q)
      have pnth : p = vTupW [ps[i]'(by have := r1.length; simp at hlt; first | lia | omega), qs[i]'(by have := r2.length; simp at hlt; first | lia | omega)] := by
        have hi1 : i < ps.length := by have := r1.length; simp at hlt; first | lia | omega
        have hi2 : i < qs.length := by have := r2.length; simp at hlt; first | lia | omega
        rw [List.getElem?_zipWith, List.getElem?_eq_getElem hi1, List.getElem?_eq_getElem hi2] at hp
        simpa using hp.symm
      have hi1 : i < ps.length := by have := r1.length; simp at hlt; first | lia | omega
      have hi2 : i < qs.length := by have := r2.length; simp at hlt; first | lia | omega
      obtain ⟨w1, hw1, rw1⟩ := r1.get (List.getElem?_eq_getElem hi1)
      obtain ⟨w2, hw2, rw2⟩ := r2.get (List.getElem?_eq_getElem hi2)
      have ex : w1 = x' := by have : vs[i]? = some x' := by simpa using e1
                              rw [hw1] at this; exact Option.some.inj this
      have ey : w2 = y' := by have : us[i]? = some y' := by simpa using e2
                              rw [hw2] at this; exact Option.some.inj this
      subst ex; subst ey
      refine kk2 (.ref T) (F.set T oT) _ ?_ ⟨hS3, x2.trans sb, inh3⟩ ⟨sb, inh3, fun c o e n => ?_, fun c o hc e => keepAll c o hc e, rfl, rfl⟩ fun c hc => ?_
      · rw [pnth]
        exact ⟨T, oT, [w1, w2], nT, rfl, FH.set_at .., cT, dT, .cons (VP.mono _ (x2.trans sb) rw1) (.cons (VP.mono _ (x2.trans sb) rw2) .nil)⟩
      · rw [FH.set_ne fun q => by rw [q, nT0] at e; cases e]; exact n
      · obtain ⟨o, e⟩ := hat i s.heap x1 c hc
        rw [FH.set_ne fun q => by rw [q, nT0] at e; cases e]; exact hF c hc
    · rintro F s Q' E' ⟨x1, x2, x3⟩ hin hF kk2
      rw [hlen] at x1
      exact W.done s Q' E' x1 fun h₂ tk hk2 => kk2 _ (.heap hin hF fun c o hc e => hk2 c o (fun q => hc (hsubs c q)) e)
    · rintro i F s Q' E' ⟨x1, _⟩ q
      exact W.self i s Q' E' x1 q)
/-- a comprehension by a pure function -/
noncomputable def nth {α : Type} (xs : List α) (d : β) (f : α → β) (k : Nat) : β := match xs[k]? with | some x => f x | none => d
theorem take_filter_map {α : Type} (xs : List α) (pb : α → Bool) (f : α → VP) (d : VP) (k : Nat) (hk : k < xs.length) :
    ((xs.take (k + 1)).filter pb).map f = if nth xs false pb k then ((xs.take k).filter pb).map f ++ [nth xs d f k] else ((xs.take k).filter pb).map f := by
  have e : xs[k]? = some xs[k] := List.getElem?_eq_getElem hk
  unfold nth
  rw [List.take_add_one, e]
  simp only [Option.toList, List.filter_append, List.map_append]
  cases h : pb xs[k] <;> simp [h]
section pureComp
variable {elt target iter : Expr} {ifs : List Expr} {scope : Scope} {cl : List (PySem.Str × Addr)} {cv : List (PySem.Str × VP)} {R0 : Res}
/-- one turn, by a pure function -/
noncomputable def PTurn (cx : Cx) (σ : St) (target elt : Expr) (ifs : List Expr) (p : VP) (b : Bool) (q : VP) : Prop :=
  ∃ σt, As cx σ target p σt ∧ σt.res = σ.res ∧ Ifs cx σt ifs b σt ∧ (b = true → Ev cx σt elt q σt)
theorem Ev.compP {α : Type} {lp : Pos} (xs : List α) (τ : α → VP) (pb : α → Bool) (f : α → VP) (hi : EvIter cx σ iter target (xs.map τ) R0 σ) (hseen : Seen cx σ scope cl cv) (hl : xs.length ≤ sizeLine)
    (turn : ∀ C F0 s0 W pv x, x ∈ xs → PTurn (cx.comp scope cl C F0 s0 W pv) { vars := cv, res := σ.res } target elt ifs (τ x) (pb x) (f x))
    (hs : ∀ x, foldedSetIterable iter cx.env x = pure x := by intro _; with_unfolding_all rfl) :
    Ev cx σ (.ListComp elt [⟨target, iter, ifs, 0⟩] scope lp) (vList ((xs.filter pb).map f)) σ := by
  have := Ev.comp (elt := elt) (ifs := ifs) (lp := lp) hi hseen (fun _ => σ.res) rfl (fun _ => rfl) (fun _ x hx => hi.sub x hx) (fun k => ((xs.take k).filter pb).map f) rfl (nth xs false pb) (nth xs vAny f)
    (fun k hk => take_filter_map xs pb f vAny k (by simpa using hk)) (fun k hk => ?_) (fun C F0 s0 W pv k p hp => ?_) hs
  · simpa using this
  · rw [List.length_map]
    exact Nat.le_trans (List.length_filter_le ..) (Nat.le_trans (List.length_take_le' ..) hl)
  · rw [List.getElem?_map] at hp
    obtain ⟨x, hx, rfl⟩ := Option.map_eq_some_iff.mp hp
    obtain ⟨σt, h1, h2, h3, h4⟩ := turn C F0 s0 W pv x (List.mem_of_getElem? hx)
    have e1 : nth xs false pb k = pb x := by unfold nth; rw [hx]
    have e2 : nth xs vAny f k = f x := by unfold nth; rw [hx]
    rw [e1, e2]
    exact ⟨σt, σt, h1, h2, h3, fun _ => h2, fun hb => ⟨σt, h4 hb, h2⟩⟩
theorem Exs.assignCompP {α : Type} {x : PySem.Str} {np lp : Pos} {rest : List Stmt} {vars' : List (PySem.Str × VP)} (xs : List α) (τ : α → VP) (pb : α → Bool) (f : α → VP) (hi : EvIter cx σ iter target (xs.map τ) R0 σ) (hseen : Seen cx σ scope cl cv) (hl : xs.length ≤ sizeLine)
    (turn : ∀ C F0 s0 W pv x, x ∈ xs → PTurn (cx.comp scope cl C F0 s0 W pv) { vars := cv, res := σ.res } target elt ifs (τ x) (pb x) (f x))
    (hput : Put cx σ x (vList ((xs.filter pb).map f)) vars') (h : Exs cx { vars := vars', res := σ.res } rest P)
    (hsw : swapsWith (.ListComp elt [⟨target, iter, ifs, 0⟩] scope lp) (some (.Name x np)) pos.line cx.env = pure true := by with_unfolding_all rfl)
    (hs : ∀ x, foldedSetIterable iter cx.env x = pure x := by intro _; with_unfolding_all rfl) :
    Exs cx σ (.Assign [.Name x np] (.ListComp elt [⟨target, iter, ifs, 0⟩] scope lp) pos :: rest) P := by
  refine Exs.assignComp (elt := elt) (ifs := ifs) (lp := lp) hi hseen (fun _ => σ.res) rfl (fun _ => rfl) (fun _ x hx => hi.sub x hx) (fun k => ((xs.take k).filter pb).map f) rfl (nth xs false pb) (nth xs vAny f)
    (fun k hk => take_filter_map xs pb f vAny k (by simpa using hk)) (fun k hk => ?_) (fun C F0 s0 W pv k p hp => ?_) ?_ h hsw hs
  · rw [List.length_map]
    exact Nat.le_trans (List.length_filter_le ..) (Nat.le_trans (List.length_take_le' ..) hl)
  · rw [List.getElem?_map] at hp
    obtain ⟨x, hx, rfl⟩ := Option.map_eq_some_iff.mp hp
    obtain ⟨σt, h1, h2, h3, h4⟩ := turn C F0 s0 W pv x (List.mem_of_getElem? hx)
    have e1 : nth xs false pb k = pb x := by unfold nth; rw [hx]
    have e2 : nth xs vAny f k = f x := by unfold nth; rw [hx]
    rw [e1, e2]
    exact ⟨σt, σt, h1, h2, h3, fun _ => h2, fun hb => ⟨σt, h4 hb, h2⟩⟩
  · simpa using hput
end pureComp
end Mine
namespace Mine
open PySem PySem.W PySem.Calls PyProof.Rows Builtin Builtin.Str Builtin.Int
variable {cx : Cx} {σ σ₁ σ₂ σ₃ : St} {pos : Pos} {P P' : Out → Prop}
/-- every second from k on -/
noncomputable def sl2 {α : Type} (l : List α) (k : Nat) : List α := (List.range ((l.length + 1 - k) / 2)).filterMap fun i => l[k + 2 * i]?
theorem sl2_map {α β : Type} (f : α → β) (l : List α) (k : Nat) : sl2 (l.map f) k = (sl2 l k).map f := by
  unfold sl2
  rw [List.length_map, List.map_filterMap]
  congr 1
  funext i
  rw [List.getElem?_map]
theorem Rds.picks {F : FH} {ps : List VP} {vs : List Value} (h : Rds F ps vs) (g : Nat → Nat) : ∀ is : List Nat, Rds F (is.filterMap fun i => ps[g i]?) (is.filterMap fun i => vs[g i]?)
  | [] => .nil
  | i :: is => by
    cases e : ps[g i]? with
    | none =>
      have e' : vs[g i]? = none := by
        rw [List.getElem?_eq_none_iff] at e ⊢
        rw [h.length]; exact e
      simp only [List.filterMap_cons, e, e']; exact h.picks g is
    | some p =>
      obtain ⟨v, e', r⟩ := h.get e
      simp only [List.filterMap_cons, e, e']; exact .cons r (h.picks g is)
theorem Rds.sl2 {F : FH} {ps : List VP} {vs : List Value} (h : Rds F ps vs) (k : Nat) : Rds F (sl2 ps k) (sl2 vs k) := by
  unfold Mine.sl2
  rw [h.length]; exact h.picks _ _
theorem pick2 (vs : List Value) (k : Nat) (hk : k ≤ vs.length) (hz : vs.length ≤ sizeLine) : slicePick vs.toArray (some (k : Int)) none (some 2) = (sl2 vs k).toArray := by
  have hb : sliceBounds (some (k : Int)) none (some 2) vs.length = ((k : Int), (vs.length : Int), 2) := by
    unfold sliceBounds
    have e1 : ¬ (k : Int) < 0 := by first | lia | omega
    have e2 : max 0 (min (k : Int) (vs.length : Int)) = k := by first | lia | omega
    simp only [Option.getD_some, e1, if_false, show ((2 : Int) > 0) = True from eq_true (by decide), if_true, e2]
  unfold slicePick
  rw [List.size_toArray, hb]
  have hr : sliceRange (k : Int) (vs.length : Int) 2 = (List.range ((vs.length + 1 - k) / 2)).map fun i => k + 2 * i := by
    unfold sliceRange
    simp only [show ((2 : Int) > 0) = True from eq_true (by decide), if_true]
    have e3 : (if (k : Int) < (vs.length : Int) then ((vs.length : Int) - k + 2 - 1) / 2 else 0).toNat = (vs.length + 1 - k) / 2 := by
      split <;> first | lia | omega
    rw [e3]
    apply List.map_congr_left
    intro i _
    first | lia | omega
  show ((sliceRange (k : Int) (vs.length : Int) 2).filterMap (vs.toArray[·]?)).toArray = _
  rw [hr, List.filterMap_map]
  unfold sl2
  congr 1
  congr 1
  funext i
  simp
theorem EvN.slStep {value : Expr} {p : Pos} {lo st : Expr} {k : Nat} {ps : List VP} (hv : Ev cx σ value (vSrcW σ ps) σ) (hlo : EvPt cx σ (some lo) (some (k : Int))) (hst : EvPt cx σ (some st) (some 2)) (hk : k ≤ ps.length) (hsz : ps.length ≤ sizeLine) :
    EvN cx σ (.Subscript value (.Slice (some lo) none (some st) p) pos) (sl2 ps k) σ where
  like := rfl
  vars := rfl
  run := fun F s ok Q E kk => Subscript_ (hv.run F s ok _ _ fun v F₁ s₁ st₁ ok₁ r₁ => wpAny_Slice (hlo.run F₁ s₁ ok₁ _ _ fun vl F₂ s₂ st₂ ok₂ r₂ => by
    rw [evalPart_none]
    refine wpAny_pure ?_
    refine hst.run F₂ s₂ ok₂ _ _ fun vu F₃ s₃ st₃ ok₃ r₃ => ?_
    obtain ⟨a, vs, rfl, hL, rv⟩ := LstW.items ((vSrcW σ ps).mono (st₂.sub.trans st₃.sub) r₁) ok₃
    refine slice_tail (hL.push _).typeIs list_getitem_lookup (wpAny_getItem_list_slice (hL.push _) (.new ..) (vPart.is r₂) .none (vPart.is r₃) (by decide) ?_ (by rw [List.size_toArray, rv.length]; exact hsz)) ⟨_, rfl⟩
    refine kk F₃ s₃ (st₁.trans (st₂.trans st₃)) ok₃ _ _ (sl2 vs k) _ _ (fun b ob e => Heap.get?_push_of_some _ (Heap.get?_push_of_some _ e)) ?_ (Heap.get?_push_size _ rfl) ⟨0, ?_⟩ (rv.sl2 k)
    · exact get_ge (by rw [Heap.size_push]; exact Nat.le_succ _)
    · rw [pick2 vs k (by rw [rv.length]; exact hk) (by rw [rv.length]; exact hsz)]))
/-- values that are data -/
structure VD (p : VP) (d : PyData) : Prop where
  reads : ∀ F v h, p.rd F v → Inh F h → ∃ as, Reads h v d as
theorem vd_int (i : Int) : VD (vInt i) (.int i) := ⟨fun F v h ⟨t, e⟩ _ => ⟨[], by rw [e]; exact .int i t⟩⟩
theorem vd_bool (b : Bool) : VD (vBool b) (.bool b) := ⟨fun F v h e _ => ⟨[], by rw [show v = Value.bool b from e]; exact .bool b⟩⟩
theorem vd_str (x : List Nat) : VD (vStr x) (.str (L2S x)) := ⟨fun F v h ⟨t, e⟩ _ => ⟨[], by rw [e]; exact .str _ t⟩⟩
inductive VDs : List VP → List PyData → Prop
  | nil : VDs [] []
  | cons {p d ps ds} : VD p d → VDs ps ds → VDs (p :: ps) (d :: ds)
theorem VDs.reads {ps ds} (h : VDs ps ds) : ∀ {F : FH} {vs : List Value} {hp : Heap}, Rds F ps vs → Inh F hp → ∃ as, ReadsAll hp vs ds as := by
  induction h with
  | nil => intro F vs hp r hi; cases r; exact ⟨_, .nil⟩
  | cons a b ih =>
    intro F vs hp r hi
    cases r with
    | cons r1 r2 =>
      obtain ⟨as, x⟩ := a.reads _ _ _ r1 hi
      obtain ⟨bs, y⟩ := ih r2 hi
      exact ⟨_, .cons x y⟩
theorem VDs.map {α : Type} (f : α → VP) (g : α → PyData) (h : ∀ x, VD (f x) (g x)) : ∀ l : List α, VDs (l.map f) (l.map g)
  | [] => .nil
  | x :: l => .cons (h x) (VDs.map f g h l)
theorem vd_list {ps ds} (h : VDs ps ds) : VD (vList ps) (.list ds) := ⟨fun F v hp ⟨a, o, vs, e, f, ⟨n, l⟩, r⟩ hi => by
  subst e; subst l
  obtain ⟨as, x⟩ := h.reads r hi
  exact ⟨_, .list (hi _ _ f) rfl rfl (by simpa using x)⟩⟩
theorem vd_tup {ps ds} (h : VDs ps ds) : VD (vTup ps) (.tuple ds) := ⟨fun F v hp ⟨a, o, vs, e, f, ⟨n, l⟩, r⟩ hi => by
  subst e; subst l
  obtain ⟨as, x⟩ := h.reads r hi
  exact ⟨_, .tuple (hi _ _ f) rfl rfl (by simpa using x)⟩⟩
/-- data in a state -/
noncomputable def SD (cx : Cx) (σ : St) (p : VP) (d : PyData) : Prop := ∀ F s v, StOK cx F s σ → p.rd F v → ∃ as, Reads s.heap v d as
theorem VD.sd {p d} (h : VD p d) : SD cx σ p d := fun F s v ok r => h.reads F v _ r ok.inh
theorem sd_src {ps ds} (h : VDs ps ds) : SD cx σ (vSrcW σ ps) (.list ds) := fun F s v ok r => by
  obtain ⟨a, vs, rfl, ⟨o, g, c, n, d⟩, rv⟩ := LstW.items r ok
  obtain ⟨as, x⟩ := h.reads rv ok.inh
  exact ⟨_, .list g c d (by simpa using x)⟩
theorem Tst.eqD {a b : Expr} {p q : VP} {d e : PyData} (ha : Ev cx σ a p σ) (hb : Ev cx σ b q σ) (hp : SD cx σ p d) (hq : SD cx σ q e) (h1 : SeqAt.shaped d = true) (h2 : SeqAt.shaped e = true) (hu : cx.A.units + 64 < cLine) (hm : behindInMarks .Eq b = false := by with_unfolding_all rfl) :
    Tst cx σ (.Compare a [.Eq] [b] pos) (PyData.eqv d e) σ := .cmp ha hb hm fun F s v u ok r1 r2 => by
  obtain ⟨as, x⟩ := hp F s v ok r1
  obtain ⟨bs, y⟩ := hq F s u ok r2
  exact fun Q E k => eq_dataH x y h1 h2 hu (k _ F _ (.refl ok.inh) rfl)
theorem Tst.neD {a b : Expr} {p q : VP} {d e : PyData} (ha : Ev cx σ a p σ) (hb : Ev cx σ b q σ) (hp : SD cx σ p d) (hq : SD cx σ q e) (h1 : SeqAt.shaped d = true) (h2 : SeqAt.shaped e = true) (hu : cx.A.units + 64 < cLine) (hm : behindInMarks .NotEq b = false := by with_unfolding_all rfl) :
    Tst cx σ (.Compare a [.NotEq] [b] pos) (!PyData.eqv d e) σ := .cmp ha hb hm fun F s v u ok r1 r2 => by
  obtain ⟨as, x⟩ := hp F s v ok r1
  obtain ⟨bs, y⟩ := hq F s u ok r2
  exact fun Q E k => ne_dataH x y h1 h2 hu (k _ F _ (.refl ok.inh) rfl)
theorem Ev.eqD {a b : Expr} {p q : VP} {d e : PyData} (ha : Ev cx σ a p σ) (hb : Ev cx σ b q σ) (hp : SD cx σ p d) (hq : SD cx σ q e) (h1 : SeqAt.shaped d = true) (h2 : SeqAt.shaped e = true) (hu : cx.A.units + 64 < cLine) (hm : behindInMarks .Eq b = false := by with_unfolding_all rfl) :
    Ev cx σ (.Compare a [.Eq] [b] pos) (vBool (PyData.eqv d e)) σ := .cmp ha hb hm fun F s v u ok r1 r2 => by
  obtain ⟨as, x⟩ := hp F s v ok r1
  obtain ⟨bs, y⟩ := hq F s u ok r2
  exact fun Q E k => eq_dataH x y h1 h2 hu (k _ F _ (.refl ok.inh) rfl)
/-- kinds of data -/
structure DK {α : Type} [DecidableEq α] (enc : α → PyData) (n : Nat) : Prop where
  inj : ∀ a b, PyData.eqv (enc a) (enc b) = decide (a = b)
  dep : ∀ a, (enc a).depth ≤ n
theorem eqvAll_map {α : Type} [DecidableEq α] {enc : α → PyData} {n : Nat} (h : DK enc n) : ∀ xs ys : List α, PyData.eqvAll (xs.map enc) (ys.map enc) = decide (xs = ys)
  | [], [] => rfl
  | [], _ :: _ => by simp [PyData.eqvAll]
  | _ :: _, [] => by simp [PyData.eqvAll]
  | x :: xs, y :: ys => by
    simp only [List.map_cons, PyData.eqvAll, h.inj, eqvAll_map h xs ys]
    simp [Bool.decide_and]
theorem depthAll_map {α : Type} [DecidableEq α] {enc : α → PyData} {n : Nat} (h : DK enc n) : ∀ xs : List α, PyData.depthAll (xs.map enc) ≤ n
  | [] => by simp [PyData.depthAll]
  | x :: xs => by
    simp only [List.map_cons, PyData.depthAll]
    exact Nat.max_le.mpr ⟨h.dep x, depthAll_map h xs⟩
theorem dk_int : DK (fun i : Int => PyData.int i) 0 := ⟨fun a b => by simp only [PyData.eqv]; rfl, fun a => by simp [PyData.depth]⟩
theorem dk_bool : DK (fun i : Bool => PyData.bool i) 0 := ⟨fun a b => by simp only [PyData.eqv]; cases a <;> cases b <;> rfl, fun a => by simp [PyData.depth]⟩
theorem L2S_inj {x y : List Nat} : L2S x = L2S y ↔ x = y := ⟨fun e => by have := congrArg S2 e; unfold S2 at this; rw [L2S_toList, L2S_toList] at this; exact this, fun e => by rw [e]⟩
theorem dk_str : DK (fun x : List Nat => PyData.str (L2S x)) 0 := ⟨fun a b => by
  simp only [PyData.eqv]
  rw [Bool.eq_iff_iff, beq_iff_eq, decide_eq_true_iff]
  exact L2S_inj, fun a => by simp [PyData.depth]⟩
theorem dk_list {α : Type} [DecidableEq α] {enc : α → PyData} {n : Nat} (h : DK enc n) : DK (fun xs : List α => PyData.list (xs.map enc)) (n + 1) :=
  ⟨fun a b => by simp only [PyData.eqv]; exact eqvAll_map h a b, fun a => by simp only [PyData.depth]; exact Nat.succ_le_succ (depthAll_map h a)⟩
theorem canAll_map {α : Type} {enc : α → PyData} : ∀ {xs : List α}, (∀ x ∈ xs, (enc x).canLay0 = true) → PyData.canLayAll0 (xs.map enc) = true
  | [], _ => rfl
  | x :: xs, h => by
    simp only [List.map_cons, PyData.canLayAll0, Bool.and_eq_true]
    exact ⟨h x (by simp), canAll_map fun y hy => h y (List.mem_cons_of_mem _ hy)⟩
theorem shaped_list {α : Type} [DecidableEq α] {enc : α → PyData} {n : Nat} (h : DK enc n) (hn : n < 64) {xs : List α} (hx : ∀ x ∈ xs, (enc x).canLay0 = true) : SeqAt.shaped (.list (xs.map enc)) = true := by
  unfold SeqAt.shaped
  rw [Bool.and_eq_true, decide_eq_true_iff]
  refine ⟨by simp only [PyData.canLay0]; exact canAll_map hx, ?_⟩
  simp only [PyData.depth]
  have := depthAll_map h xs
  first | lia | omega
theorem shaped_of {α : Type} [DecidableEq α] {enc : α → PyData} {n : Nat} (h : DK enc n) (hn : n ≤ 64) {x : α} (hx : (enc x).canLay0 = true) : SeqAt.shaped (enc x) = true := by
  unfold SeqAt.shaped
  rw [Bool.and_eq_true, decide_eq_true_iff]
  exact ⟨hx, Nat.le_trans (h.dep x) hn⟩
/-- texts whose signs are signs -/
noncomputable def okS (x : List Nat) : Prop := ∀ c ∈ x, c < 1114112
theorem can_str {x : List Nat} (h : okS x) : (PyData.str (L2S x)).canLay0 = true := by
  simp only [PyData.canLay0, L2S]
  unfold PyData.strOk
  rw [Array.all_eq_true']
  intro c hc
  simpa using h c (by simpa using hc)
end Mine
namespace Mine
open PySem PySem.W PySem.Calls PyProof.Rows Builtin Builtin.Str Builtin.Int
variable {cx : Cx} {σ σ₁ σ₂ σ₃ : St} {pos : Pos} {P P' : Out → Prop}
/-- room for calls -/
structure Room (A : Around) (d : Nat) : Prop where
  hh : A.handled = none
  depth : A.depth + d ≤ 990
  units : A.units + 10 * d ≤ 9800
theorem Room.le {A : Around} {d e : Nat} (h : Room A d) (l : e ≤ d) : Room A e := ⟨h.hh, by have := h.depth; first | lia | omega, by have := h.units; first | lia | omega⟩
theorem Room.in_ {A : Around} {d : Nat} {env : Env} (h : Room A (d + 1)) : Room (A.deeper env) d := ⟨h.hh, by have := h.depth; show A.depth + 1 + d ≤ 990; first | lia | omega, by have := h.units; show A.units + 3 + 10 * d ≤ 9800; first | lia | omega⟩
/-- a def's contract -/
noncomputable def FnR (prog : Program) (w : World) (g : Heap) (f : Value) (d : Nat) (ps : List VP) (R : Res) (P : VP → Res → Prop) : Prop :=
  ∀ A F s vs, Room A d → (∀ b o, g.get? b = some o → F b = some o) → Inh F s.heap → ResOK F s.heap R → Rds F ps vs →
    ∀ (RR : Result → Shared → Prop), (∀ v F' s' p R', P p R' → Step R.has F s F' s' → p.rd F' v → ResOK F' s'.heap R' → (∀ a, R'.has a → R.has a ∨ s.heap.get? a = none) → RR (.ok (.ret v)) s') →
      codeAny (model prog w) A (.call f ⟨vs, []⟩) RR s
/-- a def that gives one value -/
noncomputable def FnD (prog : Program) (w : World) (g : Heap) (f : Value) (d : Nat) (ps : List VP) (R : Res) (p : VP) (R' : Res) : Prop := FnR prog w g f d ps R fun q S => q = p ∧ S = R'
/-- how a body ends -/
noncomputable def FnOut (P : VP → Res → Prop) : Out → Prop
  | .rt p R => ∃ R', R'.Sublist R ∧ P p R'
  | .nx σ => ∃ R', R'.Sublist σ.res ∧ P (vVal .none) R'
  | _ => False
/-- a function of the text -/
structure IsFn (K : Frag) (a : Addr) (fd : FuncData) (body : List Stmt) : Prop where
  obj : ∃ o, K.lookup a = some o ∧ o.data = .func fd
  body : fd.body = .stmts body
  code : codeIn K fd.code fd.qualname = true
  glob : fd.globals = mainGlobals
  bltn : fd.builtins = builtinsNs
  clos : fd.closure = []
  kind : fd.scope.kind = .function
  co : fd.scope.isCoroutine = false
  gen : fd.scope.isGenerator = false
  nocell : ∀ x ∈ fd.scope.names, x.2 ≠ .cell
/-- within a function's body -/
noncomputable def fnCx (prog : Program) (w : World) (A : Around) (g : Heap) (fd : FuncData) (L a : Addr) (F : FH) (s : Shared) (R : Res) : Cx :=
  { prog := prog, w := w, A := A.deeper (callEnv fd L a), env := callEnv fd L a, g := g, F0 := F, s0 := s, W := R.has, own := true, priv := [] }
theorem mem_lookup_nodup {x : PySem.Str} {v : Value} : ∀ {l : List (PySem.Str × Value)}, (l.map (·.1)).Nodup → (x, v) ∈ l → l.lookup x = some v
  | [], _, h => by simp at h
  | (n, u) :: l, hn, h => by
    rcases List.mem_cons.mp h with e | h
    · cases e; simp [List.lookup]
    · have hne : x ≠ n := fun q => (List.nodup_cons.mp hn).1 (by have hm : x ∈ l.map (·.1) := List.mem_map.mpr ⟨_, h, rfl⟩; rw [q] at hm; exact hm)
      rw [List.lookup_cons, show (x == n) = false from by simpa using hne]
      exact mem_lookup_nodup (List.nodup_cons.mp hn).2 h
theorem zip_fst {α : Type} : ∀ {names : List PySem.Str} {vs : List α}, names.length = vs.length → (names.zip vs).map (·.1) = names
  | [], _, _ => by simp
  | n :: ns, [], h => by cases h
  | n :: ns, v :: vs, h => by
    rw [List.zip_cons_cons, List.map_cons, zip_fst (by simpa using h)]
theorem FnR.of_body {prog : Program} {w : World} {K : Frag} {g : Heap} {a : Addr} {fd : FuncData} {body : List Stmt} {names : List PySem.Str} {d : Nat} {ps : List VP} {R : Res} {P : VP → Res → Prop} (G : Grd K g) (fn : IsFn K a fd body)
    (hb : ∀ vs : List Value, vs.length = names.length → bindArgs fd ⟨vs, []⟩ = pure (names.zip vs)) (hl : ∀ x ∈ names, fd.scope.names.lookup x = some .local) (hn : names.Nodup) (hlen : names.length = ps.length)
    (h : ∀ A F s L, Room A (d + 1) → Exs (fnCx prog w A g fd L a F s R) { vars := names.zip ps, res := R } body (FnOut P)) : FnR prog w g (.ref a) (d + 1) ps R P := by
  intro A F s vs rm hg hi hR hr RR k
  obtain ⟨o, ho, hd⟩ := fn.obj
  obtain ⟨p, loose, mg, mb, T⟩ := G.T
  have hgs : ∀ b o, g.get? b = some o → s.heap.get? b = some o := fun b o e => hi _ _ (hg b o e)
  have hvl : vs.length = names.length := by rw [hr.length, hlen]
  refine codeAny_call_def (binds := names.zip vs) (by have := rm.depth; unfold recursionLimit; first | lia | omega) (hgs _ _ (G.X _ _ ho)) hd (let ⟨mc, n1, n2⟩ := T.nolimit; ⟨mc, n1.keeps hgs, n2⟩) (codeRec_of (G.X.keeps hgs) fn.code) fn.body (BindsTo.of_eq (hb vs hvl)) fn.nocell (fun x hx => hl x.1 (List.of_mem_zip hx).1) (fun h₀ hns hk => ?_) fn.co fn.gen fn.kind
  generalize hLe : s.heap.objs.size = L at hns ⊢
  have nL : s.heap.get? L = none := hLe ▸ get_size _
  have st : Step R.has F s F { s with heap := h₀, toks := s.toks + (names.zip vs).length } := .heap hi hk
  have cells0 : (callEnv fd L a).cells = [] := by show fd.closure = []; exact fn.clos
  have ok : StOK (fnCx prog w A g fd L a F s R) F { s with heap := h₀, toks := s.toks + (names.zip vs).length } { vars := names.zip ps, res := R } := by
    refine { base := st, gF := hg, hh := rm.hh, kind := fn.kind, glob := fn.glob, bltn := fn.bltn, ns := ⟨_, hns⟩, newL := nL, locF := none_of_fresh hi nL, locR := ?_, cells := fun y c hm => ?_, apart := ?_, newC := fun _ y c hm => ?_, vars := fun x p hm => ?_, res := ?_, resW := fun a ha => .inl ha, locW := ?_, cellW := fun y c hm => ?_, nd := ?_, priv := fun _ _ hm => (List.not_mem_nil hm).elim }
    · intro q
      obtain ⟨⟨b, c⟩, hm, rfl⟩ := List.mem_map.mp q
      obtain ⟨ob, e⟩ := (hR.ok b c hm).ex
      have : s.heap.get? b = none := nL
      rw [this] at e; cases e
    · have hm' : (y, c) ∈ (callEnv fd L a).cells := hm
      rw [cells0] at hm'; exact (List.not_mem_nil hm').elim
    · show (callEnv fd L a).cells.Pairwise _
      rw [cells0]; exact .nil
    · have hm' : (y, c) ∈ (callEnv fd L a).cells := hm
      rw [cells0] at hm'; exact (List.not_mem_nil hm').elim
    · have hx : x ∈ names := (List.of_mem_zip hm).1
      obtain ⟨i, hi', hv⟩ : ∃ i : Nat, names[i]? = some x ∧ ps[i]? = some p := by
        obtain ⟨i, hi'⟩ := List.getElem?_of_mem hm
        rw [List.getElem?_zip_eq_some] at hi'
        exact ⟨i, hi'⟩
      obtain ⟨v, hv2, r⟩ := hr.get hv
      refine ⟨v, .inl ⟨hl x hx, _, hns, ?_⟩, r⟩
      have hmem : (x, v) ∈ names.zip vs := List.mem_of_getElem? (i := i) (by rw [List.getElem?_zip_eq_some]; exact ⟨hi', hv2⟩)
      refine mem_lookup_nodup ?_ (List.mem_reverse.mpr hmem)
      rw [List.map_reverse, zip_fst hvl.symm]; exact List.pairwise_reverse.mpr (hn.imp fun h => Ne.symm h)
    · exact hR.step (Step.heap (W := fun _ => False) hi hk) fun _ _ q => q
    · intro q
      obtain ⟨⟨b, c⟩, hm, rfl⟩ := List.mem_map.mp q
      obtain ⟨ob, e⟩ := (hR.ok b c hm).ex
      have : s.heap.get? b = none := nL
      rw [this] at e; cases e
    · have hm' : (y, c) ∈ (callEnv fd L a).cells := hm
      rw [cells0] at hm'; exact (List.not_mem_nil hm').elim
    · show ((names.zip ps).map (·.1)).Nodup
      rw [zip_fst hlen]; exact hn
  refine h A F s L rm F _ ok _ _ fun f F' s' o sb oo po => ?_
  cases o with
  | nx σ' => cases f with
    | next =>
      obtain ⟨R', hs, hp⟩ := po
      exact k .none F' s' _ R' hp oo.base rfl (oo.res.sub hs) fun b hb => oo.resW b (Sub.has hs hb)
    | _ => exact oo.elim
  | rt p R1 => cases f with
    | ret v =>
      obtain ⟨R', hs, hp⟩ := po
      exact k v F' s' p R' hp oo.1 oo.2.1 (oo.2.2.1.sub hs) fun b hb => oo.2.2.2 b (Sub.has hs hb)
    | _ => exact oo.elim
  | bk σ' => exact po.elim
  | ct σ' => exact po.elim
/-- a part of the owned cells turned by a call -/
inductive Upd : Res → Res → Res → Res → Prop
  | nil : Upd [] [] [] []
  | skip {R R' l l' x} : Upd R R' l l' → Upd R R' (x :: l) (x :: l')
  | take {R R' l l' a c c'} : Upd R R' l l' → Upd ((a, c) :: R) ((a, c') :: R') ((a, c) :: l) ((a, c') :: l')
theorem Upd.none : ∀ l : Res, Upd [] [] l l
  | [] => .nil
  | _ :: l => .skip (Upd.none l)
theorem Upd.like {R R' l l'} (h : Upd R R' l l') : l'.map (·.1) = l.map (·.1) := by
  induction h with
  | nil => rfl
  | skip _ ih => simp [ih]
  | take _ ih => simp [ih]
theorem Upd.sub {R R' l l'} (h : Upd R R' l l') : R.Sublist l := by
  induction h with
  | nil => exact .slnil
  | skip _ ih => exact ih.cons _
  | take _ ih => exact ih.cons_cons _
theorem Upd.out {R R' l l'} (h : Upd R R' l l') : (l.map (·.1)).Nodup → ∀ a c, (a, c) ∈ l' → (a, c) ∈ R' ∨ ((a, c) ∈ l ∧ ¬ R.has a) := by
  induction h with
  | nil => intro _ a c hm; exact (List.not_mem_nil hm).elim
  | skip h ih =>
    rename_i R R' l l' x
    intro hn a c hm
    rw [List.map_cons] at hn
    rcases List.mem_cons.mp hm with e | hm
    · refine .inr ⟨e ▸ List.mem_cons_self, fun q => ?_⟩
      have hq : a ∈ l.map (·.1) := (h.sub.map (·.1)).subset q
      exact (List.nodup_cons.mp hn).1 (by rw [← e]; exact hq)
    · rcases ih (List.nodup_cons.mp hn).2 a c hm with q | ⟨q1, q2⟩
      · exact .inl q
      · exact .inr ⟨List.mem_cons_of_mem _ q1, q2⟩
  | take h ih =>
    rename_i R R' l l' b d d'
    intro hn a c hm
    rw [List.map_cons] at hn
    rcases List.mem_cons.mp hm with e | hm
    · cases e; exact .inl List.mem_cons_self
    · rcases ih (List.nodup_cons.mp hn).2 a c hm with q | ⟨q1, q2⟩
      · exact .inl (List.mem_cons_of_mem _ q)
      · refine .inr ⟨List.mem_cons_of_mem _ q1, fun q => ?_⟩
        unfold Res.has at q
        rw [List.map_cons] at q
        rcases List.mem_cons.mp q with e | q
        · exact (List.nodup_cons.mp hn).1 (by rw [← show a = b from e]; exact List.mem_map.mpr ⟨_, q1, rfl⟩)
        · exact q2 q
/-- the state behind a call -/
theorem StOK.called {F s F' s'} (ok : StOK cx F s σ) {R R' res' : Res} (up : Upd R R' σ.res res') (st : Step R.has F s F' s') (hr : ResOK F' s'.heap R') : Step σ.res.has F s F' s' ∧ StOK cx F' s' { vars := σ.vars, res := res' } := by
  have st' : Step σ.res.has F s F' s' := st.weaken fun a q => Sub.has up.sub q
  refine ⟨st', ok.step (σ' := { vars := σ.vars, res := res' }) st' rfl ⟨fun a c hm => ?_, fun a c hm => ?_, ?_⟩ up.like⟩
  · rcases up.out ok.res.nodup a c hm with q | ⟨q1, q2⟩
    · exact hr.ok a c q
    · exact CellOK.mono st.sub ((ok.res.ok a c q1).at fun o e => st.keep a o q2 e)
  · rcases up.out ok.res.nodup a c hm with q | ⟨q1, q2⟩
    · exact hr.off a c q
    · obtain ⟨o, e⟩ := (ok.res.ok a c q1).ex
      exact st.fresh a o e (ok.res.off a c q1)
  · show (res'.map (·.1)).Nodup
    rw [up.like]; exact ok.res.nodup
theorem evalArgs_all {e : Expr} {rest : List Expr} {env : Env} {f : Value} {M : Model} {A : Around} {E : Value → Shared → Prop} {s : Shared} {Q : Args → Shared → Prop} (h : wpAny M A (spliced (backTo pos (starEach (e :: rest) env))) (fun vs s' => Q ⟨vs, []⟩ s') E s)
    (he : starEach (e :: rest) env = (false, eval e env) :: starEach rest env) : wpAny M A (evalArgs f true (backTo pos (starEach (e :: rest) env)) []) Q E s := by
  rw [he] at h ⊢
  exact evalArgs_plain h
/-- a call of a def by its name -/
theorem Ev.callF {x : PySem.Str} {np : Pos} {a : Addr} {e : Expr} {rest : List Expr} {K : Frag} {fd : FuncData} {body : List Stmt} {d : Nat} {ps : List VP} {R R' res' : Res} {p : VP} (G : Grd K cx.g) (fn : IsFn K a fd body) (hf : Ev cx σ (.Name x np) (vVal (.ref a)) σ)
    (ha : EvAll cx σ pos (e :: rest) ps σ₁) (hc : FnD cx.prog cx.w cx.g (.ref a) d ps R p R') (rm : Room cx.A d) (up : Upd R R' σ₁.res res')
    (he : starEach (e :: rest) cx.env = (false, eval e cx.env) :: starEach rest cx.env := by with_unfolding_all rfl) :
    Ev cx σ (.Call (.Name x np) (e :: rest) [] pos) p { vars := σ₁.vars, res := res' } where
  like := up.like.trans ha.like
  vars := ha.vars
  run := fun F s ok Q E k => wpAny_Call_Name_kw (hf.run F s ok _ _ fun v F₁ s₁ st₁ ok₁ r₁ => by
    cases r₁
    show wpAny _ _ (callWith pos (.ref a) [] (backTo pos (starEach (e :: rest) cx.env)) []) Q E s₁
    obtain ⟨o, ho, hd⟩ := fn.obj
    refine callWith_function (o := o) (fd := fd) ?_
    refine evalArgs_all (ha.run F₁ s₁ ok₁ _ _ fun vs F₂ s₂ st₂ ok₂ r₂ => ?_) he
    refine ⟨⟨ok₂.g _ _ (G.X _ _ ho), hd⟩, wpAny_call (hc cx.A F₂ s₂ vs rm ok₂.gF ok₂.inh (ok₂.res.sub up.sub) r₂ _ fun v F₃ s₃ q S ⟨e1, e2⟩ st₃ r₃ hr₃ _ => ?_)⟩
    subst e1; subst e2
    obtain ⟨st', ok₃⟩ := ok₂.called up st₃ hr₃
    exact k v F₃ s₃ (st₁.trans (st₂.trans (has_like ha.like ▸ st'))) ok₃ r₃)
end Mine
namespace Mine
open PySem PySem.W PySem.Calls PyProof.Rows Builtin Builtin.Str Builtin.Int
variable {cx : Cx} {σ σ₁ σ₂ σ₃ : St} {pos : Pos} {P P' : Out → Prop}
inductive At (x : PySem.Str) (p : VP) : List (PySem.Str × VP) → Prop
  | here {l} : At x p ((x, p) :: l)
  | there {y q l} : At x p l → At x p ((y, q) :: l)
theorem At.hereE {x : PySem.Str} {p q : VP} {l : List (PySem.Str × VP)} (h : p = q) : At x p ((x, q) :: l) := h ▸ .here
theorem At.mem {x p} : ∀ {l}, At x p l → (x, p) ∈ l
  | _, .here => by simp
  | _, .there h => List.mem_cons_of_mem _ h.mem
theorem Ev.nm {x : PySem.Str} {p : VP} (hm : At x p σ.vars) (hd : (x == (PySem.Str.ofString "__debug__")) = false := by decide) : Ev cx σ (.Name x pos) p σ := Ev.name hm.mem hd
theorem Put.oldL {x : PySem.Str} {p : VP} {l : List (PySem.Str × VP)} (hk : cx.env.kindOf x = some .local) (r : Rep x p σ.vars l) : Put cx σ x p l :=
  .old (.loc hk) (fun h => by rw [hk] at h; cases h) r
theorem Put.newL {x : PySem.Str} {p : VP} (hk : cx.env.kindOf x = some .local) (hn : (σ.vars.map (·.1)).all (fun y => !(y == x)) = true) : Put cx σ x p ((x, p) :: σ.vars) :=
  .new (.loc hk) (fun h => by rw [hk] at h; cases h) hn
theorem Put.newC {x : PySem.Str} {p : VP} {c : Addr} (hk : cx.env.kindOf x = some .cell) (hc : cx.env.cells.lookup x = some c) (ho : cx.own = true) (hn : (σ.vars.map (·.1)).all (fun y => !(y == x)) = true) : Put cx σ x p ((x, p) :: σ.vars) :=
  .new (.cell hk c hc) (fun _ => ho) hn
theorem Ev.gInt {K : Frag} {x : PySem.Str} {i : Int} {t : Tok} (G : Grd K cx.g) (e : nsIn K mainGlobals x = some (some (.int i t))) (hx : cx.env.kindOf x = some .globalImplicit)
    (hd : (x == (PySem.Str.ofString "__debug__")) = false := by decide) : Ev cx σ (.Name x pos) (vInt i) σ := (Ev.gname G e hx hd).conv fun F v r => ⟨t, r⟩
/-- a function's contract, its names given -/
theorem FnR.of_vars {prog : Program} {w : World} {K : Frag} {g : Heap} {a : Addr} {fd : FuncData} {body : List Stmt} {d : Nat} {ps : List VP} {R : Res} {P : VP → Res → Prop} (G : Grd K g) (fn : IsFn K a fd body) (vars : List (PySem.Str × VP)) (hps : vars.map (·.2) = ps)
    (hb : ∀ vs : List Value, vs.length = (vars.map (·.1)).length → bindArgs fd ⟨vs, []⟩ = pure ((vars.map (·.1)).zip vs)) (hl : ((vars.map (·.1)).all fun x => fd.scope.names.lookup x == some .local) = true) (hn : decide (vars.map (·.1)).Nodup = true)
    (h : ∀ A F s L, Room A (d + 1) → Exs (fnCx prog w A g fd L a F s R) { vars := vars, res := R } body (FnOut P)) : FnR prog w g (.ref a) (d + 1) ps R P := by
  subst hps
  have hz : (vars.map (·.1)).zip (vars.map (·.2)) = vars := by
    rw [List.zip_map']
    simp
  refine FnR.of_body (names := vars.map (·.1)) G fn hb (fun x hx => ?_) ?_ (by simp) fun A F s L rm => ?_
  · simpa using List.all_eq_true.mp hl x hx
  · exact of_decide_eq_true hn
  · rw [hz]; exact h A F s L rm
inductive VS : List (PySem.Str × VP) → List (PySem.Str × VP) → Prop
  | nil {l} : VS [] l
  | cons {x p l' l} : At x p l → VS l' l → VS ((x, p) :: l') l
theorem VS.sub : ∀ {l' l}, VS l' l → ∀ x p, (x, p) ∈ l' → (x, p) ∈ l
  | _, _, .nil, _, _, h => (List.not_mem_nil h).elim
  | _, _, .cons a b, x, p, h => by
    rcases List.mem_cons.mp h with e | h
    · cases e; exact a.mem
    · exact b.sub x p h
inductive RSub : Res → Res → Prop
  | nil {l} : RSub [] l
  | take {x l l'} : RSub l l' → RSub (x :: l) (x :: l')
  | skip {x l l'} : RSub l l' → RSub l (x :: l')
theorem RSub.takeE {a : Addr} {c c' : Cell} {l l' : Res} (h : c = c') (r : RSub l l') : RSub ((a, c) :: l) ((a, c') :: l') := h ▸ .take r
theorem RSub.sub {l l' : Res} (h : RSub l l') : l.Sublist l' := by
  induction h with
  | nil => exact List.nil_sublist _
  | take _ ih => exact ih.cons_cons _
  | skip _ ih => exact ih.cons _
theorem Wk.of (hv : VS σ₁.vars σ.vars) (hn : decide (σ₁.vars.map (·.1)).Nodup = true) (hr : RSub σ₁.res σ.res) : Wk σ σ₁ := ⟨hv.sub, of_decide_eq_true hn, hr.sub⟩
theorem Exs.exp {e : Expr} {rest : List Stmt} (he : Ev cx σ e (vVal .none) σ₁) (h : Exs cx σ₁ rest P)
    (hi : interactive cx.env = false := by with_unfolding_all rfl) (hs : swapsWith e none pos.line cx.env = pure false := by with_unfolding_all rfl) : Exs cx σ (.Expr e pos :: rest) P := .expr he (fun _ _ r => r) h hi hs
theorem Ev.app {o e : Expr} {ap : Pos} {a : Addr} {p : VP} {ps : List VP} {R' : Res} (qs : List VP) (ho : Ev cx σ o (vVal (.ref a)) σ) (he : Ev cx σ e p σ) (r : RSet a (.lst ps) (.lst qs) σ.res R') (hq : ps ++ [p] = qs) (hsz : ps.length ≤ sizeLine)
    (hs : starEach [e] cx.env = [(false, PySem.eval e cx.env)] := by with_unfolding_all rfl)
    (hb : attributeBase o (PySem.Str.ofString "append") cx.env (PySem.eval o cx.env) = PySem.eval o cx.env := by with_unfolding_all rfl) (hl : (ap.endLine == pos.line) = true := by with_unfolding_all rfl) :
    Ev cx σ (.Call (.Attribute o (PySem.Str.ofString "append") ap) [e] [] pos) (vVal .none) { vars := σ.vars, res := R' } := .append ho he (hq ▸ r) hsz hs hb hl
theorem Ev.isName {x : PySem.Str} {p : VP} (h : Ev cx σ (.Name x pos) p σ₁) : Ev cx σ (.Name x pos) p σ₁ := h
theorem Ev.isAdd {a b : Expr} {p : VP} (h : Ev cx σ (.BinOp a .Add b pos) p σ₁) : Ev cx σ (.BinOp a .Add b pos) p σ₁ := h
theorem Ev.isSub {a b : Expr} {p : VP} (h : Ev cx σ (.BinOp a .Sub b pos) p σ₁) : Ev cx σ (.BinOp a .Sub b pos) p σ₁ := h
theorem Ev.isNeg {a : Expr} {p : VP} (h : Ev cx σ (.UnaryOp .USub a pos) p σ₁) : Ev cx σ (.UnaryOp .USub a pos) p σ₁ := h
theorem Ev.isConst {c : Const} {k : Nat} {p : VP} (h : Ev cx σ (.Constant c k pos) p σ₁) : Ev cx σ (.Constant c k pos) p σ₁ := h
theorem Tst.isEq {a b : Expr} {c : Bool} (h : Tst cx σ (.Compare a [.Eq] [b] pos) c σ₁) : Tst cx σ (.Compare a [.Eq] [b] pos) c σ₁ := h
theorem Tst.isLt {a b : Expr} {c : Bool} (h : Tst cx σ (.Compare a [.Lt] [b] pos) c σ₁) : Tst cx σ (.Compare a [.Lt] [b] pos) c σ₁ := h
theorem Tst.isGt {a b : Expr} {c : Bool} (h : Tst cx σ (.Compare a [.Gt] [b] pos) c σ₁) : Tst cx σ (.Compare a [.Gt] [b] pos) c σ₁ := h
inductive RAt (a : Addr) (c : Cell) : Res → Prop
  | here {l} : RAt a c ((a, c) :: l)
  | there {x l} : RAt a c l → RAt a c (x :: l)
theorem RAt.mem {a c} : ∀ {l}, RAt a c l → (a, c) ∈ l
  | _, .here => by simp
  | _, .there h => List.mem_cons_of_mem _ h.mem
theorem Ev.srcL {e : Expr} {ps : List VP} (h : Ev cx σ e (vList ps) σ₁) : Ev cx σ e (vSrcW σ₁ ps) σ₁ := h.conv fun _ _ r => .inr (.inl r)
theorem Ev.srcG {e : Expr} {ps : List VP} (h : Ev cx σ e (vListW ps) σ₁) : Ev cx σ e (vSrcW σ₁ ps) σ₁ := h.conv fun _ _ r => .inl r
theorem Ev.srcO {e : Expr} {ps : List VP} {a : Addr} (h : Ev cx σ e (vVal (.ref a)) σ₁) (hm : RAt a (.lst ps) σ₁.res) : Ev cx σ e (vSrcW σ₁ ps) σ₁ := h.conv fun _ _ r => .inr (.inr ⟨a, r, hm.mem⟩)
theorem Ev.listW {e : Expr} {ps : List VP} (h : Ev cx σ e (vList ps) σ₁) : Ev cx σ e (vListW ps) σ₁ := h.conv fun F v ⟨a, o, vs, e, f, ⟨n, l⟩, r⟩ => ⟨a, o, vs, n, e, f, by rw [l], by rw [l], r⟩
theorem EvIter.listL {e target : Expr} {ps : List VP} (h : Ev cx σ e (vList ps) σ₁) (ht : Calm target) : EvIter cx σ e target ps [] σ₁ := .list h.listW (.inl ht)
theorem EvIter.listT {e : Expr} {ts : List Expr} {kk : Nat} {tp : Pos} {ps : List VP} (h : Ev cx σ e (vList ps) σ₁) (ht : ∀ q ∈ ps, ∃ qs, q = vTup qs) : EvIter cx σ e (.Tuple ts kk tp) ps [] σ₁ := .list h.listW (.inr ⟨ts, kk, tp, rfl, ht⟩)
theorem EvN.butlast {value hi : Expr} {p : Pos} {ps : List VP} (hv : Ev cx σ value (vSrcW σ ps) σ) (hh : Ev cx σ hi (vInt (-1)) σ) (hsz : ps.length ≤ sizeLine) : EvN cx σ (.Subscript value (.Slice none (some hi) none p) pos) ps.dropLast σ :=
  (EvN.slice hv .no (.int hh) hsz).eq (sl_butlast ps)
theorem EvN.upto {value hi : Expr} {p : Pos} {ps : List VP} {k : Nat} (hv : Ev cx σ value (vSrcW σ ps) σ) (hh : Ev cx σ hi (vInt (k : Int)) σ) (hsz : ps.length ≤ sizeLine) : EvN cx σ (.Subscript value (.Slice none (some hi) none p) pos) (ps.take k) σ :=
  (EvN.slice hv .no (.int hh) hsz).eq (sl_upto ps k)
theorem EvN.from_ {value lo : Expr} {p : Pos} {ps : List VP} {k : Nat} (hv : Ev cx σ value (vSrcW σ ps) σ) (hh : Ev cx σ lo (vInt (k : Int)) σ) (hsz : ps.length ≤ sizeLine) : EvN cx σ (.Subscript value (.Slice (some lo) none none p) pos) (ps.drop k) σ :=
  (EvN.slice hv (.int hh) .no hsz).eq (sl_from ps k)
theorem EvN.lastOf {value lo : Expr} {p : Pos} {ps : List VP} (hv : Ev cx σ value (vSrcW σ ps) σ) (hh : Ev cx σ lo (vInt (-1)) σ) (hsz : ps.length ≤ sizeLine) : EvN cx σ (.Subscript value (.Slice (some lo) none none p) pos) (ps.drop (ps.length - 1)) σ :=
  (EvN.slice hv (.int hh) .no hsz).eq (sl_last ps)
theorem getLast_at {α : Type} {l : List α} (d : α) (h : 1 ≤ l.length) : l[l.length - 1]? = some (l.getLastD d) := by
  cases l with
  | nil => simp at h
  | cons x l => rw [List.getLastD_cons, ← List.getLast?_eq_getElem?, List.getLast?_cons, List.getLastD_eq_getLast?]
theorem idx_last {n : Nat} (h : 1 ≤ n) : seqIndex? (-1) n = some (n - 1) := by
  have e : ((-1 : Int) + (n : Int)).toNat = n - 1 := by first | lia | omega
  unfold seqIndex?
  simp only [show ((-1 : Int) < 0) = True from eq_true (by decide), if_true]
  have h2 : (decide (0 ≤ (-1 : Int) + (n : Int)) && decide ((-1 : Int) + (n : Int) < (n : Int))) = true := by simp; first | lia | omega
  simp only [e]
  first | rw [if_pos h2] | simp [h2] | (split <;> simp_all <;> first | lia | omega)
theorem idx_nat {n k : Nat} (h : k < n) : seqIndex? (k : Int) n = some k := by
  rw [seqIndex_of (by first | lia | omega) (by first | lia | omega)]; simp
/-- an item of a list of texts -/
theorem Ev.lastS {value idx : Expr} {ls : List (List Nat)} (hv : Ev cx σ value (vSrcW σ (vStrs ls)) σ) (hi : Ev cx σ idx (vInt (-1)) σ) (h : 1 ≤ ls.length) (hsz : ls.length ≤ sizeLine) (hx : IsIdx idx := by exact fun _ _ => rfl) : Ev cx σ (.Subscript value idx pos) (vStr (ls.getLastD [])) σ :=
  .itemL hv hi hx (by unfold vStrs; rw [List.length_map]; exact idx_last h) (by unfold vStrs; rw [List.getElem?_map, getLast_at [] h]; rfl) (by unfold vStrs; rw [List.length_map]; exact hsz)
/-- an item by its place -/
theorem Ev.atL {value idx : Expr} {ps : List VP} {k : Nat} {p : VP} (hv : Ev cx σ value (vSrcW σ ps) σ) (hi : Ev cx σ idx (vInt (k : Int)) σ) (hp : ps[k]? = some p) (hsz : ps.length ≤ sizeLine) (hx : IsIdx idx := by exact fun _ _ => rfl) : Ev cx σ (.Subscript value idx pos) p σ :=
  .itemL hv hi hx (idx_nat (List.getElem?_eq_some_iff.mp hp).1) hp hsz
theorem Ev.atT {value idx : Expr} {ps : List VP} {k : Nat} {p : VP} (hv : Ev cx σ value (vTup ps) σ₁) (hi : Ev cx σ₁ idx (vInt (k : Int)) σ₂) (hp : ps[k]? = some p) (hsz : ps.length ≤ 1000 := by decide) (hx : IsIdx idx := by exact fun _ _ => rfl) : Ev cx σ (.Subscript value idx pos) p σ₂ :=
  .itemT hv hi hx (idx_nat (List.getElem?_eq_some_iff.mp hp).1) hp hsz
theorem Ev.atS {value idx : Expr} {x : List Nat} {k c : Nat} (hv : Ev cx σ value (vStr x) σ₁) (hi : Ev cx σ₁ idx (vInt (k : Int)) σ₂) (hp : x[k]? = some c) (hsz : x.length ≤ sizeLine) (hx : IsIdx idx := by exact fun _ _ => rfl) : Ev cx σ (.Subscript value idx pos) (vStr [c]) σ₂ :=
  .itemS hv hi hx (idx_nat (List.getElem?_eq_some_iff.mp hp).1) hp hsz
theorem vals1 {Q : List Value → Prop} (h : ∀ a, Q [a]) : ∀ vs : List Value, vs.length = 1 → Q vs
  | [a], _ => h a
theorem vals2 {Q : List Value → Prop} (h : ∀ a b, Q [a, b]) : ∀ vs : List Value, vs.length = 2 → Q vs
  | [a, b], _ => h a b
theorem vals3 {Q : List Value → Prop} (h : ∀ a b c, Q [a, b, c]) : ∀ vs : List Value, vs.length = 3 → Q vs
  | [a, b, c], _ => h a b c
theorem vals4 {Q : List Value → Prop} (h : ∀ a b c d, Q [a, b, c, d]) : ∀ vs : List Value, vs.length = 4 → Q vs
  | [a, b, c, d], _ => h a b c d
end Mine
namespace Mine
open PySem PySem.W PySem.Calls PyProof.Rows Builtin Builtin.Str Builtin.Int
variable {cx : Cx} {σ σ₁ σ₂ σ₃ : St} {pos : Pos} {P P' : Out → Prop} {K : Frag}
/-- looking into an instance's dict -/
theorem getL_of {es : List DictEntry} {name : PySem.Str} {r : Option Value} (hk : StrKeys es.toArray) (hf : nsFind es.toArray name = r) : getL name es = some r := by
  unfold getL
  have h1 : nsFind es.toArray name = (es.find? (·.key.isStr name)).map (·.val) := by
    unfold nsFind findBy
    rw [List.find?_toArray]
  rw [h1] at hf
  cases q : es.find? (·.key.isStr name) with
  | some e => rw [q] at hf; rw [← hf]; rfl
  | none =>
    rw [q] at hf
    have hn : es.any (·.refKey) = false := by
      rw [List.any_eq_false]
      intro e he
      obtain ⟨n, t, hkey⟩ := hk e (by simpa using he)
      unfold DictEntry.refKey
      rw [hkey]; simp
    simp only [hn]
    rw [← hf]; rfl
theorem putL_keys {name : PySem.Str} {h : Int} {t : Tok} {v : Value} : ∀ {es : List DictEntry}, StrKeys es.toArray → StrKeys (putL name h (.str name t) v es).toArray
  | [], _ => fun e he => by simp [putL] at he; exact ⟨name, t, by rw [he]⟩
  | e :: r, hk => by
    have hr : StrKeys r.toArray := fun x hx => hk x (by simp at hx ⊢; exact .inr hx)
    have ih := putL_keys (name := name) (h := h) (t := t) (v := v) hr
    unfold putL
    split
    · intro x hx
      simp at hx
      rcases hx with rfl | hx
      · exact hk e (by simp)
      · exact hr x (by simpa using hx)
    · intro x hx
      simp at hx
      rcases hx with rfl | hx
      · exact hk x (by simp)
      · exact ih x (by simpa using hx)
theorem find_L (es : List DictEntry) (name : PySem.Str) : nsFind es.toArray name = (es.find? (·.key.isStr name)).map (·.val) := by
  unfold nsFind findBy
  rw [List.find?_toArray]
theorem putL_find_same {name : PySem.Str} {h : Int} {t : Tok} {v : Value} : ∀ {es : List DictEntry}, ((putL name h (.str name t) v es).find? (·.key.isStr name)).map (·.val) = some v
  | [] => by simp [putL, Value.isStr]
  | e :: r => by
    unfold putL
    cases q : e.key.isStr name with
    | true => simp [q]
    | false => simp only [Bool.false_eq_true, if_false, List.find?_cons, q]; exact putL_find_same
theorem isStr_eq {v : Value} {x y : PySem.Str} (h1 : v.isStr x = true) (h2 : v.isStr y = true) : x = y := by
  cases v <;> simp [Value.isStr] at h1 h2
  rw [← h1, ← h2]
theorem putL_find_ne {name x : PySem.Str} (hne : x ≠ name) {h : Int} {t : Tok} {v : Value} : ∀ {es : List DictEntry}, ((putL name h (.str name t) v es).find? (·.key.isStr x)).map (·.val) = (es.find? (·.key.isStr x)).map (·.val)
  | [] => by
    have : (Value.str name t).isStr x = false := by
      cases q : (Value.str name t).isStr x with
      | false => rfl
      | true => exact absurd (isStr_eq q (y := name) (by simp [Value.isStr])) hne
    simp [putL, this]
  | e :: r => by
    unfold putL
    cases q : e.key.isStr name with
    | true =>
      have : e.key.isStr x = false := by
        cases q2 : e.key.isStr x with
        | false => rfl
        | true => exact absurd (isStr_eq q2 q) hne
      simp [this]
    | false =>
      simp only [Bool.false_eq_true, if_false, List.find?_cons]
      cases e.key.isStr x with
      | true => rfl
      | false => exact putL_find_ne hne
theorem putL_len {name : PySem.Str} {h : Int} {k v : Value} : ∀ {es : List DictEntry}, (putL name h k v es).length ≤ es.length + 1 ∧ ((es.find? (·.key.isStr name)).isSome = true → (putL name h k v es).length = es.length)
  | [] => by simp [putL]
  | e :: r => by
    unfold putL
    cases q : e.key.isStr name with
    | true => simp
    | false =>
      have ih := putL_len (name := name) (h := h) (k := k) (v := v) (es := r)
      simp only [Bool.false_eq_true, if_false, List.length_cons, List.find?_cons, q]
      exact ⟨Nat.succ_le_succ ih.1, fun z => by rw [ih.2 z]⟩
theorem dictObj_put {N N' : Nat} {m : PySem.Str → Option Value} {o : Obj} (d : DictObj N m o) (name : PySem.Str) (h : Int) (t : Tok) (v : Value) (hN : N' = N + 1 ∨ (N' = N ∧ m name ≠ none)) : DictObj N' (fun y => if y = name then some v else m y) (Obj.putName name h (.str name t) v o) := by
  obtain ⟨es, n, rfl, hl, hk, hf⟩ := d
  rw [putName_dict]
  refine ⟨_, _, rfl, ?_, putL_keys hk, fun y => ?_⟩
  · obtain ⟨l1, l2⟩ := putL_len (name := name) (h := h) (k := .str name t) (v := v) (es := es)
    rcases hN with rfl | ⟨rfl, hm⟩
    · first | lia | omega
    · have hs : (es.find? (·.key.isStr name)).isSome = true := by
        have := hf name
        rw [find_L] at this
        cases q : es.find? (·.key.isStr name) with
        | some e => rfl
        | none => rw [q] at this; exact absurd this.symm hm
      rw [l2 hs]; exact hl
  · rw [find_L]
    by_cases hy : y = name
    · subst hy; simp only [if_true]; exact putL_find_same
    · simp only [if_neg hy]; rw [putL_find_ne hy, ← find_L]; exact hf y
/-- a field's place -/
theorem FieldsAre.get {F : FH} {fs : List (PySem.Str × VP)} {m : PySem.Str → Option Value} (x : FieldsAre F fs m) {name : PySem.Str} {p : VP} (h : At name p fs) : ∃ v, m name = some v ∧ p.rd F v := x.1 name p h.mem
/-- an instance in a heap -/
theorem instAt_of {h : Heap} {x d C : Addr} {od : Obj} (hx : h.get? x = some (instObj C d)) (hd : h.get? d = some od) : InstAt h x (instObj C d) C (some od) := ⟨hx, rfl, rfl, hd⟩
/-- what must hold of a class for its instances' own fields -/
structure OwnAttr (K : Frag) (C : Addr) (name : PySem.Str) : Prop where
  get : plainGet K C name = true
  dict : hasDictIn K C = true
  find : ∃ attr, findIn K (.ref C) name = some attr ∧ noGet K attr = true
theorem getAttr_own {prog : Program} {w : World} {A : Around} {E : Value → Shared → Prop} {s : Shared} {x d C : Addr} {od : Obj} {name : PySem.Str} {v : Value} {m : PySem.Str → Option Value} {expr : Bool} {Q : Value → Shared → Prop} (X : K.In s.heap) (O : OwnAttr K C name)
    (hx : s.heap.get? x = some (instObj C d)) (hd : s.heap.get? d = some od) {N : Nat} (dd : DictObj N m od) (hm : m name = some v) (hh : handedIn v = true) (h : Q v { s with toks := s.toks + 1 }) : wpAny (model prog w) A (getAttr (.ref x) name expr) Q E s := by
  obtain ⟨attr, ha, hn⟩ := O.find
  obtain ⟨es, n, rfl, _, hk, hf⟩ := dd
  exact get_value X (instAt_of hx hd) (plainGet_of O.get).1 (findObj_own O.dict ha hn (by rw [lookIn_dict]; exact getL_of hk ((hf name).trans hm))) hh h
/-- values that are handed on as they are -/
noncomputable def Handed (p : VP) : Prop := ∀ F v, p.rd F v → handedIn v = true
theorem handed_int {i : Int} : Handed (vInt i) := fun F v ⟨t, e⟩ => by rw [e]; rfl
theorem handed_str {x : List Nat} : Handed (vStr x) := fun F v ⟨t, e⟩ => by rw [e]; rfl
theorem handed_ref {a : Addr} : Handed (vVal (.ref a)) := fun F v e => by rw [show v = _ from e]; rfl
theorem handed_tup {ps : List VP} : Handed (vTup ps) := fun F v ⟨a, o, vs, e, _⟩ => by rw [e]; rfl
theorem handed_inst {C : Addr} {fs : List (PySem.Str × VP)} : Handed (vInst C fs) := fun F v ⟨a, d, od, m, e, _⟩ => by rw [e]; rfl
/-- a field of an owned instance -/
theorem Ev.attrO {o : Expr} {name : PySem.Str} {x d C : Addr} {fs : List (PySem.Str × VP)} {p : VP} (G : Grd K cx.g) (O : OwnAttr K C name) (ho : Ev cx σ o (vVal (.ref x)) σ₁) (hm : RAt d (.inst x C fs) σ₁.res) (hf : At name p fs) (hh : Handed p)
    (he : eval (.Attribute o name pos) cx.env = (do
      let ov ← eval o cx.env
      standAt pos.atName
      let r ← holding [ov] (getAttr ov name true)
      letTemporaryGo o ov r
      pure r) := by with_unfolding_all rfl) : Ev cx σ (.Attribute o name pos) p σ₁ where
  like := ho.like
  vars := ho.vars
  run := fun F s ok Q E k => Attribute_any_ (ho.run F s ok _ _ fun v F₁ s₁ st₁ ok₁ r₁ => by
    cases r₁
    obtain ⟨fx, od, m, gd, dd, fa⟩ := ok₁.res.ok d _ hm.mem
    obtain ⟨u, hu, ru⟩ := fa.get hf
    exact getAttr_own (G.X.keeps ok₁.g) O (ok₁.inh _ _ fx) gd dd hu (hh _ _ ru) (k u F₁ _ (st₁.trans (.toks ok₁.inh)) (ok₁.pure (.toks ok₁.inh)) ru)) he
/-- a field of a frozen instance -/
theorem Ev.attrF {o : Expr} {name : PySem.Str} {C : Addr} {fs : List (PySem.Str × VP)} {p : VP} (G : Grd K cx.g) (O : OwnAttr K C name) (ho : Ev cx σ o (vInst C fs) σ₁) (hf : At name p fs) (hh : Handed p)
    (he : eval (.Attribute o name pos) cx.env = (do
      let ov ← eval o cx.env
      standAt pos.atName
      let r ← holding [ov] (getAttr ov name true)
      letTemporaryGo o ov r
      pure r) := by with_unfolding_all rfl) : Ev cx σ (.Attribute o name pos) p σ₁ where
  like := ho.like
  vars := ho.vars
  run := fun F s ok Q E k => Attribute_any_ (ho.run F s ok _ _ fun v F₁ s₁ st₁ ok₁ ⟨x, d, od, m, e, f1, f2, dd, fa⟩ => by
    subst e
    obtain ⟨u, hu, ru⟩ := fa.get hf
    exact getAttr_own (G.X.keeps ok₁.g) O (ok₁.inh _ _ f1) (ok₁.inh _ _ f2) dd hu (hh _ _ ru) (k u F₁ _ (st₁.trans (.toks ok₁.inh)) (ok₁.pure (.toks ok₁.inh)) ru)) he
/-- a class's value -/
theorem Ev.attrC {o : Expr} {name : PySem.Str} {C : Addr} {mc v : Value} (G : Grd K cx.g) (hr : readsIn K C mc = true) (hf : findCls K (.ref C) mc name = some (.val v)) (hh : handedIn v = true) (ho : Ev cx σ o (vVal (.ref C)) σ₁)
    (he : eval (.Attribute o name pos) cx.env = (do
      let ov ← eval o cx.env
      standAt pos.atName
      let r ← holding [ov] (getAttr ov name true)
      letTemporaryGo o ov r
      pure r) := by with_unfolding_all rfl) : Ev cx σ (.Attribute o name pos) (vVal v) σ₁ where
  like := ho.like
  vars := ho.vars
  run := fun F s ok Q E k => Attribute_any_ (ho.run F s ok _ _ fun u F₁ s₁ st₁ ok₁ r₁ => by
    cases r₁
    exact cls_value (G.X.keeps ok₁.g) hr hf hh (k v F₁ _ (st₁.trans (.toks ok₁.inh)) (ok₁.pure (.toks ok₁.inh)) rfl)) he
/-- a field stored, old or new -/
structure FPut (name : PySem.Str) (p : VP) (fs fs' : List (PySem.Str × VP)) : Prop where
  mem : ∀ y q, (y, q) ∈ fs' → (y = name ∧ q = p) ∨ (y ≠ name ∧ (y, q) ∈ fs)
  all : ∀ y, y ∉ fs'.map (·.1) → y ≠ name ∧ y ∉ fs.map (·.1)
  len : fs'.length = fs.length + 1 ∨ (fs'.length = fs.length ∧ name ∈ fs.map (·.1))
theorem FPut.old {name : PySem.Str} {p : VP} {fs fs' : List (PySem.Str × VP)} (r : Rep name p fs fs') (hn : decide (fs.map (·.1)).Nodup = true) : FPut name p fs fs' :=
  ⟨r.set (of_decide_eq_true hn), fun y hy => by rw [r.names] at hy; exact ⟨fun e => hy (e ▸ r.mem), hy⟩, .inr ⟨by have := congrArg List.length r.names; simpa using this, r.mem⟩⟩
theorem FPut.new {name : PySem.Str} {p : VP} {fs : List (PySem.Str × VP)} (hn : (fs.map (·.1)).all (fun y => !(y == name)) = true) : FPut name p fs ((name, p) :: fs) := by
  have hne : name ∉ fs.map (·.1) := fun hm => by
    have := List.all_eq_true.mp hn name hm
    simp at this
  refine ⟨fun y q hm => ?_, fun y hy => ?_, .inl rfl⟩
  · rcases List.mem_cons.mp hm with e | hm
    · cases e; exact .inl ⟨rfl, rfl⟩
    · exact .inr ⟨fun e => hne (e ▸ List.mem_map_of_mem (f := fun z : PySem.Str × VP => z.1) hm), hm⟩
  · rw [List.map_cons] at hy
    exact ⟨fun e => hy (e ▸ List.mem_cons_self), fun h => hy (List.mem_cons_of_mem _ h)⟩
theorem FieldsAre.put {F : FH} {fs fs' : List (PySem.Str × VP)} {m : PySem.Str → Option Value} {name : PySem.Str} {p : VP} {v : Value} (x : FieldsAre F fs m) (h : FPut name p fs fs') (hr : p.rd F v) : FieldsAre F fs' (fun y => if y = name then some v else m y) := by
  refine ⟨fun y q hm => ?_, fun y hy => ?_⟩
  · rcases h.mem y q hm with ⟨rfl, rfl⟩ | ⟨hne, hm⟩
    · exact ⟨v, if_pos rfl, hr⟩
    · obtain ⟨u, e, r⟩ := x.1 y q hm
      exact ⟨u, by simp only; rw [if_neg hne]; exact e, r⟩
  · obtain ⟨h1, h2⟩ := h.all y hy
    simp only; rw [if_neg h1]; exact x.2 y h2
/-- what must hold of a class for stores into its instances -/
structure OwnSet (K : Frag) (C : Addr) (name : PySem.Str) : Prop where
  set : findIn K (.ref C) "__setattr__" = some (some (.builtin "object.__setattr__"))
  over : plainOver K C = true
  taker : takerIn K C name = some none
  dict : (clsIn K C).any (·.hasDict) = true
theorem setAttr_own {prog : Program} {w : World} {A : Around} {E : Value → Shared → Prop} {s : Shared} {x d C : Addr} {od : Obj} {name : PySem.Str} {v : Value} {m : PySem.Str → Option Value} {N N' : Nat} {Q : Unit → Shared → Prop} (X : K.In s.heap) (O : OwnSet K C name)
    (hx : s.heap.get? x = some (instObj C d)) (hd : s.heap.get? d = some od) (dd : DictObj N m od) (hN : N' = N + 1 ∨ (N' = N ∧ m name ≠ none)) (hsz : N' ≤ 1000)
    (h : ∀ h' od' tk, h'.get? d = some od' → DictObj N' (fun y => if y = name then some v else m y) od' → (∀ b, b ≠ d → h'.get? b = s.heap.get? b) → Q () { s with heap := h', toks := tk }) : wpAny (model prog w) A (setAttr (.ref x) name v) Q E s := by
  have I := instAt_of hx hd
  refine set_plain X I O.set (osa_open (s := { s with toks := s.toks + 1 }) X I O.over O.taker fun b => ?_)
  obtain ⟨cd, hc, hd'⟩ := any_some O.dict
  obtain ⟨es, n, rfl, hl, hk, hf⟩ := id dd
  refine wpAny_bind (wpAny_pure (wpAny_bind (wpAny_bind (wpAny_loadPart hx (wpAny_bind ((looks_clsIn (M := model prog w) X hc) _ _ _ _ (fun _ _ e => e) ?_))))))
  rw [hd']
  refine wpAny_pure (a := some d) (wpAny_bind (wpAny_pure (wpAny_bind ?_)))
  unfold nsSet
  refine wpAny_bind (wpAny_bind (wpAny_askSetting (wpAny_pure (wpAny_bind (wpAny_mkText (wpAny_bind (wpAny_loadPart hd ?_)))))))
  have c : (!es.toArray.any (·.key.isStr name) && es.toArray.any (·.refKey)) = false := by
    have : es.any (·.refKey) = false := by
      rw [List.any_eq_false]
      intro e he
      obtain ⟨n, t, hkey⟩ := hk e (by simpa using he)
      unfold DictEntry.refKey
      rw [hkey]; simp
    rw [← Array.any_toList, ← Array.any_toList]
    show (_ && es.any (·.refKey)) = false
    rw [this, Bool.and_false]
  have d2 := fun hz : Int => dictObj_put dd name hz (s.toks + 1) v hN
  have hg : ∀ hz : Int, (s.heap.update d (Obj.putName name hz (.str name (s.toks + 1)) v)).get? d = some (Obj.putName name hz (.str name (s.toks + 1)) v (dictOf es n)) := fun hz => by
    obtain ⟨es2, n2, e2, _⟩ := d2 hz
    exact Heap.get?_update_self _ hd (by rw [e2]; rfl)
  dsimp only [dictOf]
  rw [aRefKeyMayBeTheName_at, c]
  refine wpAny_updatePart hd ?_
  generalize (if name.cps.isEmpty = true then (0 : Int) else _) = hz
  obtain ⟨es2, n2, e2, hl2, _, _⟩ := id (d2 hz)
  refine wpAny_bind (wpAny_lookBehind ((hg hz).trans (congrArg some e2)) (by exact pastItsLine_dict (by rw [List.size_toArray, sizeLine_is]; first | lia | omega)) ?_)
  exact wpAny_pure (h _ _ _ (hg hz) (d2 hz) fun b hb => (Heap.SameBut.update ..).2 b hb)
end Mine
namespace Mine
open PySem PySem.W PySem.Calls PyProof.Rows Builtin Builtin.Str Builtin.Int
variable {cx : Cx} {σ σ₁ σ₂ σ₃ : St} {pos : Pos} {P P' : Out → Prop} {K : Frag}
/-- a store into an owned instance -/
theorem StOK.setAttr {F s} {x d C : Addr} {fs fs' : List (PySem.Str × VP)} {R' : Res} {name : PySem.Str} {p : VP} {v : Value} (G : Grd K cx.g) (O : OwnSet K C name) (ok : StOK cx F s σ) (r : RSet d (.inst x C fs) (.inst x C fs') σ.res R') (fp : FPut name p fs fs') (hsz : fs'.length ≤ 1000) (hr : p.rd F v)
    {Q : Unit → Shared → Prop} {E : Value → Shared → Prop} (k : ∀ s', Step σ.res.has F s F s' → StOK cx F s' { vars := σ.vars, res := R' } → Q () s') : wpAny (model cx.prog cx.w) cx.A (setAttr (.ref x) name v) Q E s := by
  obtain ⟨fx, od, m, gd, dd, fa⟩ := ok.res.ok d _ r.mem
  have hN : fs'.length = fs.length + 1 ∨ (fs'.length = fs.length ∧ m name ≠ none) := fp.len.imp id fun ⟨h1, h2⟩ => ⟨h1, fun hn => by
    obtain ⟨⟨y, q⟩, hy, e0⟩ := List.mem_map.mp h2
    obtain ⟨u, e, _⟩ := fa.1 y q hy
    rw [show y = name from e0, hn] at e; cases e⟩
  refine setAttr_own (G.X.keeps ok.g) O (ok.inh _ _ fx) gd dd hN hsz fun h' od' tk g' d' hs => ?_
  · obtain ⟨st, ok'⟩ := ok.turn (tk := tk) r hs (c' := .inst x C fs') ⟨fx, od', _, g', d', fa.put fp hr⟩
    exact k _ st ok'
theorem Exs.setAttr {o value : Expr} {pp : Pos} {name : PySem.Str} {x d C : Addr} {fs fs' : List (PySem.Str × VP)} {R' : Res} {p : VP} {rest : List Stmt} (G : Grd K cx.g) (O : OwnSet K C name) (hv : Ev cx σ value p σ₁) (ho : Ev cx σ₁ o (vVal (.ref x)) σ₂)
    (r : RSet d (.inst x C fs) (.inst x C fs') σ₂.res R') (fp : FPut name p fs fs') (hsz : fs'.length ≤ 1000) (h : Exs cx { vars := σ₂.vars, res := R' } rest P)
    (hs : swapsWith value (some (.Attribute o name pp)) pos.line cx.env = pure false := by with_unfolding_all rfl) : Exs cx σ (.Assign [.Attribute o name pp] value pos :: rest) P := .cons fun F s ok Q E k =>
  plainObj_wpAny_Assign_Attribute (hv.run F s ok _ _ fun v F₁ s₁ st₁ ok₁ r₁ => ho.run F₁ s₁ ok₁ _ _ fun u F₂ s₂ st₂ ok₂ r₂ => by
    cases r₂
    exact ok₂.setAttr G O r fp hsz (p.mono st₂.sub r₁) fun s' st' ok' => k .next F₂ s' (.nx _) (st₁.sub.trans st₂.sub) ok' h) hs
theorem Exs.setAttrN {o value : Expr} {pp : Pos} {name : PySem.Str} {x d C : Addr} {fs : List (PySem.Str × VP)} {fs' : Addr → List (PySem.Str × VP)} {ps : List VP} {rest : List Stmt} (G : Grd K cx.g) (O : OwnSet K C name) (hv : EvN cx σ value ps σ₁)
    (h : ∀ a : Addr, cx.s0.heap.get? a = none → ∃ R', Ev cx { vars := σ₁.vars, res := (a, .lst ps) :: σ₁.res } o (vVal (.ref x)) { vars := σ₁.vars, res := (a, .lst ps) :: σ₁.res } ∧ RSet d (.inst x C fs) (.inst x C (fs' a)) ((a, .lst ps) :: σ₁.res) R' ∧ FPut name (vVal (.ref a)) fs (fs' a) ∧ (fs' a).length ≤ 1000 ∧ Exs cx { vars := σ₁.vars, res := R' } rest P)
    (hs : swapsWith value (some (.Attribute o name pp)) pos.line cx.env = pure false := by with_unfolding_all rfl) : Exs cx σ (.Assign [.Attribute o name pp] value pos :: rest) P := .cons fun F s ok Q E k =>
  plainObj_wpAny_Assign_Attribute (hv.run F s ok _ _ fun F₁ s₁ st₁ ok₁ a ob vs h' tk hk hn hg hl hr => by
    have h0 : cx.s0.heap.get? a = none := by
      cases q : cx.s0.heap.get? a with
      | none => rfl
      | some ob => obtain ⟨o', e⟩ := ok₁.base.live a ob q; rw [hn] at e; cases e
    obtain ⟨R', ho, r, fp, hsz, hx⟩ := h a h0
    refine ho.run F₁ _ (ok₁.own hk hn hg hl hr) _ _ fun u F₂ s₂ st₂ ok₂ r₂ => ?_
    cases r₂
    exact ok₂.setAttr G O r fp hsz rfl fun s' st' ok' => k .next F₂ s' (.nx _) (st₁.sub.trans st₂.sub) ok' hx) hs
/-- an op-assignment to a field -/
theorem Exs.augAttr {o e : Expr} {pp : Pos} {op : Operator} {name : PySem.Str} {x d C : Addr} {fs fs' : List (PySem.Str × VP)} {R' : Res} {p q r : VP} {rest : List Stmt} (G : Grd K cx.g) (O : OwnAttr K C name) (OS : OwnSet K C name) (ho : Ev cx σ o (vVal (.ref x)) σ) (hm : RAt d (.inst x C fs) σ.res) (hf : At name p fs) (hh : Handed p)
    (he : Ev cx σ e q σ) (hop : ∀ F s v u, StOK cx F s σ → p.rd F v → q.rd F u → Gv cx (inplaceOp op v u) F s r.rd) (rs : RSet d (.inst x C fs) (.inst x C fs') σ.res R') (fp : FPut name r fs fs') (hsz : fs'.length ≤ 1000) (h : Exs cx { vars := σ.vars, res := R' } rest P) :
    Exs cx σ (.AugAssign (.Attribute o name pp) op e pos :: rest) P := .cons fun F s ok Q E k =>
  wpAny_AugAssign_AttributeAny (ho.run F s ok _ _ fun v F₁ s₁ st₁ ok₁ r₁ => by
    cases r₁
    obtain ⟨fx, od, m, gd, dd, fa⟩ := ok₁.res.ok d _ hm.mem
    obtain ⟨u, hu, ru⟩ := fa.get hf
    have okt : StOK cx F₁ { s₁ with toks := s₁.toks + 1 } σ := ok₁.pure (.toks ok₁.inh)
    refine getAttr_own (G.X.keeps ok₁.g) O (ok₁.inh _ _ fx) gd dd hu (hh _ _ ru) (he.run F₁ _ okt _ _ fun z F₂ s₂ st₂ ok₂ r₂ => ?_)
    refine hop F₂ s₂ u z ok₂ (p.mono st₂.sub ru) r₂ _ _ fun nw F₃ s₃ st₃ r₃ => ?_
    exact (ok₂.pure st₃).setAttr G OS rs fp hsz r₃ fun s' st' ok' => k .next F₃ s' (.nx _) ((st₁.sub.trans st₂.sub).trans st₃.sub) ok' h)
/-- a method of a class -/
structure MethOf (K : Frag) (C : Addr) (name : PySem.Str) (f : Addr) : Prop where
  get : plainGet K C name = true
  find : findIn K (.ref C) name = some (some (.ref f))
  fn : typeIn K (.ref f) = some (.type "function")
theorem getMethod_own {prog : Program} {w : World} {A : Around} {E : Value → Shared → Prop} {s : Shared} {x d C f : Addr} {od : Obj} {name : PySem.Str} {m : PySem.Str → Option Value} {N : Nat} {pl : Sem Bool} {Q : Value × List Value → Shared → Prop} (X : K.In s.heap) (M : MethOf K C name f)
    (hx : s.heap.get? x = some (instObj C d)) (hd : s.heap.get? d = some od) (dd : DictObj N m od) (hm : m name = none) (h : Q (.ref f, [.ref x]) s) : wpAny (model prog w) A (getMethod (.ref x) name pl) Q E s := by
  obtain ⟨es, n, rfl, _, hk, hf⟩ := dd
  exact method_fn X (instAt_of hx hd) (plainGet_of M.get).1 (plainGet_of M.get).2 M.find M.fn (by unfold shadowIn; dsimp only; rw [lookIn_dict, getL_of hk ((hf name).trans hm)]; rfl) h
/-- what a value's method is -/
noncomputable def HasMeth (cx : Cx) (σ : St) (p : VP) (name : PySem.Str) (f : Addr) : Prop :=
  ∀ F s v, StOK cx F s σ → p.rd F v → ∀ (pl : Sem Bool) (Q : Value × List Value → Shared → Prop) (E : Value → Shared → Prop), Q (.ref f, [v]) s → wpAny (model cx.prog cx.w) cx.A (getMethod v name pl) Q E s
theorem HasMeth.owned {x d C f : Addr} {fs : List (PySem.Str × VP)} {name : PySem.Str} (G : Grd K cx.g) (M : MethOf K C name f) (hm : RAt d (.inst x C fs) σ.res) (hn : (fs.map (·.1)).all (fun y => !(y == name)) = true) : HasMeth cx σ (vVal (.ref x)) name f := fun F s v ok r pl Q E h => by
  cases r
  obtain ⟨fx, od, m, gd, dd, fa⟩ := ok.res.ok d _ hm.mem
  refine getMethod_own (G.X.keeps ok.g) M (ok.inh _ _ fx) gd dd (fa.2 name fun q => ?_) h
  have := List.all_eq_true.mp hn name q
  simp at this
theorem HasMeth.frozen {C f : Addr} {fs : List (PySem.Str × VP)} {name : PySem.Str} (G : Grd K cx.g) (M : MethOf K C name f) (hn : (fs.map (·.1)).all (fun y => !(y == name)) = true) : HasMeth cx σ (vInst C fs) name f := fun F s v ok ⟨x, d, od, m, e, f1, f2, dd, fa⟩ pl Q E h => by
  subst e
  refine getMethod_own (G.X.keeps ok.g) M (ok.inh _ _ f1) (ok.inh _ _ f2) dd (fa.2 name fun q => ?_) h
  have := List.all_eq_true.mp hn name q
  simp at this
/-- is a def of the text -/
noncomputable def IsF (K : Frag) (a : Addr) : Prop := ∃ o fd, K.lookup a = some o ∧ o.data = .func fd
/-- a call of a method -/
theorem Ev.callM {o : Expr} {name : PySem.Str} {ap : Pos} {e : Expr} {rest : List Expr} {f : Addr} {d : Nat} {ps : List VP} {R R' res' : Res} {p q : VP} (G : Grd K cx.g) (fo : IsF K f) (ho : Ev cx σ o p σ₁) (hm : HasMeth cx σ₁ p name f)
    (ha : EvAll cx σ₁ pos (e :: rest) ps σ₂) (hc : FnD cx.prog cx.w cx.g (.ref f) d (p :: ps) R q R') (rm : Room cx.A d) (up : Upd R R' σ₂.res res')
    (he : starEach (e :: rest) cx.env = (false, eval e cx.env) :: starEach rest cx.env := by with_unfolding_all rfl)
    (hk : ∃ pl, eval (.Call (.Attribute o name ap) (e :: rest) [] pos) cx.env = (do
      let ov ← eval o cx.env
      standAt ap.atName
      let (f, first) ← holding [ov] (getMethod ov name pl)
      callWith pos f first (backTo pos (starEach (e :: rest) cx.env)) (backToKw pos (keywordEach [] cx.env))) := by exact ⟨_, by with_unfolding_all rfl⟩) :
    Ev cx σ (.Call (.Attribute o name ap) (e :: rest) [] pos) q { vars := σ₂.vars, res := res' } where
  like := up.like.trans (ha.like.trans ho.like)
  vars := ha.vars.trans ho.vars
  run := fun F s ok Q E k => by
    obtain ⟨pl, hk⟩ := hk
    refine methodCall_KW (pl := pl) (ho.run F s ok _ _ fun v F₁ s₁ st₁ ok₁ r₁ => hm F₁ s₁ v ok₁ r₁ _ _ _ ?_) hk
    obtain ⟨ob, fd, hob, hfd⟩ := fo
    refine callWith_function (o := ob) (fd := fd) ?_
    refine evalArgs_all (ha.run F₁ s₁ ok₁ _ _ fun vs F₂ s₂ st₂ ok₂ r₂ => ?_) he
    refine ⟨⟨ok₂.g _ _ (G.X _ _ hob), hfd⟩, wpAny_call (hc cx.A F₂ s₂ (v :: vs) rm ok₂.gF ok₂.inh (ok₂.res.sub up.sub) (.cons (p.mono st₂.sub r₁) r₂) _ fun u F₃ s₃ q' S ⟨e1, e2⟩ st₃ r₃ hr₃ _ => ?_)⟩
    subst e1; subst e2
    obtain ⟨st', ok₃⟩ := ok₂.called up st₃ hr₃
    exact k u F₃ s₃ (st₁.trans ((has_like ho.like ▸ st₂).trans (has_like (ha.like.trans ho.like) ▸ st'))) ok₃ r₃
theorem Ev.callM0 {o : Expr} {name : PySem.Str} {ap : Pos} {f : Addr} {d : Nat} {R R' res' : Res} {p q : VP} (G : Grd K cx.g) (fo : IsF K f) (ho : Ev cx σ o p σ₁) (hm : HasMeth cx σ₁ p name f)
    (hc : FnD cx.prog cx.w cx.g (.ref f) d [p] R q R') (rm : Room cx.A d) (up : Upd R R' σ₁.res res')
    (hk : ∃ pl, eval (.Call (.Attribute o name ap) [] [] pos) cx.env = (do
      let ov ← eval o cx.env
      standAt ap.atName
      let (f, first) ← holding [ov] (getMethod ov name pl)
      callWith pos f first (backTo pos (starEach [] cx.env)) (backToKw pos (keywordEach [] cx.env))) := by exact ⟨_, by with_unfolding_all rfl⟩) :
    Ev cx σ (.Call (.Attribute o name ap) [] [] pos) q { vars := σ₁.vars, res := res' } where
  like := up.like.trans ho.like
  vars := ho.vars
  run := fun F s ok Q E k => by
    obtain ⟨pl, hk⟩ := hk
    refine methodCall_KW (pl := pl) (ho.run F s ok _ _ fun v F₁ s₁ st₁ ok₁ r₁ => hm F₁ s₁ v ok₁ r₁ _ _ _ ?_) hk
    obtain ⟨ob, fd, hob, hfd⟩ := fo
    refine callWith_function (o := ob) (fd := fd) ?_
    refine PySem.evalArgs_none ?_
    refine ⟨⟨ok₁.g _ _ (G.X _ _ hob), hfd⟩, wpAny_call (hc cx.A F₁ s₁ [v] rm ok₁.gF ok₁.inh (ok₁.res.sub up.sub) (.cons r₁ .nil) _ fun u F₃ s₃ q' S ⟨e1, e2⟩ st₃ r₃ hr₃ _ => ?_)⟩
    subst e1; subst e2
    obtain ⟨st', ok₃⟩ := ok₁.called up st₃ hr₃
    exact k u F₃ s₃ (st₁.trans (has_like ho.like ▸ st')) ok₃ r₃
end Mine
namespace Mine
open PySem PySem.W PySem.Calls PyProof.Rows Builtin Builtin.Str Builtin.Int
variable {cx : Cx} {σ σ₁ σ₂ σ₃ : St} {pos : Pos} {P P' : Out → Prop} {K : Frag}
/-- a class of the text, its __init__ -/
structure IsCls (K : Frag) (C fI : Addr) : Prop where
  makes : makesIn K C = true
  init : findIn K (.ref C) "__init__" = some (some (.ref fI))
  fn : typeIn K (.ref fI) = some (.type "function")
theorem room_under {A : Around} {d : Nat} {C : Addr} {vs : List Value} (h : Room A (d + 2)) : Room (A.under (.builtin "type.__call__" ⟨.ref C :: vs, []⟩)) d := by
  have w : (Code.builtin "type.__call__" ⟨.ref C :: vs, []⟩).weight ≤ 2 := by
    have : (Code.builtin "type.__call__" ⟨.ref C :: vs, []⟩).weight = (Code.builtin "type.__call__" ⟨[.ref 0], []⟩).weight := by rfl
    rw [this]; decide
  have u : (Code.builtin "type.__call__" ⟨.ref C :: vs, []⟩).cUnits ≤ 20 := by
    have : (Code.builtin "type.__call__" ⟨.ref C :: vs, []⟩).cUnits = (Code.builtin "type.__call__" ⟨[.ref 0], []⟩).cUnits := by rfl
    rw [this]; decide
  refine ⟨h.hh, ?_, ?_⟩
  · have := h.depth; show A.depth + _ + d ≤ 990; first | lia | omega
  · have := h.units; show A.units + _ + 10 * d ≤ 9800; first | lia | omega
theorem cls_core {prog : Program} {w : World} {g : Heap} {C fI : Addr} {d : Nat} {ps : List VP} {R : Res} {P' : Addr → Addr → Res → Prop} (G : Grd K g) (c : IsCls K C fI)
    (h : ∀ x dx : Addr, FnR prog w g (.ref fI) d (vVal (.ref x) :: ps) ((dx, .inst x C []) :: R) fun q S => q = vVal .none ∧ P' x dx S)
    (A : Around) (F : FH) (s : Shared) (vs : List Value) (rm : Room A (d + 2)) (hg : ∀ b o, g.get? b = some o → F b = some o) (hi : Inh F s.heap) (hR : ResOK F s.heap R) (hr : Rds F ps vs) (RR : Result → Shared → Prop)
    (k : ∀ F' s' x dx S, s.heap.get? dx = none → P' x dx S → Step R.has F s F' s' → ResOK F' s'.heap S → (∀ a, S.has a → R.has a ∨ s.heap.get? a = none) → RR (.ok (.ret (.ref x))) s') :
    codeAny (model prog w) A (.call (.ref C) ⟨vs, []⟩) RR s := by
  have hgs : ∀ b o, g.get? b = some o → s.heap.get? b = some o := fun b o e => hi _ _ (hg b o e)
  have X := G.X.keeps hgs
  obtain ⟨hh, g', d', t, os⟩ := s
  refine make_core (makes_of X c.makes) (looks_findIn X c.init) (fun self => bind_fn X self c.fn) (.inl rfl) ?_
  have nD : hh.get? hh.objs.size = none := get_size _
  have nX : hh.get? (hh.objs.size + 1) = none := get_ge (Nat.le_succ _)
  have kp : ∀ b o, hh.get? b = some o → ((hh.push emptyDict).push (instObj C hh.objs.size)).get? b = some o := fun b o e => Heap.get?_push_of_some _ (Heap.get?_push_of_some _ e)
  have gD : ((hh.push emptyDict).push (instObj C hh.objs.size)).get? hh.objs.size = some emptyDict := Heap.get?_push_of_some _ (Heap.get?_push_size _ rfl)
  have gX : ((hh.push emptyDict).push (instObj C hh.objs.size)).get? (hh.objs.size + 1) = some (instObj C hh.objs.size) := by
    have := Heap.get?_push_size (hh.push emptyDict) (o := instObj C hh.objs.size) rfl
    rw [Heap.size_push] at this; exact this
  generalize hDe : hh.objs.size = D at *
  have fmn : ∀ {a : Addr}, hh.get? a = none → F a = none := fun z => none_of_fresh hi z
  have st : Step (fun _ => False) F ⟨hh, g', d', t, os⟩ (F.set (D + 1) (instObj C D)) ⟨(hh.push emptyDict).push (instObj C D), g', d', t, os⟩ := Step.freeze (s := ⟨hh, g', d', t, os⟩) hi kp nX gX
  have hR' : ResOK (F.set (D + 1) (instObj C D)) ((hh.push emptyDict).push (instObj C D)) ((D, .inst (D + 1) C []) :: R) := by
    have h0 := hR.step st fun _ _ q => q
    refine ⟨fun a ce hm => ?_, fun a ce hm => ?_, ?_⟩
    · rcases List.mem_cons.mp hm with e | hm
      · cases e
        exact ⟨FH.set_at .., emptyDict, fun _ => none, gD, ⟨[], 0, rfl, Nat.le_refl _, (fun e he => by simp at he), fun _ => rfl⟩, ⟨fun _ _ h => (List.not_mem_nil h).elim, fun _ _ => rfl⟩⟩
      · exact h0.ok a ce hm
    · rcases List.mem_cons.mp hm with e | hm
      · cases e
        rw [FH.set_ne (by show (D : Nat) ≠ D + 1; first | lia | omega)]; exact fmn nD
      · exact h0.off a ce hm
    · refine List.nodup_cons.mpr ⟨fun hm => ?_, h0.nodup⟩
      obtain ⟨⟨b, ce⟩, hm', e⟩ := List.mem_map.mp hm
      obtain ⟨o, ho⟩ := (hR.ok b ce hm').ex
      rw [show b = D from e] at ho
      have : hh.get? D = some o := ho
      rw [nD] at this; cases this
  refine h (D + 1) D _ _ _ (.ref (D + 1) :: vs) (room_under rm) (fun b o e => st.sub _ _ (hg b o e)) st.inh hR' (.cons rfl (hr.mono st.sub)) _ fun v F2 s2 q S ⟨hq, hP⟩ st2 r2 res2 fr2 => ?_
  subst hq
  cases r2
  refine ⟨rfl, k F2 s2 (D + 1) D S nD hP ?_ res2 fun a ha => ?_⟩
  · refine ⟨st.sub.trans st2.sub, st2.inh, fun a o e n => ?_, fun a o wn e => ?_, fun a o e => ?_, st2.gens, st2.os⟩
    · exact st2.fresh a o (kp a o e) (st.fresh a o e n)
    · refine st2.keep a o (fun q => ?_) (kp a o e)
      unfold Res.has at q
      rw [List.map_cons] at q
      rcases List.mem_cons.mp q with z | z
      · rw [show a = D from z] at e
        have : hh.get? D = some o := e
        rw [nD] at this; cases this
      · exact wn z
    · exact st2.live a o (kp a o e)
  · rcases fr2 a ha with z | z
    · unfold Res.has at z
      rw [List.map_cons] at z
      rcases List.mem_cons.mp z with e | z
      · exact .inr (by rw [show a = D from e]; exact nD)
      · exact .inl z
    · refine .inr ?_
      cases q : hh.get? a with
      | none => rfl
      | some o =>
        have := kp a o q
        have z' : ((hh.push emptyDict).push (instObj C D)).get? a = none := z
        rw [z'] at this; cases this
theorem FnR.cls {prog : Program} {w : World} {g : Heap} {C fI : Addr} {d : Nat} {ps : List VP} {R : Res} {P' : Addr → Addr → Res → Prop} (G : Grd K g) (c : IsCls K C fI)
    (h : ∀ x dx : Addr, FnR prog w g (.ref fI) d (vVal (.ref x) :: ps) ((dx, .inst x C []) :: R) fun q S => q = vVal .none ∧ P' x dx S) : FnR prog w g (.ref C) (d + 2) ps R fun q S => ∃ x dx, q = vVal (.ref x) ∧ P' x dx S :=
  fun A F s vs rm hg hi hR hr RR k => cls_core G c h A F s vs rm hg hi hR hr RR fun F' s' x dx S _ hP st hr' fr => k (.ref x) F' s' _ S ⟨x, dx, rfl, hP⟩ st rfl hr' fr
/-- an instance frozen as soon as it is made -/
theorem FnR.clsF {prog : Program} {w : World} {g : Heap} {C fI : Addr} {d : Nat} {ps : List VP} {R R' : Res} {fs : List (PySem.Str × VP)} (G : Grd K g) (c : IsCls K C fI)
    (h : ∀ x dx : Addr, FnR prog w g (.ref fI) d (vVal (.ref x) :: ps) ((dx, .inst x C []) :: R) fun q S => q = vVal .none ∧ S = (dx, .inst x C fs) :: R') : FnD prog w g (.ref C) (d + 2) ps R (vInst C fs) R' :=
  fun A F s vs rm hg hi hR hr RR k => cls_core (P' := fun x dx S => S = (dx, .inst x C fs) :: R') G c h A F s vs rm hg hi hR hr RR fun F2 s2 x dx S nD hS st2 res2 fr2 => by
    subst hS
    obtain ⟨fx, od, m, gd, dd, fa⟩ := res2.ok dx _ List.mem_cons_self
    have hF := res2.off dx _ List.mem_cons_self
    have sb := FH.set_sub (o := od) hF
    have hnd := res2.nodup
    rw [List.map_cons] at hnd
    refine k (.ref x) (F2.set dx od) s2 _ R' ⟨rfl, rfl⟩ (st2.thaw nD hF gd) ⟨x, dx, od, m, rfl, sb _ _ fx, FH.set_at .., dd, fa.mono sb⟩ ⟨fun a ce hm => CellOK.mono sb (res2.ok a ce (List.mem_cons_of_mem _ hm)), fun a ce hm => ?_, (List.nodup_cons.mp hnd).2⟩ fun a ha => fr2 a (by unfold Res.has; rw [List.map_cons]; exact List.mem_cons_of_mem _ ha)
    rw [FH.set_ne fun q => (List.nodup_cons.mp hnd).1 (by rw [← q]; exact List.mem_map.mpr ⟨_, hm, rfl⟩)]
    exact res2.off a ce (List.mem_cons_of_mem _ hm)
/-- a call of a class by its name -/
theorem Ev.callC {x : PySem.Str} {np : Pos} {C : Addr} {e : Expr} {rest : List Expr} {d : Nat} {ps : List VP} {R R' res' : Res} {p : VP} (G : Grd K cx.g) (hk : keepIn K (.ref C) = true) (hf : Ev cx σ (.Name x np) (vVal (.ref C)) σ)
    (ha : EvAll cx σ pos (e :: rest) ps σ₁) (hc : FnD cx.prog cx.w cx.g (.ref C) d ps R p R') (rm : Room cx.A d) (up : Upd R R' σ₁.res res')
    (he : starEach (e :: rest) cx.env = (false, eval e cx.env) :: starEach rest cx.env := by with_unfolding_all rfl) (hp : (backTo pos (starEach (e :: rest) cx.env)).any (·.1) = false := by with_unfolding_all rfl) :
    Ev cx σ (.Call (.Name x np) (e :: rest) [] pos) p { vars := σ₁.vars, res := res' } where
  like := up.like.trans ha.like
  vars := ha.vars
  run := fun F s ok Q E k => wpAny_Call_Name_kw (hf.run F s ok _ _ fun v F₁ s₁ st₁ ok₁ r₁ => by
    cases r₁
    refine callWith_KW (kws := []) (h₀ := cx.g) G.X hk rfl (ha.run F₁ s₁ ok₁ _ _ fun vs F₂ s₂ st₂ ok₂ r₂ => ?_) (by rw [hp]; rfl) he
    refine wpAny_pure ⟨G.X.keeps ok₂.g, ?_⟩
    refine wpAny_call (hc cx.A F₂ s₂ vs rm ok₂.gF ok₂.inh (ok₂.res.sub up.sub) r₂ _ fun v F₃ s₃ q S ⟨e1, e2⟩ st₃ r₃ hr₃ _ => ?_)
    subst e1; subst e2
    obtain ⟨st', ok₃⟩ := ok₂.called up st₃ hr₃
    exact k v F₃ s₃ (st₁.trans (st₂.trans (has_like ha.like ▸ st'))) ok₃ r₃)
end Mine
namespace Mine
open PySem PySem.W PySem.Calls PyProof.Rows Builtin Builtin.Str Builtin.Int
variable {cx : Cx} {σ σ₁ σ₂ σ₃ : St} {pos : Pos} {P P' : Out → Prop} {K : Frag}
/-- branches that meet -/
noncomputable def Meet (M : St → Prop) (P : Out → Prop) : Out → Prop
  | .nx σ' => ∃ σ'', Wk σ' σ'' ∧ M σ''
  | o => P o
theorem Exs.iffM {t : Expr} {b o rest : List Stmt} {c : Bool} (M : St → Prop) (ht : Tst cx σ t c σ₁) (hb : c = true → Exs cx σ₁ b (Meet M P)) (ho : c = false → Exs cx σ₁ o (Meet M P)) (hr : ∀ σ', M σ' → Exs cx σ' rest P) :
    Exs cx σ (.If t b o pos :: rest) P := by
  have conv : ∀ o, Meet M P o → Then cx rest P o := fun o h => by
    cases o with
    | nx σ' => obtain ⟨σ'', w, m⟩ := h; exact Exs.wk w (hr σ'' m)
    | _ => exact h
  exact .iff ht (fun h => (hb h).mono conv) fun h => (ho h).mono conv
/-- sums of lists, products -/
theorem EvN.addL {a b : Expr} {ps qs : List VP} (ha : Ev cx σ a (vSrc σ ps) σ) (hb : EvN cx σ b qs σ) (hsz : ps.length + qs.length ≤ sizeLine) : EvN cx σ (.BinOp a .Add b pos) (ps ++ qs) σ := .add ha hb.ev.src hsz
theorem Ev.srcRL {e : Expr} {a : Addr} {ps : List VP} (h : Ev cx σ e (vVal (.ref a)) σ₁) (hm : RAt a (.lst ps) σ₁.res) : Ev cx σ e (vSrc σ₁ ps) σ₁ := .srcR h hm.mem
theorem Ev.attrCS {o : Expr} {name : PySem.Str} {C : Addr} {mc : Value} {y : PySem.Str} {tk : Tok} {l : List Nat} (G : Grd K cx.g) (hr : readsIn K C mc = true) (hf : findCls K (.ref C) mc name = some (.val (.str y tk))) (hl : y.cps.toList = l) (ho : Ev cx σ o (vVal (.ref C)) σ₁)
    (he : eval (.Attribute o name pos) cx.env = (do
      let ov ← eval o cx.env
      standAt pos.atName
      let r ← holding [ov] (getAttr ov name true)
      letTemporaryGo o ov r
      pure r) := by with_unfolding_all rfl) : Ev cx σ (.Attribute o name pos) (vStr l) σ₁ :=
  (Ev.attrC G hr hf rfl ho he).conv fun F v r => ⟨tk, by rw [show v = _ from r, ← hl]; exact congrArg (Value.str · tk) (S2L y).symm⟩
/-- a for whose break and whose end meet -/
noncomputable def TurnB (next done : St → Prop) (P : Out → Prop) : Out → Prop
  | .nx σ' => ∃ σ'', Wk σ' σ'' ∧ next σ''
  | .ct σ' => ∃ σ'', Wk σ' σ'' ∧ next σ''
  | .bk σ' => ∃ σ'', Wk σ' σ'' ∧ done σ''
  | .rt p R => P (.rt p R)
theorem Exs.forB {target e : Expr} {body rest : List Stmt} {ps : List VP} (hi : EvIter cx σ e target ps [] σ₁) (Inv : Nat → St → Prop) (Done : St → Prop) (h0 : ∃ σ', Wk σ₁ σ' ∧ Inv 0 σ')
    (body_ : ∀ k p pv σk, ps[k]? = some p → Inv k σk → ∃ σt, As (cx.with_ pv) σk target p σt ∧ Exs (cx.with_ pv) σt body (TurnB (Inv (k + 1)) Done P))
    (fin : ∀ σk, Inv ps.length σk → ∃ σ'', Wk σk σ'' ∧ Done σ'') (after : ∀ σd, Done σd → Exs cx σd rest P)
    (hs : ∀ x, foldedSetIterable e cx.env x = pure x := by intro _; with_unfolding_all rfl) : Exs cx σ (.For target e body [] pos :: rest) P :=
  .forI hi Inv h0 (fun k p pv σk hp hk => by
    obtain ⟨σt, a, b⟩ := body_ k p pv σk hp hk
    refine ⟨σt, a, b.mono fun o h => ?_⟩
    cases o with
    | bk σ' => obtain ⟨σ'', w, d⟩ := h; exact Exs.wk w (after σ'' d)
    | _ => exact h) (fun σk hk => by obtain ⟨σ'', w, d⟩ := fin σk hk; exact Exs.wk w (after σ'' d)) hs
theorem Exs.putItem {o i value : Expr} {pp : Pos} {a : Addr} {ps : List VP} {p : VP} {k : Nat} {R' : Res} {rest : List Stmt} (qs : List VP) (hv : Ev cx σ value p σ) (ho : Ev cx σ o (vVal (.ref a)) σ) (hi : Ev cx σ i (vInt (k : Int)) σ)
    (r : RSet a (.lst ps) (.lst qs) σ.res R') (hk : k < ps.length) (hq : ps.set k p = qs) (hsz : ps.length ≤ sizeLine) (h : Exs cx { vars := σ.vars, res := R' } rest P)
    (hs : swapsWith value (some (.Subscript o i pp)) pos.line cx.env = pure false := by with_unfolding_all rfl) : Exs cx σ (.Assign [.Subscript o i pp] value pos :: rest) P := .setItem hv ho hi hk (hq ▸ r) hsz h hs
theorem strs_at {x : List Nat} {k : Nat} {p : VP} (h : (vStrs (x.map fun c => [c]))[k]? = some p) : ∃ c, x[k]? = some c ∧ p = vStr [c] := by
  unfold vStrs at h
  rw [List.map_map, List.getElem?_map] at h
  obtain ⟨c, hc, rfl⟩ := Option.map_eq_some_iff.mp h
  exact ⟨c, hc, rfl⟩
theorem strs_len {x : List Nat} : (vStrs (x.map fun c => [c])).length = x.length := by simp [vStrs]
theorem drop_at {α : Type} {x : List α} {k : Nat} {c : α} (h : x[k]? = some c) : x.drop k = c :: x.drop (k + 1) := by
  obtain ⟨hk, rfl⟩ := List.getElem?_eq_some_iff.mp h
  exact List.drop_eq_getElem_cons hk
theorem Ev.lenT {x : PySem.Str} {np : Pos} {e : Expr} {ps : List VP} (hf : Ev cx σ (.Name x np) (vVal (.builtin "len")) σ) (h : Ev cx σ e (vTup ps) σ) (hsz : ps.length ≤ sizeLine)
    (he : starEach [e] cx.env = [(false, PySem.eval e cx.env)] := by with_unfolding_all rfl) : Ev cx σ (.Call (.Name x np) [e] [] pos) (vInt ps.length) σ :=
  .callB hf (.cons h .nil he) (fun F s vs ok r => by
    obtain ⟨v, rfl, a, o, us, rfl, f, ⟨n, rfl⟩, rv⟩ := r.one
    rw [sizeLine_is] at hsz
    exact fun Q E k => PyProof.Rows.len_tuple ⟨_, ok.inh _ _ f, rfl, n, rfl⟩ (by rw [List.size_toArray, rv.length]; first | lia | omega) (k _ F _ (.toks ok.inh) ⟨_, by rw [List.size_toArray, rv.length]⟩)) he rfl
/-- a range of naturals -/
theorem EvIter.rangeN {e target : Expr} {a b : Nat} (h : Ev cx σ e (vRange (a : Int) (b : Int) 1) σ₁) (ht : Calm target) (ha : a < 2 ^ 30) (hb : b < 2 ^ 30) : EvIter cx σ e target ((List.range (b - a)).map fun (i : Nat) => vInt ((a + i : Nat) : Int)) [] σ₁ := by
  have := EvIter.range (n := b - a) h ht (small_one (by first | lia | omega) (by first | lia | omega) (by first | lia | omega) (by first | lia | omega)) (by rw [rangeSize_nat]; first | lia | omega)
  have e1 : ((List.range (b - a)).map fun (i : Nat) => vInt ((a : Int) + (i : Int) * 1)) = (List.range (b - a)).map fun (i : Nat) => vInt ((a + i : Nat) : Int) := by
    apply List.map_congr_left
    intro i _
    congr 1
    push_cast; first | lia | omega
  rw [e1] at this; exact this
theorem rangeN_at {a n k : Nat} {p : VP} (h : ((List.range n).map fun (i : Nat) => vInt ((a + i : Nat) : Int))[k]? = some p) : k < n ∧ p = vInt ((a + k : Nat) : Int) := by
  rw [List.getElem?_map] at h
  obtain ⟨z, hz, rfl⟩ := Option.map_eq_some_iff.mp h
  have hk : k < n := by simpa using (List.getElem?_eq_some_iff.mp hz).1
  rw [List.getElem?_range hk] at hz
  cases hz; exact ⟨hk, rfl⟩
theorem mulOk {a b : Int} (h : a.natAbs < 2 ^ 64 ∨ b.natAbs < 2 ^ 64) : IntMulOk a b := by
  rcases h with h | h
  · exact .of_left (intBits_le_64 (by omega) (by omega))
  · exact .of_right (intBits_le_64 (by omega) (by omega))
end Mine
namespace Mine
open PySem PySem.W PySem.Calls PyProof.Rows Builtin
open Sem (wp)
/-! the iterator that calls -/
theorem slot_cin : Slot "callable_iterator" "__next__" "callable_iterator.__next__" :=
  .of (owner := "callable_iterator") (n := "__next__") (by rw [typeLookup_type, builtinLookup_eq_fast]; kernel_rfl) (by decide +kernel) (by decide +kernel) (by decide +kernel)
    (by first | exact .inl (by decide +kernel) | exact .inr (by decide +kernel)) (by rw [isSubtype_type]; kernel_rfl)
theorem entry_cin : entryFor table "callable_iterator.__next__" = some Builtin.«callable_iterator.__next__» := entryFor_of_tree (by kernel_rfl)
theorem args_cin (a : Value) : argsOk "callable_iterator.__next__" ⟨[a], []⟩ := by
  unfold argsOk; kernel_rfl
theorem slot_cii : Slot "callable_iterator" "__iter__" "callable_iterator.__iter__" :=
  .of (owner := "callable_iterator") (n := "__iter__") (by rw [typeLookup_type, builtinLookup_eq_fast]; kernel_rfl) (by decide +kernel) (by decide +kernel) (by decide +kernel)
    (by first | exact .inl (by decide +kernel) | exact .inr (by decide +kernel)) (by rw [isSubtype_type]; kernel_rfl)
theorem entry_iter2 : entryFor table "iter" = some Builtin.«iter» := entryFor_of_tree (by kernel_rfl)
theorem kind_iter2 : builtinKind "iter" = none := by decide +kernel
theorem plain_iter2 : plainId "iter" = true := by decide +kernel
theorem args_iter2 (a b : Value) : argsOk "iter" ⟨[a, b], []⟩ := by
  unfold argsOk; kernel_rfl
theorem method_call_lookup : typeLookup (.type "method") "__call__" = pure (some (.builtin "method.__call__")) := by rw [typeLookup_type, builtinLookup_eq_fast]; kernel_rfl
variable {M : Model} {A : Around} {E : Value → Shared → Prop} {s : Shared} {prog : Program} {w : World}
theorem wpAny_callBorrowed {f : Value} {pos : List Value} {Q : Value → Shared → Prop}
    (hc : codeAny M A (.call f ⟨pos, []⟩) (fun r s' => match r with | .ok (.ret v) => Q v s' | .ok _ => False | .error e => E e s') s) : wpAny M A (callBorrowed f pos) Q E s := fun Γ p hΓ => by
  unfold callBorrowed
  rw [Sem.wp_call]
  have h := hc _ p rfl (hΓ.enter (.call f ⟨pos, []⟩) none p (by intro x; cases x))
  refine wpCode_mono ?_ h
  intro r s' z
  cases r with
  | error e => exact z
  | ok f => cases f <;> exact z
/-- the iterator over a bound method, with a text as its end -/
noncomputable def CallIter (h : Heap) (I p : Addr) (t : Tok) (ended : Bool) : Prop := h.get? I = some { cls := .type "callable_iterator", data := .fields #[if ended then .none else .ref p, if ended then .none else .str ⟨#[]⟩ t, .bool ended] }
theorem call_iter2 {p : Addr} {f self : Value} {v : Value} {Q : Value → Shared → Prop} (hm : s.heap.get? p = some (methodObj f self))
    (h : Q (.ref s.heap.objs.size) { s with heap := s.heap.push { cls := .type "callable_iterator", data := .fields #[.ref p, v, .bool false] } }) : wpAny (model prog w) A (call (.builtin "iter") [.ref p, v]) Q E s := by
  refine Calls.call_function_entry kind_iter2 plain_iter2 entry_iter2 (args_iter2 _ _) ?_
  unfold Builtin.«iter»
  refine wpAny_bind (m := someArgs "iter" 1 2 _) (wpAny_pure ?_)
  dsimp only
  have hT : Looks (model prog w) s.heap (specialOf (.ref p) "__call__") (some (.builtin "method.__call__")) := by
    refine Looks.andThen (a := .type "method") ((Looks.ld (part := none) hm).andThen .now) ?_
    rw [method_call_lookup]; exact .now
  refine wpAny_bind (hT.here ?_)
  simp only [Option.isNone_some, Bool.false_eq_true, if_false]
  refine wpAny_bind (wpAny_rule ?_)
  unfold newFields
  exact wpAny_bind (wpAny_newObj_type (wpAny_pure ⟨_, rfl, h⟩))
theorem borrows {p f : Addr} {self : Value} {of_ : Obj} {fd : FuncData} (hm : s.heap.get? p = some (methodObj (.ref f) self)) (hf : s.heap.get? f = some of_) (hd : of_.data = .func fd) : Looks (model prog w) s.heap (borrowsExactly (.ref p)) true := by
  unfold borrowsExactly
  refine (Looks.ld (part := none) hm).andThen ?_
  dsimp only [methodObj]
  rw [if_pos (by decide)]
  show Looks _ _ (do match (← PySem.load f).data with | .func _ => pure true | _ => pure false) true
  refine (Looks.ld (part := none) hf).andThen ?_
  rw [hd]; exact .now
theorem cin_item {I p f : Addr} {t : Tok} {self : Value} {of_ : Obj} {fd : FuncData} {Q : Value → Shared → Prop} (hI : CallIter s.heap I p t false) (hm : s.heap.get? p = some (methodObj (.ref f) self)) (hf : s.heap.get? f = some of_) (hd : of_.data = .func fd)
    (h : codeAny (model prog w) A (.call (.ref f) ⟨[self], []⟩) (fun r s' => ∃ v, r = .ok (.ret v) ∧ CallIter s'.heap I p t false ∧ ∃ x tk, v = .str (L2S x) tk ∧ x ≠ [] ∧ Q v s') s) :
    wpAny (model prog w) A (Builtin.«callable_iterator.__next__» ⟨[.ref I], []⟩) (fun fin s' => ∃ v, fin = .done (.ret v) ∧ Q v s') E s := by
  show wpAny _ _ (field (.ref I) 2 >>= _) _ _ _
  refine wpAny_bind (wpAny_field hI rfl (x := .bool false) rfl ?_)
  show wpAny _ _ (field (.ref I) 0 >>= _) _ _ _
  refine wpAny_bind (wpAny_field hI rfl (x := .ref p) rfl ?_)
  refine wpAny_bind (wpAny_attempt (wpAny_bind ((borrows hm hf hd).here ?_)))
  simp only [if_true]
  refine wpAny_callBorrowed (method_call hm (codeAny_mono h fun r s' z => ?_))
  obtain ⟨v, rfl, hI', x, tk, rfl, hne, q⟩ := z
  show wpAny _ _ (field (.ref I) 2 >>= _) _ _ _
  refine wpAny_bind (wpAny_field hI' rfl (x := .bool false) rfl ?_)
  show wpAny _ _ (field (.ref I) 1 >>= _) _ _ _
  refine wpAny_bind (wpAny_field hI' rfl (x := .str ⟨#[]⟩ t) rfl ?_)
  refine wpAny_bind (wpAny_holding (eqBool_str ?_))
  have hb : ((⟨#[]⟩ : PySem.Str) == L2S x) = false := by
    cases x with
    | nil => exact absurd rfl hne
    | cons c r => exact beq_false_of_ne fun e => by have := congrArg S2 e; unfold S2 at this; rw [L2S_toList] at this; cases this
  rw [hb]
  exact wpAny_bind (wpAny_pure (wpAny_pure ⟨_, rfl, q⟩))
theorem cin_end {I p f : Addr} {t : Tok} {self : Value} {of_ : Obj} {fd : FuncData} {Q : Value → Shared → Prop} (hh : A.handled = none) (hI : CallIter s.heap I p t false) (hm : s.heap.get? p = some (methodObj (.ref f) self)) (hf : s.heap.get? f = some of_) (hd : of_.data = .func fd)
    (h : codeAny (model prog w) A (.call (.ref f) ⟨[self], []⟩) (fun r s' => ∃ tk, r = .ok (.ret (.str ⟨#[]⟩ tk)) ∧ CallIter s'.heap I p t false ∧ s'.heap.get? p = some (methodObj (.ref f) self) ∧ s'.heap.get? f = some of_ ∧
      ∀ h' e, (∀ b o, b ≠ I → s'.heap.get? b = some o → h'.get? b = some o) → CallIter h' I p t true → (∃ o, h'.get? e = some o ∧ o.cls = .type "StopIteration") → E (.ref e) { s' with heap := h' }) s) :
    wpAny (model prog w) A (Builtin.«callable_iterator.__next__» ⟨[.ref I], []⟩) (fun fin s' => ∃ v, fin = .done (.ret v) ∧ Q v s') E s := by
  show wpAny _ _ (field (.ref I) 2 >>= _) _ _ _
  refine wpAny_bind (wpAny_field hI rfl (x := .bool false) rfl ?_)
  show wpAny _ _ (field (.ref I) 0 >>= _) _ _ _
  refine wpAny_bind (wpAny_field hI rfl (x := .ref p) rfl ?_)
  refine wpAny_bind (wpAny_attempt (wpAny_bind ((borrows hm hf hd).here ?_)))
  simp only [if_true]
  refine wpAny_callBorrowed (method_call hm (codeAny_mono h fun r s' z => ?_))
  obtain ⟨tk, rfl, hI', hm', hf', k⟩ := z
  show wpAny _ _ (field (.ref I) 2 >>= _) _ _ _
  refine wpAny_bind (wpAny_field hI' rfl (x := .bool false) rfl ?_)
  show wpAny _ _ (field (.ref I) 1 >>= _) _ _ _
  refine wpAny_bind (wpAny_field hI' rfl (x := .str ⟨#[]⟩ t) rfl ?_)
  refine wpAny_bind (wpAny_holding (eqBool_str ?_))
  rw [show ((⟨#[]⟩ : PySem.Str) == ⟨#[]⟩) = true from rfl]
  simp only [Bool.not_true, Bool.false_eq_true, if_false]
  refine wpAny_bind (wpAny_rule (wpAny_bind ?_))
  show wpAny _ _ (field (.ref I) 0 >>= _) _ _ _
  refine wpAny_bind (wpAny_field hI' rfl (x := .ref p) rfl ?_)
  refine wpAny_bind (m := slotLetsGo _ _ _) ?_
  unfold slotLetsGo
  refine wpAny_bind ((borrows hm' hf' hd).here ?_)
  simp only [if_true]
  refine wpAny_pure ?_
  refine wpAny_bind (wpAny_setField_rec hI' (by simp) fun h₁ g₁ s₁ => ?_)
  refine wpAny_bind (wpAny_setField_rec g₁ (by simp) fun h₂ g₂ s₂ => ?_)
  refine wpAny_setField_rec g₂ (by simp) fun h₃ g₃ s₃ => ?_
  have hI₃ : CallIter h₃ I p t true := g₃
  show wpAny _ _ (newExc (.type "StopIteration") [] >>= _) _ _ _
  refine wpAny_bind ?_
  simp only [newExc, newTuple]
  refine wpAny_bind (wpAny_newObj_type ?_ (by size_fits))
  refine wpAny_bind (m := firstArgMember _ _) (wpAny_of_eq (a := Value.none) (by first | rfl | (simp only [firstArgMember]; rfl)) ?_)
  refine wpAny_newObj_type ?_ (by size_fits)
  refine wpAny_raiseNew_none hh ?_
  refine k _ _ (fun b o hb e => ?_) ?_ ⟨_, Heap.get?_push_size _ rfl, rfl⟩
  · exact Heap.get?_push_of_some _ (Heap.get?_push_of_some _ ((s₃.2 b hb).trans ((s₂.2 b hb).trans ((s₁.2 b hb).trans e))))
  · exact Heap.get?_push_of_some _ (Heap.get?_push_of_some _ hI₃)
end Mine
namespace Mine
open PySem PySem.W PySem.Calls PyProof.Rows Builtin
variable {cx : Cx} {σ σ₁ σ₂ σ₃ : St} {pos : Pos} {P P' : Out → Prop} {K : Frag}
noncomputable abbrev ciObj (p : Addr) (t : Tok) (ended : Bool) : Obj := { cls := .type "callable_iterator", data := .fields #[if ended then .none else .ref p, if ended then .none else .str ⟨#[]⟩ t, .bool ended] }
theorem Room.in1 {A : Around} {d : Nat} (h : Room A (d + 1)) : Room A.in1 d := ⟨h.hh, by have := h.depth; show A.depth + d ≤ 990; first | lia | omega, by have := h.units; show A.units + 1 + 10 * d ≤ 9800; first | lia | omega⟩
theorem upd_raw {R R' l l' : Res} {I : Addr} {c : Cell} (up : Upd R R' l l') (hn : (l.map (·.1)).Nodup) (h : (I, c) ∈ l) (hR : ¬ R.has I) : (I, c) ∈ l' := by
  induction up with
  | nil => exact h
  | skip u ih =>
    rw [List.map_cons] at hn
    rcases List.mem_cons.mp h with e | h
    · exact e ▸ List.mem_cons_self
    · exact List.mem_cons_of_mem _ (ih (List.nodup_cons.mp hn).2 h hR)
  | take u ih =>
    rename_i R R' l l' a c1 c2
    rw [List.map_cons] at hn
    rcases List.mem_cons.mp h with e | h
    · cases e
      exact absurd (by unfold Res.has; simp) hR
    · exact List.mem_cons_of_mem _ (ih (List.nodup_cons.mp hn).2 h fun q => hR (by unfold Res.has at q ⊢; rw [List.map_cons]; exact List.mem_cons_of_mem _ q))
theorem StOK.turnW {F s h' tk a c c' R'} (ok : StOK cx F s σ) (r : RSet a c c' σ.res R') (hs : ∀ b o, b ≠ a → s.heap.get? b = some o → h'.get? b = some o) (hc : CellOK F h' a c') :
    Step σ.res.has F s F { s with heap := h', toks := tk } ∧ StOK cx F { s with heap := h', toks := tk } { vars := σ.vars, res := R' } := by
  have hF : F a = none := ok.res.off a c r.mem
  have st : Step σ.res.has F s F { s with heap := h', toks := tk } := by
    refine ⟨.refl F, fun b o e => ?_, fun _ _ _ n => n, fun b o w e => ?_, fun b o e => ?_, rfl, rfl⟩
    · exact hs b o (fun q => by rw [q, hF] at e; cases e) (ok.inh b o e)
    · exact hs b o (fun q => w (q ▸ Res.has_of r.mem)) e
    · by_cases q : b = a
      · subst q; exact hc.ex
      · exact ⟨o, hs b o q e⟩
  refine ⟨st, ok.step (σ' := { vars := σ.vars, res := R' }) st rfl ⟨fun b d hm => ?_, fun b d hm => ?_, ?_⟩ r.names⟩
  · rcases r.set ok.res.nodup b d hm with ⟨rfl, rfl⟩ | ⟨hne, hm'⟩
    · exact hc
    · exact (ok.res.ok b d hm').at fun o e => hs b o hne e
  · rcases r.set ok.res.nodup b d hm with ⟨rfl, rfl⟩ | ⟨hne, hm'⟩
    · exact hF
    · exact ok.res.off b d hm'
  · show (R'.map (·.1)).Nodup
    rw [r.names]; exact ok.res.nodup
/-- the next sign of an iterator that calls -/
theorem next_item {F s} {I p f : Addr} {t : Tok} {self : Value} {d : Nat} {R R' res' : Res} {x : List Nat} (ok : StOK cx F s σ) (G : Grd K cx.g) (fo : IsF K f) (hI : (I, Cell.raw (ciObj p t false) [(p, methodObj (.ref f) self)]) ∈ σ.res) (hIR : ¬ R.has I)
    (hc : FnD cx.prog cx.w cx.g (.ref f) d [vVal self] R (vStr x) R') (rm : Room cx.A (d + 1)) (up : Upd R R' σ.res res') (hx : x ≠ []) {Q : Option Value → Shared → Prop} {E : Value → Shared → Prop}
    (k : ∀ v F' s', Step σ.res.has F s F' s' → StOK cx F' s' { vars := σ.vars, res := res' } → (vStr x).rd F' v → Q (some v) s') : wpAny (model cx.prog cx.w) cx.A (pyNext (.ref I)) Q E s := by
  obtain ⟨gI0, fz⟩ := ok.res.ok I _ hI
  have gI : CallIter s.heap I p t false := gI0
  have hp : F p = some (methodObj (.ref f) self) := fz _ _ List.mem_cons_self
  have hT : s.TypeIs (.ref I) "callable_iterator" := ⟨_, gI, rfl⟩
  obtain ⟨of_, fd, hof, hfd⟩ := fo
  unfold pyNext
  refine wpAny_bind (wpAny_attempt (wpAny_callSpecial?_slot (name := PySem.Str.ofString "__next__") hT slot_cin
    (wpAny_call_entry slot_cin hT entry_cin (cin_item (Q := fun v s' => wpAny (model cx.prog cx.w) cx.A (pure (some v)) Q E s') gI (ok.inh _ _ hp) (ok.g _ _ (G.X _ _ hof)) hfd ?_) (args_cin _))))
  refine hc cx.A.in1 F s [self] rm.in1 ok.gF ok.inh (ok.res.sub up.sub) (.cons rfl .nil) _ fun v F₃ s₃ q' S ⟨e1, e2⟩ st₃ r₃ hr₃ _ => ?_
  subst e1; subst e2
  obtain ⟨st', ok₃⟩ := ok.called up st₃ hr₃
  obtain ⟨tk, rfl⟩ := r₃
  exact ⟨_, rfl, (ok₃.res.ok I _ (upd_raw up ok.res.nodup hI hIR)).1, x, tk, rfl, hx, wpAny_pure (k _ F₃ s₃ st' ok₃ ⟨tk, rfl⟩)⟩
theorem next_end {F s} {I p f : Addr} {t : Tok} {self : Value} {d : Nat} {R R' res' res'' : Res} (ok : StOK cx F s σ) (G : Grd K cx.g) (fo : IsF K f) (hI : (I, Cell.raw (ciObj p t false) [(p, methodObj (.ref f) self)]) ∈ σ.res) (hIR : ¬ R.has I)
    (hc : FnD cx.prog cx.w cx.g (.ref f) d [vVal self] R (vStr []) R') (rm : Room cx.A (d + 1)) (up : Upd R R' σ.res res') (rs : RSet I (.raw (ciObj p t false) [(p, methodObj (.ref f) self)]) (.raw (ciObj p t true) []) res' res'') {Q : Option Value → Shared → Prop} {E : Value → Shared → Prop}
    (k : ∀ F' s', Step σ.res.has F s F' s' → StOK cx F' s' { vars := σ.vars, res := res'' } → Q none s') : wpAny (model cx.prog cx.w) cx.A (pyNext (.ref I)) Q E s := by
  obtain ⟨gI0, fz⟩ := ok.res.ok I _ hI
  have gI : CallIter s.heap I p t false := gI0
  have hp : F p = some (methodObj (.ref f) self) := fz _ _ List.mem_cons_self
  have hT : s.TypeIs (.ref I) "callable_iterator" := ⟨_, gI, rfl⟩
  obtain ⟨of_, fd, hof, hfd⟩ := fo
  unfold pyNext
  refine wpAny_bind (wpAny_attempt (wpAny_callSpecial?_slot (name := PySem.Str.ofString "__next__") hT slot_cin
    (wpAny_call_entry slot_cin hT entry_cin (cin_end rm.hh gI (ok.inh _ _ hp) (ok.g _ _ (G.X _ _ hof)) hfd ?_) (args_cin _))))
  refine hc cx.A.in1 F s [self] rm.in1 ok.gF ok.inh (ok.res.sub up.sub) (.cons rfl .nil) _ fun v F₃ s₃ q' S ⟨e1, e2⟩ st₃ r₃ hr₃ _ => ?_
  subst e1; subst e2
  obtain ⟨st', ok₃⟩ := ok.called up st₃ hr₃
  obtain ⟨tk, rfl⟩ := r₃
  have hF3 : F₃ p = some (methodObj (.ref f) self) := st₃.sub _ _ hp
  refine ⟨tk, rfl, (ok₃.res.ok I _ (upd_raw up ok.res.nodup hI hIR)).1, ok₃.inh _ _ hF3, ok₃.g _ _ (G.X _ _ hof), fun h' e hk hci he => ?_⟩
  obtain ⟨o, ho, hcl⟩ := he
  refine wpAny_bind (wpAny_isInstance (T := "StopIteration") (b := true) ⟨o, ho, hcl⟩ isSubtype_stop ?_)
  refine wpAny_pure ?_
  obtain ⟨st₄, ok₄⟩ := ok₃.turnW (tk := s₃.toks) rs (fun b o hb e => hk b o hb e) (c' := .raw (ciObj p t true) []) ⟨hci, fun _ _ h => (List.not_mem_nil h).elim⟩
  exact k F₃ _ (st'.trans (has_like (σ := σ) (σ' := { vars := σ.vars, res := res' }) up.like ▸ st₄)) ok₄
theorem entry_cii : entryFor table "callable_iterator.__iter__" = some Builtin.«dict_keyiterator.__iter__» :=
  entryFor_alias (id' := "dict_keyiterator.__iter__") (by kernel_rfl) (by first | rfl | decide +kernel | (unfold String.splitOn; simp +decide [String.splitOnAux])) (by decide +kernel) (by kernel_rfl)
theorem args_cii (a : Value) : argsOk "callable_iterator.__iter__" ⟨[a], []⟩ := by unfold argsOk; kernel_rfl
theorem iter_ci {prog : Program} {w : World} {A : Around} {E : Value → Shared → Prop} {s : Shared} {I p : Addr} {t : Tok} {b : Bool} {Q : Value → Shared → Prop} (hI : s.heap.get? I = some (ciObj p t b)) (h : Q (.ref I) s) : wpAny (model prog w) A (pyIter (.ref I)) Q E s := by
  have hT : s.TypeIs (.ref I) "callable_iterator" := ⟨_, hI, rfl⟩
  refine wpAny_pyIter_slot hT slot_cii (wpAny_call_entry slot_cii hT entry_cii ?_ (args_cii _))
  show wpAny _ _ (ret (.ref I)) _ _ s
  exact wpAny_pure ⟨_, rfl, "callable_iterator", _, hT, slot_cin.lookup, h⟩
/-- one turn of a for over an iterator that calls -/
structure CallTurn (cx : Cx) (K : Frag) (σ : St) (I : Addr) (x : List Nat) (res' : Res) : Prop where
  ex : ∃ p f t self d R R', (I, Cell.raw (ciObj p t false) [(p, methodObj (.ref f) self)]) ∈ σ.res ∧ ¬ Res.has R I ∧ IsF K f ∧ Room cx.A (d + 1) ∧ FnD cx.prog cx.w cx.g (.ref f) d [vVal self] R (vStr x) R' ∧
    (x ≠ [] → Upd R R' σ.res res') ∧ (x = [] → ∃ res1, Upd R R' σ.res res1 ∧ RSet I (.raw (ciObj p t false) [(p, methodObj (.ref f) self)]) (.raw (ciObj p t true) []) res1 res')
/-- a for over it, by an invariant and a measure -/
theorem Exs.forCall {tx x : PySem.Str} {tp np : Pos} {body rest : List Stmt} {I : Addr} (G : Grd K cx.g)
    (Inv : Nat → St → Prop) (n₀ : Nat) (he : Ev cx σ (.Name x np) (vVal (.ref I)) σ) (hraw : ∃ p t fz, (I, Cell.raw (ciObj p t false) fz) ∈ σ.res) (h0 : ∃ σ', Wk σ σ' ∧ Inv n₀ σ')
    (turn : ∀ n σn, Inv n σn → ∃ y res', CallTurn cx K σn I y res' ∧
      (y ≠ [] → ∃ σt, As cx { vars := σn.vars, res := res' } (.Name tx tp) (vStr y) σt ∧ Exs cx σt body (TurnI cx (fun σ' => ∃ m, m < n ∧ Inv m σ') rest P)) ∧
      (y = [] → Exs cx { vars := σn.vars, res := res' } rest P))
    (hs : ∀ z, foldedSetIterable (.Name x np) cx.env z = pure z := by intro _; with_unfolding_all rfl) : Exs cx σ (.For (.Name tx tp) (.Name x np) body [] pos :: rest) P := .cons fun F s ok Q E k => by
  refine wpAny_For (he.run F s ok _ _ fun v F₁ s₁ st₁ ok₁ r₁ => ?_) hs
  cases r₁
  obtain ⟨p0, t0, fz0, hr0⟩ := hraw
  refine iter_ci (p := p0) (t := t0) (b := false) (ok₁.res.ok I _ hr0).1 ?_
  obtain ⟨σ0, w0, i0⟩ := h0
  refine codeAny_forLoop_any (fun n s' => ∃ F' σn, StOK cx F' s' σn ∧ Inv n σn ∧ Sub F F') ?_ n₀ ⟨F₁, σ0, ok₁.wk w0, i0, st₁.sub⟩
  rintro n s' ⟨F', σn, ok', hinv, hsub⟩
  obtain ⟨y, res', ⟨p, f, t, self, d, R, R', hI, hIR, fo, rm, hc, hu1, hu2⟩, hb, hend⟩ := turn n σn hinv
  by_cases hy : y = []
  · subst hy
    obtain ⟨res1, up, rs⟩ := hu2 rfl
    refine next_end ok' G fo hI hIR hc rm up rs fun F₂ s₂ st₂ ok₂ => ?_
    exact wpAny_execs_nil (k .next F₂ s₂ (.nx _) (hsub.trans st₂.sub) ok₂ (hend rfl))
  · refine next_item ok' G fo hI hIR hc rm (hu1 hy) hy fun v F₂ s₂ st₂ ok₂ rv => ?_
    obtain ⟨σt, ht, hbody⟩ := hb hy
    refine wpAny_of_eq (calm_name _ _) ?_
    refine ht.run F₂ s₂ v ok₂ rv _ _ fun s₃ ok₃ => ?_
    refine hbody F₂ s₃ ok₃ _ _ fun fl F₄ s₄ o sb oo po => ?_
    have sb' := (hsub.trans st₂.sub).trans sb
    cases fl with
    | next => cases o with
      | nx σ' => obtain ⟨σ'', w, m, hm, iv⟩ := po; exact ⟨m, hm, F₄, σ'', StOK.wk oo w, iv, sb'⟩
      | _ => exact oo.elim
    | cont => cases o with
      | ct σ' => obtain ⟨σ'', w, m, hm, iv⟩ := po; exact ⟨m, hm, F₄, σ'', StOK.wk oo w, iv, sb'⟩
      | _ => exact oo.elim
    | brk => cases o with
      | bk σ' => exact k .next F₄ s₄ (.nx σ') sb' oo po
      | _ => exact oo.elim
    | ret v => cases o with
      | rt p R => exact k (.ret v) F₄ s₄ (.rt p R) sb' oo po
      | _ => exact oo.elim
end Mine
namespace Mine
open PySem PySem.W PySem.Calls PyProof.Rows Builtin
variable {cx : Cx} {σ σ₁ σ₂ σ₃ : St} {pos : Pos} {P P' : Out → Prop} {K : Frag}
/-- a bound method -/
noncomputable def vMeth (f : Addr) (self : Value) : VP := ⟨fun F v => ∃ p, v = .ref p ∧ F p = some (methodObj (.ref f) self), fun h ⟨p, e, q⟩ => ⟨p, e, h _ _ q⟩⟩
structure BoundOf (K : Frag) (C : Addr) (name : PySem.Str) (f : Addr) : Prop where
  cls : ∃ cd, clsIn K C = some cd ∧ cd.hasDict = true
  meth : MethOf K C name f
  get : specialIn K (.ref f) "__get__" = some (some (.builtin "function.__get__"))
  takes : takesIn K (.ref f) = some false
  copied : copiedNames.contains name = false
theorem BoundOf.find {C f : Addr} {name : PySem.Str} (B : BoundOf K C name f) {od : Obj} (h : lookIn name od = some none) : findObj K C (some od) name = some (.bind (.builtin "function.__get__") (.ref f)) := by
  obtain ⟨cd, hc, hd⟩ := B.cls
  unfold findObj
  rw [hc, Option.bind_some, B.meth.find, Option.bind_some]
  dsimp only
  rw [B.get, Option.bind_some]
  dsimp only
  rw [B.takes, Option.bind_some]
  dsimp only
  have ho : W.ownOf cd (some od) name = some none := by unfold W.ownOf; rw [if_pos hd]; exact h
  rw [ho, Option.bind_some]
  dsimp only
  rw [B.copied]
  rfl
theorem Ev.bound {o : Expr} {name : PySem.Str} {x d C f : Addr} {fs : List (PySem.Str × VP)} (G : Grd K cx.g) (B : BoundOf K C name f) (ho : Ev cx σ o (vVal (.ref x)) σ₁) (hm : RAt d (.inst x C fs) σ₁.res) (hn : (fs.map (·.1)).all (fun y => !(y == name)) = true)
    (he : eval (.Attribute o name pos) cx.env = (do
      let ov ← eval o cx.env
      standAt pos.atName
      let r ← holding [ov] (getAttr ov name true)
      letTemporaryGo o ov r
      pure r) := by with_unfolding_all rfl) : Ev cx σ (.Attribute o name pos) (vMeth f (.ref x)) σ₁ where
  like := ho.like
  vars := ho.vars
  run := fun F s ok Q E k => Attribute_any_ (ho.run F s ok _ _ fun v F₁ s₁ st₁ ok₁ r₁ => by
    cases r₁
    obtain ⟨fx, od, m, gd, ⟨es, n, rfl, hl, hk, hf⟩, fa⟩ := ok₁.res.ok d _ hm.mem
    have hno : m name = none := fa.2 name fun q => by
      have := List.all_eq_true.mp hn name q
      simp at this
    have X := G.X.keeps ok₁.g
    refine get_bind X (instAt_of (ok₁.inh _ _ fx) gd) (plainGet_of B.meth.get).1 (B.find (by rw [lookIn_dict]; exact getL_of hk ((hf name).trans hno))) (plainGet_of B.meth.get).2 ?_
    refine wpAny_call (fn_get (s := { s₁ with toks := s₁.toks + 1 }) X B.meth.fn ?_)
    refine handed_on rfl ?_
    have st2 : Step (fun _ => False) F₁ s₁ (F₁.set s₁.heap.objs.size (methodObj (.ref f) (.ref x))) { s₁ with heap := s₁.heap.push (methodObj (.ref f) (.ref x)), toks := s₁.toks + 1 } := .push ok₁.inh rfl
    exact k _ _ _ (st₁.trans (st2.weaken fun _ h => h.elim)) (ok₁.pure st2) ⟨_, rfl, FH.set_at ..⟩) he
/-- a new raw cell -/
theorem StOK.ownRaw {F s h' tk a o fz} (ok : StOK cx F s σ) (hk : ∀ b ob, s.heap.get? b = some ob → h'.get? b = some ob) (hn : s.heap.get? a = none) (ha : h'.get? a = some o) (hf : ∀ b ob, (b, ob) ∈ fz → F b = some ob) :
    StOK cx F { s with heap := h', toks := tk } { vars := σ.vars, res := (a, .raw o fz) :: σ.res } := by
  have ok' : StOK cx F { s with heap := h', toks := tk } σ := ok.keep hk
  have hnot : ∀ b, σ.res.has b → b ≠ a := fun b hb q => by
    obtain ⟨⟨b', c⟩, hm, rfl⟩ := List.mem_map.mp hb
    obtain ⟨ob, e⟩ := (ok.res.ok b' c hm).ex
    rw [show b' = a from q, hn] at e; cases e
  have hF : F a = none := none_of_fresh ok.inh hn
  have ap := ok.apartOf (ms := [a]) fun m hm => by rw [List.mem_singleton.mp hm]; exact hn
  have ha' : a ∈ [a] := List.mem_singleton.mpr rfl
  have has : ∀ b, Res.has ((a, Cell.raw o fz) :: σ.res) b → b = a ∨ σ.res.has b := fun b hb => by
    unfold Res.has at hb; rw [List.map_cons] at hb; exact List.mem_cons.mp hb
  refine { ok' with locR := fun q => ?_, cells := fun y c hm => ⟨(ok'.cells y c hm).1, (ok'.cells y c hm).2.1, fun q => ?_⟩, res := ⟨?_, ?_, ?_⟩, resW := fun b hb => ?_, priv := fun b ob hm => ?_ }
  · rcases has _ q with h | h
    · exact ap.loc (by rw [h]; exact ha')
    · exact ok.locR h
  · rcases has _ q with h | h
    · exact ap.cell y c hm (by rw [h]; exact ha')
    · exact (ok.cells y c hm).2.2 h
  · intro b c hm
    rcases List.mem_cons.mp hm with e | hm
    · cases e; exact ⟨ha, hf⟩
    · exact ok'.res.ok b c hm
  · intro b c hm
    rcases List.mem_cons.mp hm with e | hm
    · cases e; exact hF
    · exact ok.res.off b c hm
  · exact List.nodup_cons.mpr ⟨fun hm => hnot a hm rfl, ok.res.nodup⟩
  · rcases has _ hb with h | h
    · exact .inr (by rw [h]; exact ap.s0 a ha')
    · exact ok.resW b h
  · obtain ⟨p1, p2, p3, p4, p5⟩ := ok'.priv b ob hm
    refine ⟨p1, p2, fun q => ?_, p4, p5⟩
    rcases has _ q with h | h
    · exact ap.priv b ob hm (by rw [h]; exact ha')
    · exact p3 h
/-- iter(f, '') for a name -/
theorem Exs.assignIter {x fx : PySem.Str} {np fp cp : Pos} {a b : Expr} {f : Addr} {self : Value} {rest : List Stmt} (hf : Ev cx σ (.Name fx fp) (vVal (.builtin "iter")) σ) (ha : EvAll cx σ cp [a, b] [vMeth f self, vStr []] σ)
    (h : ∀ (I p : Addr) (t : Tok), cx.s0.heap.get? I = none → ∃ l, Put cx { vars := σ.vars, res := (I, .raw (ciObj p t false) [(p, methodObj (.ref f) self)]) :: σ.res } x (vVal (.ref I)) l ∧ Exs cx { vars := l, res := (I, .raw (ciObj p t false) [(p, methodObj (.ref f) self)]) :: σ.res } rest P)
    (he : starEach [a, b] cx.env = (false, eval a cx.env) :: starEach [b] cx.env := by with_unfolding_all rfl) (hp : (backTo cp (starEach [b] cx.env)).any (·.1) = false := by with_unfolding_all rfl)
    (hs : swapsWithSole [.Name x np] (.Call (.Name fx fp) [a, b] [] cp) pos.line cx.env = pure false := by with_unfolding_all rfl) (hw : swappedStores [.Name x np] (.Call (.Name fx fp) [a, b] [] cp) cx.env = pure none := by with_unfolding_all rfl)
    (hae : (assignEach [.Name x np] cx.env).map (·.2) = [PySem.assign (.Name x np) cx.env] := by with_unfolding_all rfl) : Exs cx σ (.Assign [.Name x np] (.Call (.Name fx fp) [a, b] [] cp) pos :: rest) P := .cons fun F s ok Q E k =>
  wpAny_Assign_stores (wpAny_Call_Name_kw (hf.run F s ok _ _ fun v F₁ s₁ st₁ ok₁ r₁ => by
    cases r₁
    show wpAny _ _ (callWith cp (.builtin "iter") [] (backTo cp (starEach [a, b] cx.env)) []) _ _ s₁
    rw [he]
    refine callWith_builtin (by show (false || (backTo cp (starEach [b] cx.env)).any (·.1)) = false; rw [hp]; rfl) (evalArgs_plain ?_)
    have hrun := ha.run F₁ s₁ ok₁
    rw [he] at hrun
    refine hrun _ _ fun vs F₂ s₂ st₂ ok₂ r₂ => ?_
    obtain ⟨u, z, rfl, ⟨p, rfl, hpf⟩, ⟨t, rfl⟩⟩ := r₂.two
    refine call_iter2 (ok₂.inh _ _ hpf) ?_
    rw [hae]
    have h0 : cx.s0.heap.get? s₂.heap.objs.size = none := (ok₂.apartOf (ms := [s₂.heap.objs.size]) fun m hm => by rw [List.mem_singleton.mp hm]; exact get_size _).s0 _ (List.mem_singleton.mpr rfl)
    obtain ⟨l, hput, hx⟩ := h s₂.heap.objs.size p t h0
    have ok₃ := ok₂.ownRaw (h' := s₂.heap.push (ciObj p t false)) (tk := s₂.toks) (o := ciObj p t false) (fz := [(p, methodObj (.ref f) self)]) (fun b ob e => Heap.get?_push_of_some _ e) (get_size _) (Heap.get?_push_size _ rfl) fun b ob hm => by cases List.mem_singleton.mp hm; exact hpf
    exact wpAny_assign_Name (hput.run ok₃ rfl fun s' ok' => k .next F₂ s' (.nx _) (st₁.sub.trans st₂.sub) ok' hx))) hs hw
end Mine
namespace Mine
open PySem PySem.W PySem.Calls PyProof.Rows Builtin
variable {cx : Cx} {σ σ₁ σ₂ σ₃ : St} {pos : Pos} {P P' : Out → Prop} {K : Frag}
/-- a function made while the law runs -/
noncomputable def vFn (a : Addr) (o : Obj) : VP := ⟨fun F v => v = .ref a ∧ F a = some o, fun h ⟨e, q⟩ => ⟨e, h _ _ q⟩⟩
/-- a field that is called -/
structure FieldFn (K : Frag) (C : Addr) (name : PySem.Str) : Prop where
  own : OwnAttr K C name
  find : findIn K (.ref C) name = some none
theorem Ev.callField {o e : Expr} {rest : List Expr} {name : PySem.Str} {ap : Pos} {C fa : Addr} {fo : Obj} {fd : FuncData} {fs : List (PySem.Str × VP)} {d : Nat} {ps : List VP} {R R' res' : Res} {q : VP} (G : Grd K cx.g) (FF : FieldFn K C name) (ho : Ev cx σ o (vInst C fs) σ₁) (hf : At name (vFn fa fo) fs) (hfd : fo.data = .func fd)
    (ha : EvAll cx σ₁ pos (e :: rest) ps σ₂) (hc : FnD cx.prog cx.w cx.g (.ref fa) d ps R q R') (rm : Room cx.A d) (up : Upd R R' σ₂.res res')
    (he : starEach (e :: rest) cx.env = (false, eval e cx.env) :: starEach rest cx.env := by with_unfolding_all rfl)
    (hk : ∃ pl, eval (.Call (.Attribute o name ap) (e :: rest) [] pos) cx.env = (do
      let ov ← eval o cx.env
      standAt ap.atName
      let (f, first) ← holding [ov] (getMethod ov name pl)
      callWith pos f first (backTo pos (starEach (e :: rest) cx.env)) (backToKw pos (keywordEach [] cx.env))) := by exact ⟨_, by with_unfolding_all rfl⟩) :
    Ev cx σ (.Call (.Attribute o name ap) (e :: rest) [] pos) q { vars := σ₂.vars, res := res' } where
  like := up.like.trans (ha.like.trans ho.like)
  vars := ha.vars.trans ho.vars
  run := fun F s ok Q E k => by
    obtain ⟨pl, hk⟩ := hk
    refine methodCall_KW (pl := pl) (ho.run F s ok _ _ fun v F₁ s₁ st₁ ok₁ ⟨x, dx, od, m, e1, f1, f2, dd, fa1⟩ => ?_) hk
    subst e1
    obtain ⟨u, hu, eu, hF⟩ := fa1.get hf
    subst eu
    refine method_usual (G.X.keeps ok₁.g) (instAt_of (ok₁.inh _ _ f1) (ok₁.inh _ _ f2)) (plainGet_of FF.own.get).1 (plainGet_of FF.own.get).2 FF.find rfl ?_
    refine getAttr_own (G.X.keeps ok₁.g) FF.own (ok₁.inh _ _ f1) (ok₁.inh _ _ f2) dd hu rfl ?_
    have okt : StOK cx F₁ { s₁ with toks := s₁.toks + 1 } σ₁ := ok₁.pure (.toks ok₁.inh)
    refine callWith_function (o := fo) (fd := fd) ?_
    refine evalArgs_all (ha.run F₁ _ okt _ _ fun vs F₂ s₂ st₂ ok₂ r₂ => ?_) he
    refine ⟨⟨ok₂.inh _ _ (st₂.sub _ _ hF), hfd⟩, wpAny_call (hc cx.A F₂ s₂ vs rm ok₂.gF ok₂.inh (ok₂.res.sub up.sub) r₂ _ fun u F₃ s₃ q' S ⟨e1, e2⟩ st₃ r₃ hr₃ _ => ?_)⟩
    subst e1; subst e2
    obtain ⟨st', ok₃⟩ := ok₂.called up st₃ hr₃
    have st0 : Step σ₁.res.has F₁ s₁ F₁ { s₁ with toks := s₁.toks + 1 } := .toks ok₁.inh
    exact k u F₃ s₃ (st₁.trans ((has_like ho.like ▸ st0.trans st₂).trans (has_like (ha.like.trans ho.like) ▸ st'))) ok₃ r₃
end Mine
namespace Mine
open PySem PySem.W PySem.Calls PyProof.Rows Builtin
variable {cx : Cx} {σ σ₁ σ₂ σ₃ : St} {pos : Pos} {P P' : Out → Prop} {K : Frag}
/-- an expression whose value and cells are told by a predicate -/
noncomputable def EvE (cx : Cx) (σ : St) (e : Expr) (Φ : VP → St → Prop) : Prop :=
  ∀ F s, StOK cx F s σ → ∀ (Q : Value → Shared → Prop) (E : Value → Shared → Prop), (∀ p σ' v F' s', Φ p σ' → Sub F F' → StOK cx F' s' σ' → p.rd F' v → Q v s') → wpAny (model cx.prog cx.w) cx.A (eval e cx.env) Q E s
theorem Exs.assignE {t e : Expr} {Φ : VP → St → Prop} {rest : List Stmt} (he : EvE cx σ e Φ) (h : ∀ p σ', Φ p σ' → ∃ σ₂, As cx σ' t p σ₂ ∧ Exs cx σ₂ rest P)
    (hs : swapsWithSole [t] e pos.line cx.env = pure false := by with_unfolding_all rfl) (hw : swappedStores [t] e cx.env = pure none := by with_unfolding_all rfl)
    (ha : (assignEach [t] cx.env).map (·.2) = [PySem.assign t cx.env] := by with_unfolding_all rfl) : Exs cx σ (.Assign [t] e pos :: rest) P := .cons fun F s ok Q E k =>
  wpAny_Assign_stores (he F s ok _ _ fun p σ' v F₁ s₁ ph sb ok₁ r₁ => by
    obtain ⟨σ₂, ht, hx⟩ := h p σ' ph
    rw [ha]
    exact ht.run F₁ s₁ v ok₁ r₁ _ _ fun s' ok' => k .next F₁ s' (.nx σ₂) sb ok' hx) hs hw
theorem Exs.setAttrE {o value : Expr} {pp : Pos} {name : PySem.Str} {C : Addr} {Φ : VP → St → Prop} {rest : List Stmt} (G : Grd K cx.g) (O : OwnSet K C name) (hv : EvE cx σ value Φ)
    (h : ∀ p σ', Φ p σ' → ∃ (x d : Addr) (fs fs' : List (PySem.Str × VP)) (R' : Res), Ev cx σ' o (vVal (.ref x)) σ' ∧ RSet d (.inst x C fs) (.inst x C fs') σ'.res R' ∧ FPut name p fs fs' ∧ fs'.length ≤ 1000 ∧ Exs cx { vars := σ'.vars, res := R' } rest P)
    (hs : swapsWith value (some (.Attribute o name pp)) pos.line cx.env = pure false := by with_unfolding_all rfl) : Exs cx σ (.Assign [.Attribute o name pp] value pos :: rest) P := .cons fun F s ok Q E k =>
  plainObj_wpAny_Assign_Attribute (hv F s ok _ _ fun p σ' v F₁ s₁ ph sb ok₁ r₁ => by
    obtain ⟨x, d, fs, fs', R', ho, r, fp, hsz, hx⟩ := h p σ' ph
    refine ho.run F₁ s₁ ok₁ _ _ fun u F₂ s₂ st₂ ok₂ r₂ => ?_
    cases r₂
    exact ok₂.setAttr G O r fp hsz (p.mono st₂.sub r₁) fun s' st' ok' => k .next F₂ s' (.nx _) (sb.trans st₂.sub) ok' hx) hs
/-- what a call takes, what it leaves -/
inductive Spl : Res → Res → Res → Prop
  | nil : Spl [] [] []
  | left {R L l x} : Spl R L l → Spl (x :: R) L (x :: l)
  | right {R L l x} : Spl R L l → Spl R (x :: L) (x :: l)
theorem Spl.sub {R L l} (h : Spl R L l) : R.Sublist l := by
  induction h with
  | nil => exact .slnil
  | left _ ih => exact ih.cons_cons _
  | right _ ih => exact ih.cons _
theorem Spl.subL {R L l} (h : Spl R L l) : L.Sublist l := by
  induction h with
  | nil => exact .slnil
  | left _ ih => exact ih.cons _
  | right _ ih => exact ih.cons_cons _
theorem Spl.disj {R L l} (h : Spl R L l) : (l.map (·.1)).Nodup → ∀ a, Res.has L a → ¬ Res.has R a := by
  induction h with
  | nil => intro _ a ha; exact (List.not_mem_nil ha).elim
  | left h ih =>
    rename_i R L l x
    intro hn a ha hr
    rw [List.map_cons] at hn
    unfold Res.has at hr
    rw [List.map_cons] at hr
    rcases List.mem_cons.mp hr with e | hr
    · exact (List.nodup_cons.mp hn).1 (by rw [← e]; exact (h.subL.map (·.1)).subset ha)
    · exact ih (List.nodup_cons.mp hn).2 a ha hr
  | right h ih =>
    rename_i R L l x
    intro hn a ha hr
    rw [List.map_cons] at hn
    unfold Res.has at ha
    rw [List.map_cons] at ha
    rcases List.mem_cons.mp ha with e | ha
    · exact (List.nodup_cons.mp hn).1 (by rw [← e]; exact (h.sub.map (·.1)).subset hr)
    · exact ih (List.nodup_cons.mp hn).2 a ha hr
theorem StOK.fresh0 {F s} (ok : StOK cx F s σ) {a : Addr} (h : s.heap.get? a = none) : cx.s0.heap.get? a = none := by
  cases q : cx.s0.heap.get? a with
  | none => rfl
  | some ob => obtain ⟨o', e⟩ := ok.base.live a ob q; rw [h] at e; cases e
theorem StOK.calledN {F s F' s'} (ok : StOK cx F s σ) {R L R' : Res} (sp : Spl R L σ.res) (st : Step R.has F s F' s') (hr : ResOK F' s'.heap R') (hn : ∀ a, R'.has a → R.has a ∨ s.heap.get? a = none) :
    StOK cx F' s' { vars := σ.vars, res := R' ++ L } := by
  have st' : Step σ.res.has F s F' s' := st.weaken fun a q => Sub.has sp.sub q
  have kl : ∀ o, s.heap.get? cx.env.locals = some o → s'.heap.get? cx.env.locals = some o := fun o e => st'.keep _ o ok.locR e
  have kc : ∀ y c, (y, c) ∈ cx.env.cells → ∀ o, s.heap.get? c = some o → s'.heap.get? c = some o := fun y c hm o e => st'.keep _ o (ok.cells y c hm).2.2 e
  have has : ∀ a, Res.has (R' ++ L) a → Res.has R' a ∨ Res.has L a := fun a h => by
    unfold Res.has at h ⊢
    rw [List.map_append] at h
    exact List.mem_append.mp h
  have old : ∀ a, Res.has (R' ++ L) a → σ.res.has a ∨ s.heap.get? a = none := fun a h => by
    rcases has a h with h | h
    · rcases hn a h with h | h
      · exact .inl (Sub.has sp.sub h)
      · exact .inr h
    · exact .inl (Sub.has sp.subL h)
  have exL : ∀ a, Res.has L a → ∃ o, s.heap.get? a = some o := fun a h => by
    obtain ⟨⟨b, c⟩, hm, rfl⟩ := List.mem_map.mp h
    exact (ok.res.ok b c (sp.subL.subset hm)).ex
  obtain ⟨lo, hlo⟩ : ∃ o, s.heap.get? cx.env.locals = some o := by obtain ⟨m, o, es, ep, e, _⟩ := ok.ns; exact ⟨o, e⟩
  refine { base := ?_, gF := fun b o e => st.sub _ _ (ok.gF b o e), hh := ok.hh, kind := ok.kind, glob := ok.glob, bltn := ok.bltn, ns := ?_, newL := ok.newL, locF := ?_, locR := fun q => ?_, cells := ?_, apart := ok.apart, newC := ok.newC, vars := ?_, res := ⟨fun a c hm => ?_, fun a c hm => ?_, ?_⟩, resW := fun a q => ?_, locW := ok.locW, cellW := ok.cellW, nd := ok.nd, priv := fun a o hm => ?_ }
  · refine ⟨ok.base.sub.trans st.sub, st.inh, fun a o e n => ?_, fun a o w e => ?_, fun a o e => ?_, st.gens.trans ok.base.gens, st.os.trans ok.base.os⟩
    · obtain ⟨o', e'⟩ := ok.base.live a o e
      exact st.fresh a o' e' (ok.base.fresh a o e n)
    · refine st'.keep a o (fun q => ?_) (ok.base.keep a o w e)
      rcases ok.resW a q with h | h
      · exact w h
      · rw [h] at e; cases e
    · obtain ⟨o', e'⟩ := ok.base.live a o e
      exact st.live a o' e'
  · obtain ⟨m, n⟩ := ok.ns; exact ⟨m, n.at' kl⟩
  · exact st.fresh _ lo hlo ok.locF
  · rcases old _ q with h | h
    · exact ok.locR h
    · rw [h] at hlo; cases hlo
  · intro y c hm
    obtain ⟨⟨v, o, e, d⟩, f, r⟩ := ok.cells y c hm
    refine ⟨⟨v, o, kc y c hm o e, d⟩, st.fresh _ o e f, fun q => ?_⟩
    rcases old _ q with h | h
    · exact r h
    · rw [h] at e; cases e
  · intro y p hm
    obtain ⟨v, a, r⟩ := ok.vars y p hm
    exact ⟨v, a.at kl (fun c hc => kc y c hc), p.mono st.sub r⟩
  · rcases List.mem_append.mp hm with hm | hm
    · exact hr.ok a c hm
    · exact CellOK.mono st.sub ((ok.res.ok a c (sp.subL.subset hm)).at fun o e => st.keep a o (sp.disj ok.res.nodup a (Res.has_of hm)) e)
  · rcases List.mem_append.mp hm with hm | hm
    · exact hr.off a c hm
    · obtain ⟨o, e⟩ := exL a (Res.has_of hm)
      exact st.fresh a o e (ok.res.off a c (sp.subL.subset hm))
  · show ((R' ++ L).map (·.1)).Nodup
    rw [List.map_append, List.nodup_append]
    refine ⟨hr.nodup, (sp.subL.map (·.1)).nodup ok.res.nodup, fun a ha b hb q => ?_⟩
    subst q
    obtain ⟨o, e⟩ := exL a hb
    rcases hn a ha with h | h
    · exact sp.disj ok.res.nodup a hb h
    · rw [h] at e; cases e
  · rcases old _ q with h | h
    · exact ok.resW a h
    · exact .inr (ok.fresh0 h)
  · obtain ⟨p1, p2, p3, p4, p5⟩ := ok.priv a o hm
    refine ⟨st'.keep a o p3 p1, st.fresh a o p1 p2, fun q => ?_, p4, p5⟩
    rcases old _ q with h | h
    · exact p3 h
    · rw [h] at p1; cases p1
theorem EvE.callF {x : PySem.Str} {np : Pos} {a : Addr} {e : Expr} {rest : List Expr} {d : Nat} {ps : List VP} {R L : Res} {PP : VP → Res → Prop} (G : Grd K cx.g) (fn : IsF K a) (hf : Ev cx σ (.Name x np) (vVal (.ref a)) σ)
    (ha : EvAll cx σ pos (e :: rest) ps σ₁) (hc : FnR cx.prog cx.w cx.g (.ref a) d ps R PP) (rm : Room cx.A d) (sp : Spl R L σ₁.res)
    (he : starEach (e :: rest) cx.env = (false, eval e cx.env) :: starEach rest cx.env := by with_unfolding_all rfl) :
    EvE cx σ (.Call (.Name x np) (e :: rest) [] pos) fun p σ' => ∃ R', PP p R' ∧ (∀ b, Res.has R' b → Res.has R b ∨ cx.s0.heap.get? b = none) ∧ σ' = { vars := σ₁.vars, res := R' ++ L } :=
  fun F s ok Q E k => wpAny_Call_Name_kw (hf.run F s ok _ _ fun v F₁ s₁ st₁ ok₁ r₁ => by
    cases r₁
    show wpAny _ _ (callWith pos (.ref a) [] (backTo pos (starEach (e :: rest) cx.env)) []) Q E s₁
    obtain ⟨o, fd, ho, hd⟩ := fn
    refine callWith_function (o := o) (fd := fd) ?_
    refine evalArgs_all (ha.run F₁ s₁ ok₁ _ _ fun vs F₂ s₂ st₂ ok₂ r₂ => ?_) he
    refine ⟨⟨ok₂.g _ _ (G.X _ _ ho), hd⟩, wpAny_call (hc cx.A F₂ s₂ vs rm ok₂.gF ok₂.inh (ok₂.res.sub sp.sub) r₂ _ fun v F₃ s₃ q S hP st₃ r₃ hr₃ hn => ?_)⟩
    exact k q _ v F₃ s₃ ⟨S, hP, fun b hb => (hn b hb).imp id ok₂.fresh0, rfl⟩ (st₁.sub.trans (st₂.sub.trans st₃.sub)) (ok₂.calledN sp st₃ hr₃ hn) r₃)
theorem EvE.callC {x : PySem.Str} {np : Pos} {C : Addr} {e : Expr} {rest : List Expr} {d : Nat} {ps : List VP} {R L : Res} {PP : VP → Res → Prop} (G : Grd K cx.g) (hk : keepIn K (.ref C) = true) (hf : Ev cx σ (.Name x np) (vVal (.ref C)) σ)
    (ha : EvAll cx σ pos (e :: rest) ps σ₁) (hc : FnR cx.prog cx.w cx.g (.ref C) d ps R PP) (rm : Room cx.A d) (sp : Spl R L σ₁.res)
    (he : starEach (e :: rest) cx.env = (false, eval e cx.env) :: starEach rest cx.env := by with_unfolding_all rfl) (hp : (backTo pos (starEach (e :: rest) cx.env)).any (·.1) = false := by with_unfolding_all rfl) :
    EvE cx σ (.Call (.Name x np) (e :: rest) [] pos) fun p σ' => ∃ R', PP p R' ∧ (∀ b, Res.has R' b → Res.has R b ∨ cx.s0.heap.get? b = none) ∧ σ' = { vars := σ₁.vars, res := R' ++ L } :=
  fun F s ok Q E k => wpAny_Call_Name_kw (hf.run F s ok _ _ fun v F₁ s₁ st₁ ok₁ r₁ => by
    cases r₁
    refine callWith_KW (kws := []) (h₀ := cx.g) G.X hk rfl (ha.run F₁ s₁ ok₁ _ _ fun vs F₂ s₂ st₂ ok₂ r₂ => ?_) (by rw [hp]; rfl) he
    refine wpAny_pure ⟨G.X.keeps ok₂.g, ?_⟩
    refine wpAny_call (hc cx.A F₂ s₂ vs rm ok₂.gF ok₂.inh (ok₂.res.sub sp.sub) r₂ _ fun v F₃ s₃ q S hP st₃ r₃ hr₃ hn => ?_)
    exact k q _ v F₃ s₃ ⟨S, hP, fun b hb => (hn b hb).imp id ok₂.fresh0, rfl⟩ (st₁.sub.trans (st₂.sub.trans st₃.sub)) (ok₂.calledN sp st₃ hr₃ hn) r₃)
/-- an owned object frozen -/
inductive FWeak : List (PySem.Str × VP) → List (PySem.Str × VP) → Prop
  | nil : FWeak [] []
  | same {x l l'} : FWeak l l' → FWeak (x :: l) (x :: l')
  | any {x p l l'} : FWeak l l' → FWeak ((x, p) :: l) ((x, vAny) :: l')
theorem FWeak.names {l l'} (h : FWeak l l') : l'.map (·.1) = l.map (·.1) := by
  induction h with
  | nil => rfl
  | same _ ih => simp [ih]
  | any _ ih => simp [ih]
theorem FWeak.len {l l'} (h : FWeak l l') : l'.length = l.length := by
  have := congrArg List.length h.names; simpa using this
theorem FWeak.mem {l l'} (h : FWeak l l') : ∀ x p, (x, p) ∈ l' → ∃ q, (x, q) ∈ l ∧ ∀ F v, q.rd F v → p.rd F v := by
  induction h with
  | nil => intro x p hm; exact (List.not_mem_nil hm).elim
  | same _ ih =>
    intro x p hm
    rcases List.mem_cons.mp hm with e | hm
    · cases e; exact ⟨p, List.mem_cons_self, fun _ _ r => r⟩
    · obtain ⟨q, h1, h2⟩ := ih x p hm; exact ⟨q, List.mem_cons_of_mem _ h1, h2⟩
  | any _ ih =>
    intro x p hm
    rcases List.mem_cons.mp hm with e | hm
    · cases e; exact ⟨_, List.mem_cons_self, fun _ _ _ => trivial⟩
    · obtain ⟨q, h1, h2⟩ := ih x p hm; exact ⟨q, List.mem_cons_of_mem _ h1, h2⟩
theorem FieldsAre.weak {F : FH} {fs fs' : List (PySem.Str × VP)} {m : PySem.Str → Option Value} (x : FieldsAre F fs m) (h : FWeak fs fs') : FieldsAre F fs' m := by
  refine ⟨fun y p hm => ?_, fun y hy => x.2 y (by rw [← h.names]; exact hy)⟩
  obtain ⟨q, h1, h2⟩ := h.mem y p hm
  obtain ⟨v, e, r⟩ := x.1 y q h1
  exact ⟨v, e, h2 F v r⟩
theorem StOK.freezeI {F s} {x : PySem.Str} {o a C : Addr} {fs fs' : List (PySem.Str × VP)} {R' : Res} {l : List (PySem.Str × VP)} (ok : StOK cx F s σ) (hx : (x, vVal (.ref o)) ∈ σ.vars) (r : RDel a (.inst o C fs) σ.res R') (hw : FWeak fs fs') (hl : Rep x (vInst C fs') σ.vars l) (h0 : cx.s0.heap.get? a = none) :
    ∃ F', Sub F F' ∧ StOK cx F' s { vars := l, res := R' } := by
  obtain ⟨fx, od, m, e, dd, fa⟩ := ok.res.ok a _ r.mem
  have hF := ok.res.off a _ r.mem
  have ha : Res.has σ.res a := Res.has_of r.mem
  have sb := FH.set_sub (o := od) hF
  have ne : ∀ b, b ≠ a → F.set a od b = F b := fun b hb => FH.set_ne hb
  refine ⟨F.set a od, sb, ?_⟩
  have nd' : (l.map (·.1)).Nodup := hl.names ▸ ok.nd
  have old : StOK cx F s { vars := σ.vars, res := R' } := ok.wk ⟨fun _ _ h => h, ok.nd, r.sub⟩
  have notR : ¬ Res.has R' a := r.not ok.res.nodup
  refine { base := ok.base.thaw h0 hF e, gF := fun b ob q => sb _ _ (ok.gF b ob q), hh := ok.hh, kind := ok.kind, glob := ok.glob, bltn := ok.bltn, ns := ok.ns, newL := ok.newL, locF := ?_, locR := old.locR, cells := fun y c hm => ⟨(old.cells y c hm).1, ?_, (old.cells y c hm).2.2⟩, apart := ok.apart, newC := ok.newC, vars := fun y p hm => ?_, res := ⟨fun b c hm => CellOK.mono sb (old.res.ok b c hm), fun b c hm => ?_, old.res.nodup⟩, resW := old.resW, locW := ok.locW, cellW := ok.cellW, nd := nd', priv := fun b ob hm => ?_ }
  · exact (ne _ fun q => ok.locR (by rw [q]; exact ha)).trans ok.locF
  · exact (ne _ fun q => (ok.cells y c hm).2.2 (by rw [q]; exact ha)).trans (ok.cells y c hm).2.1
  · rcases hl.set ok.nd y p hm with ⟨rfl, rfl⟩ | ⟨_, hm'⟩
    · obtain ⟨v, q, rr⟩ := ok.vars y _ hx
      exact ⟨v, q, o, a, od, m, rr, sb _ _ fx, FH.set_at .., by rw [hw.len]; exact dd, (fa.weak hw).mono sb⟩
    · obtain ⟨v, q, rr⟩ := ok.vars y p hm'; exact ⟨v, q, p.mono sb rr⟩
  · exact (ne _ fun q => notR (by have h3 : b = a := q; rw [← h3]; exact Res.has_of hm)).trans (old.res.off b c hm)
  · obtain ⟨p1, p2, p3, p4, p5⟩ := old.priv b ob hm
    exact ⟨p1, (ne b fun q => (ok.priv b ob hm).2.2.1 (by rw [q]; exact ha)).trans p2, p3, p4, p5⟩
theorem Exs.freezeI {x : PySem.Str} {o a C : Addr} {fs fs' : List (PySem.Str × VP)} {R' : Res} {l : List (PySem.Str × VP)} {ss : List Stmt} (hx : (x, vVal (.ref o)) ∈ σ.vars) (r : RDel a (.inst o C fs) σ.res R') (hw : FWeak fs fs') (hl : Rep x (vInst C fs') σ.vars l) (h0 : cx.s0.heap.get? a = none)
    (h : Exs cx { vars := l, res := R' } ss P) : Exs cx σ ss P := fun F s ok Q E k => by
  obtain ⟨F', sb, ok'⟩ := ok.freezeI hx r hw hl h0
  exact h F' s ok' Q E fun f F₂ s₂ o sb₂ => k f F₂ s₂ o (sb.trans sb₂)
end Mine
namespace Mine
open PySem PySem.W PySem.Calls PyProof.Rows Builtin
variable {cx : Cx} {σ σ₁ σ₂ σ₃ : St} {pos : Pos} {P P' : Out → Prop} {K : Frag}
/-- a function of the text, one parameter of which is its one cell -/
structure IsFnC (K : Frag) (a : Addr) (fd : FuncData) (body : List Stmt) (x : PySem.Str) : Prop where
  obj : ∃ o, K.lookup a = some o ∧ o.data = .func fd
  body : fd.body = .stmts body
  code : codeIn K fd.code fd.qualname = true
  glob : fd.globals = mainGlobals
  bltn : fd.builtins = builtinsNs
  clos : fd.closure = []
  kind : fd.scope.kind = .function
  co : fd.scope.isCoroutine = false
  gen : fd.scope.isGenerator = false
  cell : fd.scope.names.lookup x = some .cell
  cells : ∀ n, cellsFrom n fd.scope.names [] = [(x, n)]
noncomputable def fnCxC (prog : Program) (w : World) (A : Around) (g : Heap) (fd : FuncData) (L a : Addr) (F : FH) (s : Shared) (R : Res) : Cx :=
  { prog := prog, w := w, A := A.deeper (callEnvC fd L a), env := callEnvC fd L a, g := g, F0 := F, s0 := s, W := R.has, own := true, priv := [] }
theorem FnR.of_cell {prog : Program} {w : World} {g : Heap} {a : Addr} {fd : FuncData} {body : List Stmt} {x : PySem.Str} {d : Nat} {p : VP} {R : Res} {P : VP → Res → Prop} (G : Grd K g) (fn : IsFnC K a fd body x)
    (hb : ∀ v : Value, bindArgs fd ⟨[v], []⟩ = pure [(x, v)])
    (h : ∀ A F s L, Room A (d + 1) → Exs (fnCxC prog w A g fd L a F s R) { vars := [(x, p)], res := R } body (FnOut P)) : FnR prog w g (.ref a) (d + 1) [p] R P := by
  intro A F s vs rm hg hi hR hr RR k
  obtain ⟨v, rfl, rv⟩ := hr.one
  obtain ⟨o, ho, hd⟩ := fn.obj
  obtain ⟨pr, loose, mg, mb, T⟩ := G.T
  have hgs : ∀ b o, g.get? b = some o → s.heap.get? b = some o := fun b o e => hi _ _ (hg b o e)
  refine codeAny_call_cells (binds := [(x, v)]) (by have := rm.depth; unfold recursionLimit; first | lia | omega) (hgs _ _ (G.X _ _ ho)) hd (let ⟨mc, n1, n2⟩ := T.nolimit; ⟨mc, n1.keeps hgs, n2⟩) (codeRec_of (G.X.keeps hgs) fn.code) fn.body (hb v) fn.clos (fun y hy => ?_) (fun s₁ ic => ?_) fn.co fn.gen fn.kind
  · rw [List.mem_singleton.mp hy, fn.cells]
    exact .inr ⟨fn.cell, by simp [List.lookup]⟩
  generalize hLe : s.heap.objs.size = L at ic ⊢
  have nL : s.heap.get? L = none := hLe ▸ get_size _
  have nC : s.heap.get? (L + 1) = none := hLe ▸ get_ge (Nat.le_succ _)
  obtain ⟨h₀, tk, rfl⟩ := ic.toInCall.same
  have st : Step R.has F s F { s with heap := h₀, toks := tk } := .heap hi ic.toInCall.keep
  have cells0 : (callEnvC fd L a).cells = [(x, L + 1)] := fn.cells (L + 1)
  have kx : (callEnvC fd L a).kindOf x = some .cell := fn.cell
  have notR : ∀ b, R.has b → ∃ o, s.heap.get? b = some o := fun b q => by
    obtain ⟨⟨b', c⟩, hm, rfl⟩ := List.mem_map.mp q
    exact (hR.ok b' c hm).ex
  have hcell : h₀.IsCell (L + 1) (some v) := by
    have := ic.cell x (L + 1) (by rw [cells0]; simp [List.lookup])
    rw [show bindC (callEnvC fd L a).kindOf [(x, v)] (fun _ => none) x = some v from by unfold bindC; rw [if_neg (by rw [kx]; decide)]; simp [bindC]] at this
    exact this
  have ok : StOK (fnCxC prog w A g fd L a F s R) F { s with heap := h₀, toks := tk } { vars := [(x, p)], res := R } := by
    refine { base := st, gF := hg, hh := rm.hh, kind := fn.kind, glob := fn.glob, bltn := fn.bltn, ns := ⟨_, ic.toInCall.ns⟩, newL := nL, locF := none_of_fresh hi nL, locR := ?_, cells := fun y c hm => ?_, apart := ?_, newC := fun _ y c hm => ?_, vars := fun y q hm => ?_, res := ?_, resW := fun a ha => .inl ha, locW := ?_, cellW := fun y c hm => ?_, nd := ?_, priv := fun _ _ hm => (List.not_mem_nil hm).elim }
    · intro q
      obtain ⟨ob, e⟩ := notR _ q
      have : s.heap.get? (callEnvC fd L a).locals = none := nL
      have e' : s.heap.get? (callEnvC fd L a).locals = some ob := e
      rw [this] at e'; cases e'
    · have hm' : (y, c) ∈ (callEnvC fd L a).cells := hm
      rw [cells0] at hm'
      cases List.mem_singleton.mp hm'
      refine ⟨⟨_, hcell⟩, none_of_fresh hi nC, fun q => ?_⟩
      obtain ⟨ob, e⟩ := notR _ q
      rw [nC] at e; cases e
    · show (callEnvC fd L a).cells.Pairwise _
      rw [cells0]; exact List.pairwise_singleton _ _
    · have hm' : (y, c) ∈ (callEnvC fd L a).cells := hm
      rw [cells0] at hm'
      cases List.mem_singleton.mp hm'
      exact nC
    · cases List.mem_singleton.mp hm
      refine ⟨v, .inr ⟨.inl kx, L + 1, ?_, hcell⟩, rv⟩
      show (callEnvC fd L a).cells.lookup x = _
      rw [cells0]; simp [List.lookup]
    · exact hR.step (Step.heap (W := fun _ => False) hi ic.toInCall.keep) fun _ _ q => q
    · intro q
      obtain ⟨ob, e⟩ := notR _ q
      have e' : s.heap.get? L = some ob := e
      rw [nL] at e'; cases e'
    · have hm' : (y, c) ∈ (callEnvC fd L a).cells := hm
      rw [cells0] at hm'
      cases List.mem_singleton.mp hm'
      intro q
      obtain ⟨ob, e⟩ := notR _ q
      rw [nC] at e; cases e
    · simp
  refine h A F s L rm F _ ok _ _ fun f F' s' o sb oo po => ?_
  cases o with
  | nx σ' => cases f with
    | next =>
      obtain ⟨R', hs, hp⟩ := po
      exact k .none F' s' _ R' hp oo.base rfl (oo.res.sub hs) fun b hb => oo.resW b (Sub.has hs hb)
    | _ => exact oo.elim
  | rt p R1 => cases f with
    | ret v =>
      obtain ⟨R', hs, hp⟩ := po
      exact k v F' s' p R' hp oo.1 oo.2.1 (oo.2.2.1.sub hs) fun b hb => oo.2.2.2 b (Sub.has hs hb)
    | _ => exact oo.elim
  | bk σ' => exact po.elim
  | ct σ' => exact po.elim
/-- back with the cell -/
theorem Exs.retCell {e : Expr} {Φ : VP → St → Prop} {rest : List Stmt} {x : PySem.Str} {c : Addr} {u : Value} (he : EvE cx σ e Φ) (hk : cx.env.kindOf x = some .cell) (hc : cx.env.cells.lookup x = some c) (ho : cx.own = true)
    (h : ∀ p σ', Φ p σ' → (x, vVal u) ∈ σ'.vars ∧ ∃ fz : List (Addr × Obj), (∀ F s, StOK cx F s σ' → ∀ b ob, (b, ob) ∈ fz → F b = some ob) ∧ ∀ co : Obj, co.data = .cell (some u) → P (.rt p ((c, .raw co fz) :: σ'.res))) :
    Exs cx σ (.Return (some e) pos :: rest) P := .cons fun F s ok Q E k =>
  wpAny_Return_some (he F s ok _ _ fun p σ' v F' s' ph sb ok' r => by
    obtain ⟨hx, fz, hz, hp⟩ := h p σ' ph
    obtain ⟨v', av, rv⟩ := ok'.vars x _ hx
    cases rv
    have hmem := mem_of_lookup hc
    obtain ⟨co, gco, dco⟩ : s'.heap.IsCell c (some u) := by
      rcases av with ⟨hl, _⟩ | ⟨_, c', hc', ic⟩
      · rw [hk] at hl; cases hl
      · rw [hc] at hc'; cases hc'; exact ic
    obtain ⟨_, fc, rc⟩ := ok'.cells x c hmem
    refine k (.ret v) F' s' (.rt p ((c, .raw co fz) :: σ'.res)) sb ⟨ok'.base, r, ⟨fun a ce hm => ?_, fun a ce hm => ?_, ?_⟩, fun a ha => ?_⟩ (hp co dco)
    · rcases List.mem_cons.mp hm with e | hm
      · cases e; exact ⟨gco, hz F' s' ok'⟩
      · exact ok'.res.ok a ce hm
    · rcases List.mem_cons.mp hm with e | hm
      · cases e; exact fc
      · exact ok'.res.off a ce hm
    · rw [List.map_cons]; exact List.nodup_cons.mpr ⟨rc, ok'.res.nodup⟩
    · unfold Res.has at ha
      rw [List.map_cons] at ha
      rcases List.mem_cons.mp ha with e | ha
      · rw [e]; exact .inr (ok'.newC ho x c hmem)
      · exact ok'.resW a ha)
end Mine
namespace Mine
open PySem PySem.W PySem.Calls PyProof.Rows Builtin
variable {cx : Cx} {σ σ₁ σ₂ σ₃ : St} {pos : Pos} {P P' : Out → Prop} {K : Frag}
/-- what the making of a lambda reads -/
structure LamG (g : Heap) (c tb : Addr) : Prop where
  code : CodeHd g c tb
  top : ∃ mg bm ob, g.Ns mainGlobals mg ∧ mg "__builtins__" = some (.ref bm) ∧ bm ≠ builtinsNs ∧ g.get? bm = some ob ∧ ob.cls = .type "module" ∧ ob.dict = some builtinsNs ∧ ob.data = .plain
noncomputable abbrev lamObj (qual : PySem.Str) (params : Arguments) (body : Expr) (scope : Scope) (clos : List (PySem.Str × Addr)) (pm : Value) (c' : Addr) (ctv : Value) : Obj := kla_obj (PySem.Str.ofString "<lambda>") qual params body scope clos pm c' ctv
theorem StOK.recell {F s a c c' R'} (ok : StOK cx F s σ) (r : RSet a c c' σ.res R') (hc : CellOK F s.heap a c') : StOK cx F s { vars := σ.vars, res := R' } :=
  (ok.turnW (h' := s.heap) (tk := s.toks) r (fun _ _ _ e => e) hc).2
theorem EvE.lambda {params : Arguments} {body : Expr} {scope : Scope} {lp : Pos} {c tb : Addr} {clos : List (PySem.Str × Addr)} (Rf : Cell → Res) (LG : LamG cx.g c tb) (hcode : cx.env.code = .ref c)
    (r : ∀ ce, RSet tb (.raw (tabObj #[]) []) ce σ.res (Rf ce)) (r2 : ∀ ce ce', RSet tb ce ce' (Rf ce) (Rf ce')) (hdef : defaultsOf params cx.env = ([], [])) (hcl : closureFor scope cx.env = pure clos) :
    EvE cx σ (.Lambda params body scope lp) fun p σ' => ∃ (fa c' : Addr) (oc : Obj) (vs : Array Value) (t : Tok) (pm ctv : Value) (ts : Array Value),
      p = vFn fa (lamObj (cx.env.qual ++ "<lambda>") params body scope clos pm c' ctv) ∧ oc.data = .fields vs ∧ vs[1]? = some (.str (cx.env.qual ++ "<lambda>") t) ∧
      σ' = { vars := σ.vars, res := Rf (.raw (tabObj ts) [(fa, lamObj (cx.env.qual ++ "<lambda>") params body scope clos pm c' ctv), (c', oc)]) } := by
  intro F s ok Q E k
  obtain ⟨mg, bm, ob, hg, b1, b2, b3, b4, b5, b6⟩ := LG.top
  have hm := (r (.raw (tabObj #[]) [])).mem
  have hP := (ok.res.ok tb _ hm).1
  have hF := ok.res.off tb _ hm
  have off : ∀ b o, cx.g.get? b = some o → b ≠ tb := fun b o e q => by rw [q] at e; rw [ok.gF _ _ e] at hF; cases hF
  have hgP : mainGlobals ≠ tb := by obtain ⟨o, es, ep, e, _⟩ := hg; exact off _ _ e
  have hbG : bm ≠ mainGlobals := fun q => by
    obtain ⟨o, es, ep, e, hd, _⟩ := hg
    rw [q, e] at b3; cases b3; rw [hd] at b6; cases b6
  have hcl' := hcl
  refine kla_eval hdef (kla_makeFunction (mg := mg) hcl ok.glob (hg.keeps ok.g) hcode (LG.code.keeps ok.g) hP trivial rfl hgP ⟨bm, ob, b1, b2, hbG, off _ _ b3, ok.g _ _ b3, b4, b5, b6⟩ fun c' ctv h' tk hx hge hlt hrec htb => ?_)
  obtain ⟨c₂, oc, vs, t, e2, hoc, hd, hv⟩ := hrec
  cases e2
  generalize hfo : kla_obj "<lambda>" (cx.env.qual ++ "<lambda>") params body scope clos ((mg "__name__").getD .none) c' ctv = fo
  have hfs : fo.isFreed = false := by subst hfo; rfl
  have nC : s.heap.get? c' = none := get_ge hge
  have nF : s.heap.get? h'.objs.size = none := get_ge (Nat.le_trans hge (Nat.le_of_lt hlt))
  have ok1 := (ok.turnW (h' := h'.push fo) (tk := tk) (r (.raw (tabObj (#[] ++ #[rawInt lp.line, rawInt lp.col, .ref c'])) [])) (fun b o hb e => Heap.get?_push_of_some _ (hx b o hb e)) ⟨Heap.get?_push_of_some _ htb, fun _ _ h => (List.not_mem_nil h).elim⟩).2
  have like1 : (Rf (.raw (tabObj (#[] ++ #[rawInt lp.line, rawInt lp.col, .ref c'])) [])).map (·.1) = σ.res.map (·.1) := (r _).names
  have apC := Apart.res_of (σ₁ := { vars := σ.vars, res := Rf (.raw (tabObj (#[] ++ #[rawInt lp.line, rawInt lp.col, .ref c'])) []) }) (ok.apartOf (ms := [c']) fun m hm => by rw [List.mem_singleton.mp hm]; exact nC) like1
  have apF := Apart.res_of (σ₁ := { vars := σ.vars, res := Rf (.raw (tabObj (#[] ++ #[rawInt lp.line, rawInt lp.col, .ref c'])) []) }) (ok.apartOf (ms := [h'.objs.size]) fun m hm => by rw [List.mem_singleton.mp hm]; exact nF) like1
  have hFc : F c' = none := none_of_fresh ok.inh nC
  have hFf : F h'.objs.size = none := none_of_fresh ok.inh nF
  have ok2 := ok1.thaw apC hFc (Heap.get?_push_of_some _ hoc)
  have hFf2 : F.set c' oc h'.objs.size = none := by rw [FH.set_ne (Nat.ne_of_gt hlt)]; exact hFf
  have ok3 := ok2.thaw apF hFf2 (Heap.get?_push_size _ hfs)
  have sub3 : Sub F ((F.set c' oc).set h'.objs.size fo) := (FH.set_sub hFc).trans (FH.set_sub hFf2)
  have hz : ∀ b ob, (b, ob) ∈ [(h'.objs.size, fo), (c', oc)] → ((F.set c' oc).set h'.objs.size fo) b = some ob := fun b ob hm => by
    rcases List.mem_cons.mp hm with e | hm
    · cases e; exact FH.set_at ..
    · cases List.mem_singleton.mp hm
      exact FH.set_sub hFf2 _ _ (FH.set_at ..)
  have ok4 := ok3.recell (r2 _ (.raw (tabObj (#[] ++ #[rawInt lp.line, rawInt lp.col, .ref c'])) [(h'.objs.size, fo), (c', oc)])) ⟨Heap.get?_push_of_some _ htb, hz⟩
  subst hfo
  exact k _ _ (.ref h'.objs.size) _ _ ⟨h'.objs.size, c', oc, vs, t, _, ctv, _, rfl, hd, hv, rfl⟩ sub3 ok4 ⟨rfl, FH.set_at ..⟩
noncomputable def lamCx (prog : Program) (w : World) (A : Around) (g : Heap) (qual : PySem.Str) (scope : Scope) (L fa c' : Addr) (x : PySem.Str) (cl sg : Addr) (F : FH) (s : Shared) : Cx :=
  { prog := prog, w := w, A := A.deeper (envX qual scope L fa (.ref c') [(x, cl)]), env := envX qual scope L fa (.ref c') [(x, cl)], g := g, F0 := F, s0 := s, W := fun a => a = sg, own := false, priv := [] }
theorem FnD.lam {prog : Program} {w : World} {g : Heap} (G : Grd K g) {fa c' cl sg : Addr} {oc co : Obj} {vsC : Array Value} {tq : Tok} {qual : PySem.Str} {params : Arguments} {body : Expr} {scope : Scope} {x y : PySem.Str} {pm ctv : Value} {d : Nat} {q r : VP} {ps ps' : List VP}
    (hoc : oc.data = .fields vsC) (hv : vsC[1]? = some (.str qual tq)) (hco : co.data = .cell (some (.ref sg)))
    (hb : ∀ v, bindArgs (kla_fn "<lambda>" qual params body scope [(x, cl)] pm (.ref c') ctv) ⟨[v], []⟩ = pure [(y, v)])
    (hy : scope.names.lookup y = some .local) (hx : scope.names.lookup x = some .free) (hxc : (x == (PySem.Str.ofString "__classdict__")) = false) (hk : scope.kind = .function) (hcor : scope.isCoroutine = false) (hgen : scope.isGenerator = false) (hnc : ∀ z ∈ scope.names, z.2 ≠ .cell) (hxy : y ≠ x)
    (h : ∀ A F s L, Room A (d + 1) → Ev (lamCx prog w A g qual scope L fa c' x cl sg F s) { vars := [(y, q), (x, vVal (.ref sg))], res := [(sg, .lst ps)] } body r { vars := [(y, q), (x, vVal (.ref sg))], res := [(sg, .lst ps')] }) :
    FnD prog w g (.ref fa) (d + 1) [q] [(cl, .raw co [(fa, lamObj qual params body scope [(x, cl)] pm c' ctv), (c', oc)]), (sg, .lst ps)] r [(cl, .raw co [(fa, lamObj qual params body scope [(x, cl)] pm c' ctv), (c', oc)]), (sg, .lst ps')] := by
  intro A F s vs rm hg hi hR hr RR k
  obtain ⟨v, rfl, rv⟩ := hr.one
  obtain ⟨pr, loose, mg, mb, T⟩ := G.T
  have hgs : ∀ b o, g.get? b = some o → s.heap.get? b = some o := fun b o e => hi _ _ (hg b o e)
  obtain ⟨hcl, hfz⟩ := hR.ok cl _ List.mem_cons_self
  have ffa := hfz _ _ List.mem_cons_self
  have fc := hfz _ _ (List.mem_cons_of_mem _ List.mem_cons_self)
  have hclF := hR.off cl _ List.mem_cons_self
  have hnd := hR.nodup
  have hne : cl ≠ sg := fun e => by
    rw [List.map_cons] at hnd
    exact (List.nodup_cons.mp hnd).1 (by rw [show (cl, Cell.raw co [(fa, lamObj qual params body scope [(x, cl)] pm c' ctv), (c', oc)]).1 = sg from e]; exact List.mem_cons_self)
  obtain ⟨osg, esg⟩ := (hR.ok sg _ (List.mem_cons_of_mem _ List.mem_cons_self)).ex
  refine kla_callFunE (o := lamObj qual params body scope [(x, cl)] pm c' ctv) (body := body) (by have := rm.depth; unfold recursionLimit; first | lia | omega) (hi _ _ ffa) rfl hcor hgen rfl ⟨c', oc, vsC, tq, rfl, hi _ _ fc, hoc, hv⟩ ?_
  rw [hb v]
  refine wpAny_pure (wpAny_newFunctionEnv hnc (fun z hz => by rw [List.mem_singleton.mp hz]; exact hy) (fun h₀ hns hsb => ?_) hk)
  have hkp : ∀ b o, s.heap.get? b = some o → h₀.get? b = some o := fun b o e => hsb.extBut b o (Nat.ne_of_lt (Heap.lt_size e)) (Heap.get?_push_of_some _ e)
  refine ⟨(let ⟨mc, n1, n2⟩ := T.nolimit; ⟨mc, n1.keeps fun b o e => hkp b o (hgs b o e), n2⟩), kla_codeExpr ?_⟩
  generalize hLe : s.heap.objs.size = L at hns ⊢
  have nL : s.heap.get? L = none := hLe ▸ get_size _
  have st : Step (fun a => a = sg) F s F { s with heap := h₀, toks := s.toks + 1 } := .heap hi hkp
  have ok : StOK (lamCx prog w A g qual scope L fa c' x cl sg F s) F { s with heap := h₀, toks := s.toks + 1 } { vars := [(y, q), (x, vVal (.ref sg))], res := [(sg, .lst ps)] } := by
    refine { base := st, gF := hg, hh := rm.hh, kind := hk, glob := rfl, bltn := rfl, ns := ⟨_, hns⟩, newL := nL, locF := none_of_fresh hi nL, locR := ?_, cells := fun z c hm => ?_, apart := List.pairwise_singleton _ _, newC := fun q => (by cases q), vars := fun z p hm => ?_, res := ?_, resW := fun a ha => ?_, locW := ?_, cellW := fun z c hm => ?_, nd := ?_, priv := fun _ _ hm => (List.not_mem_nil hm).elim }
    · intro q
      have e := List.mem_singleton.mp q
      have e' : L = sg := e
      rw [← e', nL] at esg; cases esg
    · cases List.mem_singleton.mp hm
      exact ⟨⟨_, co, hkp _ _ hcl, hco⟩, hclF, fun q => hne (List.mem_singleton.mp q)⟩
    · rcases List.mem_cons.mp hm with e | hm
      · cases e
        exact ⟨v, .inl ⟨hy, _, hns, by simp [List.lookup]⟩, rv⟩
      · cases List.mem_singleton.mp hm
        exact ⟨_, .inr ⟨.inr ⟨hx, hxc⟩, cl, by simp [List.lookup, lamCx], co, hkp _ _ hcl, hco⟩, rfl⟩
    · exact (hR.sub (List.Sublist.cons _ (List.Sublist.refl _))).step (Step.heap (W := fun _ => False) hi hkp) fun _ _ q => q
    · exact .inl (List.mem_singleton.mp ha)
    · intro q
      have e' : L = sg := q
      rw [← e', nL] at esg; cases esg
    · cases List.mem_singleton.mp hm
      exact hne
    · simp [hxy]
  refine (h A F s L rm).run F _ ok _ _ fun u F' s' st' ok' ru => ?_
  have stT : Step (fun a => a = sg) F s F' s' := st.trans (st'.weaken fun a ha => List.mem_singleton.mp ha)
  have hRo : ResOK F' s'.heap [(cl, .raw co [(fa, lamObj qual params body scope [(x, cl)] pm c' ctv), (c', oc)]), (sg, .lst ps')] := by
    refine ⟨fun a c hm => ?_, fun a c hm => ?_, hnd⟩
    · rcases List.mem_cons.mp hm with e | hm
      · cases e; exact ⟨stT.keep cl co hne hcl, fun b ob hb => stT.sub _ _ (hfz b ob hb)⟩
      · exact ok'.res.ok a c hm
    · rcases List.mem_cons.mp hm with e | hm
      · cases e; exact stT.fresh cl co hcl hclF
      · exact ok'.res.off a c hm
  exact k u F' s' r _ ⟨rfl, rfl⟩ (stT.weaken fun a ha => by rw [ha]; exact List.mem_cons_of_mem _ List.mem_cons_self) ru hRo fun a ha => .inl ha
end Mine
namespace Mine
open PySem PySem.W PySem.Calls PyProof.Rows Builtin
variable {cx : Cx} {σ σ₁ σ₂ σ₃ : St} {pos : Pos} {P P' : Out → Prop} {K : Frag}
/-! calls that turn no cell -/
theorem Ev.callP {x : PySem.Str} {np : Pos} {a : Addr} {e : Expr} {rest : List Expr} {K : Frag} {fd : FuncData} {body : List Stmt} {d : Nat} {ps : List VP} {p : VP} (G : Grd K cx.g) (fn : IsFn K a fd body) (hf : Ev cx σ (.Name x np) (vVal (.ref a)) σ)
    (ha : EvAll cx σ pos (e :: rest) ps σ₁) (hc : FnD cx.prog cx.w cx.g (.ref a) d ps [] p []) (rm : Room cx.A d)
    (he : starEach (e :: rest) cx.env = (false, eval e cx.env) :: starEach rest cx.env := by with_unfolding_all rfl) :
    Ev cx σ (.Call (.Name x np) (e :: rest) [] pos) p σ₁ := Ev.callF G fn hf ha hc rm (Upd.none _) he
theorem Ev.callMP {o : Expr} {name : PySem.Str} {ap : Pos} {e : Expr} {rest : List Expr} {f : Addr} {d : Nat} {ps : List VP} {p q : VP} (G : Grd K cx.g) (fo : IsF K f) (ho : Ev cx σ o p σ₁) (hm : HasMeth cx σ₁ p name f)
    (ha : EvAll cx σ₁ pos (e :: rest) ps σ₂) (hc : FnD cx.prog cx.w cx.g (.ref f) d (p :: ps) [] q []) (rm : Room cx.A d)
    (he : starEach (e :: rest) cx.env = (false, eval e cx.env) :: starEach rest cx.env := by with_unfolding_all rfl)
    (hk : ∃ pl, eval (.Call (.Attribute o name ap) (e :: rest) [] pos) cx.env = (do
      let ov ← eval o cx.env
      standAt ap.atName
      let (f, first) ← holding [ov] (getMethod ov name pl)
      callWith pos f first (backTo pos (starEach (e :: rest) cx.env)) (backToKw pos (keywordEach [] cx.env))) := by exact ⟨_, by with_unfolding_all rfl⟩) :
    Ev cx σ (.Call (.Attribute o name ap) (e :: rest) [] pos) q σ₂ := Ev.callM G fo ho hm ha hc rm (Upd.none _) he hk
theorem Ev.callCP {x : PySem.Str} {np : Pos} {C : Addr} {e : Expr} {rest : List Expr} {d : Nat} {ps : List VP} {p : VP} (G : Grd K cx.g) (hk : keepIn K (.ref C) = true) (hf : Ev cx σ (.Name x np) (vVal (.ref C)) σ)
    (ha : EvAll cx σ pos (e :: rest) ps σ₁) (hc : FnD cx.prog cx.w cx.g (.ref C) d ps [] p []) (rm : Room cx.A d)
    (he : starEach (e :: rest) cx.env = (false, eval e cx.env) :: starEach rest cx.env := by with_unfolding_all rfl) (hp : (backTo pos (starEach (e :: rest) cx.env)).any (·.1) = false := by with_unfolding_all rfl) :
    Ev cx σ (.Call (.Name x np) (e :: rest) [] pos) p σ₁ := Ev.callC G hk hf ha hc rm (Upd.none _) he hp
theorem StOK.perm {F : FH} {s : Shared} {R' : Res} (ok : StOK cx F s σ) (h : R'.Perm σ.res) : StOK cx F s { vars := σ.vars, res := R' } := by
  have has : ∀ a, Res.has R' a → σ.res.has a := fun a q => (h.map (·.1)).subset q
  refine { ok with locR := fun q => ok.locR (has _ q), cells := fun y c hm => ⟨(ok.cells y c hm).1, (ok.cells y c hm).2.1, fun q => (ok.cells y c hm).2.2 (has _ q)⟩, res := ⟨fun a c hm => ok.res.ok a c (h.subset hm), fun a c hm => ok.res.off a c (h.subset hm), (h.map (·.1)).nodup_iff.mpr ok.res.nodup⟩, resW := fun a q => ok.resW a (has _ q), priv := fun a o hm => ?_ }
  obtain ⟨p1, p2, p3, p4, p5⟩ := ok.priv a o hm
  exact ⟨p1, p2, fun q => p3 (has _ q), p4, p5⟩
theorem Exs.perm {ss : List Stmt} {R' : Res} (h : R'.Perm σ.res) (k : Exs cx { vars := σ.vars, res := R' } ss P) : Exs cx σ ss P := fun F s ok => k F s (ok.perm h)
theorem StOK.frozen {F : FH} {s : Shared} {a : Addr} {o : Obj} {fz : List (Addr × Obj)} (ok : StOK cx F s σ) (h : RAt a (.raw o fz) σ.res) : ∀ b ob, (b, ob) ∈ fz → F b = some ob := (ok.res.ok a _ h.mem).2
end Mine
namespace Mine
open PySem PySem.W PySem.Calls PyProof.Rows Builtin
variable {cx : Cx} {σ σ₁ σ₂ σ₃ : St} {pos : Pos} {P P' : Out → Prop} {K : Frag}
/-! three and more operands -/
section
variable {M : Model} {A : Around} {E : Value → Shared → Prop} {s : Shared} {env : Env}
end
end Mine
namespace Mine
open PySem PySem.W PySem.Calls PyProof.Rows Builtin Builtin.Str Builtin.Int
/-! texts cut and joined -/
theorem S2_append (x y : PySem.Str) : S2 (x ++ y) = S2 x ++ S2 y := by
  rw [← S2L x, ← S2L y, L2S_append]; unfold S2; rw [L2S_toList, L2S_toList, L2S_toList]
theorem joinL_nil (s : List Nat) : joinL s [] = [] := rfl
theorem joinL_one (s x : List Nat) : joinL s [x] = x := rfl
theorem txt_join (s : PySem.Str) (l : List PySem.Str) : Txt.join s l = Str.join s l := by
  have := join_plain_closes s l; simpa using this
theorem S2_L2S (x : List Nat) : S2 (L2S x) = x := L2S_toList x
theorem joinL_cons (s x y : List Nat) (r : List (List Nat)) : joinL s (x :: y :: r) = x ++ s ++ joinL s (y :: r) := by
  unfold joinL
  rw [txt_join, txt_join]
  show S2 (Str.join (L2S s) (L2S x :: L2S y :: r.map L2S)) = _
  rw [join_cons_cons, S2_append, S2_append, S2_L2S, S2_L2S]; rfl
noncomputable def spl (c : Nat) : List Nat → List (List Nat)
  | [] => [[]]
  | d :: r => if d = c then [] :: spl c r else match spl c r with | [] => [[d]] | p :: ps => (d :: p) :: ps
theorem spl_ne (c : Nat) : ∀ l, spl c l ≠ []
  | [] => by simp [spl]
  | d :: r => by unfold spl; split; simp; split <;> simp
theorem spl_free (c : Nat) : ∀ (p : List Nat), c ∉ p → spl c p = [p]
  | [], _ => rfl
  | d :: r, h => by
    have h1 : d ≠ c := fun q => h (by rw [q]; exact List.mem_cons_self)
    have h2 : c ∉ r := fun q => h (List.mem_cons_of_mem _ q)
    unfold spl; rw [if_neg h1, spl_free c r h2]
theorem spl_cut (c : Nat) : ∀ (p r : List Nat), c ∉ p → spl c (p ++ c :: r) = p :: spl c r
  | [], r, _ => by simp [spl]
  | d :: p, r, h => by
    have h1 : d ≠ c := fun q => h (by rw [q]; exact List.mem_cons_self)
    have h2 : c ∉ p := fun q => h (List.mem_cons_of_mem _ q)
    show spl c (d :: (p ++ c :: r)) = _
    rw [spl, if_neg h1, spl_cut c p r h2]
theorem spl_join (c : Nat) : ∀ (ps : List (List Nat)), ps ≠ [] → (∀ p ∈ ps, c ∉ p) → spl c (joinL [c] ps) = ps
  | [], h, _ => absurd rfl h
  | [p], _, h => by rw [joinL_one]; exact spl_free c p (h p List.mem_cons_self)
  | p :: q :: r, _, h => by
    rw [joinL_cons, List.append_assoc]
    show spl c (p ++ c :: joinL [c] (q :: r)) = _
    rw [spl_cut c p _ (h p List.mem_cons_self), spl_join c (q :: r) (by simp) fun z hz => h z (List.mem_cons_of_mem _ hz)]
theorem join_splitL (x : List Nat) (c : Nat) : joinL [c] (splitL x [c]) = x := by
  unfold joinL splitL
  rw [List.map_map, show (L2S ∘ S2 : PySem.Str → PySem.Str) = _root_.id from funext fun s => S2L s, List.map_id, txt_join]
  have := StrLaws.join_split (L2S x) (L2S [c])
  rw [this, S2_L2S]
theorem splitL_spl (x : List Nat) (c : Nat) : splitL x [c] = spl c x := by
  have h1 : splitL x [c] ≠ [] := fun q => by
    have := split_pos (L2S x) (L2S [c])
    have e : (splitL x [c]).length = 0 := by rw [q]; rfl
    unfold splitL at e; rw [List.length_map] at e; first | lia | omega
  have h2 : ∀ p ∈ splitL x [c], c ∉ p := fun p hp => by
    unfold splitL at hp
    obtain ⟨s, hs, rfl⟩ := List.mem_map.mp hp
    exact StrLaws.split_free (L2S x) c s hs
  have := spl_join c _ h1 h2
  rw [join_splitL] at this
  exact this.symm
theorem spl_mem (c : Nat) : ∀ (l : List Nat), ∀ p ∈ spl c l, c ∉ p ∧ (∀ d ∈ p, d ∈ l) ∧ p.length ≤ l.length
  | [], p, h => by cases List.mem_singleton.mp h; simp
  | d :: r, p, h => by
    unfold spl at h
    by_cases hd : d = c
    · rw [if_pos hd] at h
      rcases List.mem_cons.mp h with rfl | h
      · simp
      · obtain ⟨a, b, e⟩ := spl_mem c r p h; exact ⟨a, fun z hz => List.mem_cons_of_mem _ (b z hz), by simp; first | lia | omega⟩
    · rw [if_neg hd] at h
      cases hs : spl c r with
      | nil => exact absurd hs (spl_ne c r)
      | cons q qs =>
        rw [hs] at h
        rcases List.mem_cons.mp h with rfl | h
        · obtain ⟨a, b, e⟩ := spl_mem c r q (by rw [hs]; exact List.mem_cons_self)
          refine ⟨fun z => ?_, fun z hz => ?_, by simp; first | lia | omega⟩
          · rcases List.mem_cons.mp z with z | z
            · exact hd z.symm
            · exact a z
          · rcases List.mem_cons.mp hz with z | z
            · rw [z]; exact List.mem_cons_self
            · exact List.mem_cons_of_mem _ (b _ z)
        · obtain ⟨a, b, e⟩ := spl_mem c r p (by rw [hs]; exact List.mem_cons_of_mem _ h)
          exact ⟨a, fun z hz => List.mem_cons_of_mem _ (b z hz), by simp; first | lia | omega⟩
theorem spl_len (c : Nat) : ∀ (l : List Nat), (spl c l).length ≤ l.length + 1
  | [] => by simp [spl]
  | d :: r => by
    have := spl_len c r
    unfold spl
    split
    · simp; first | lia | omega
    · split
      · simp
      · rename_i h; rw [h] at this; simp at this ⊢; first | lia | omega
theorem sum_le (m : Nat) : ∀ (l : List Nat), (∀ x ∈ l, x ≤ m) → l.sum ≤ l.length * m
  | [], _ => by simp
  | x :: l, h => by
    have h1 := sum_le m l fun y hy => h y (List.mem_cons_of_mem _ hy)
    have h2 := h x List.mem_cons_self
    simp only [List.sum_cons, List.length_cons, Nat.succ_mul]; first | lia | omega
theorem joinOk_of {s : List Nat} {ls : List (List Nat)} (n m : Nat) (h1 : ls.length ≤ n) (h2 : ∀ l ∈ ls, l.length ≤ m) (h3 : n * m + n ≤ 1000000) (h4 : s.length ≤ 16) : JoinOk (L2S s) (ls.map L2S) = true := by
  refine joinOk_of_weight ?_ (by rw [L2S_len]; exact h4)
  rw [List.map_map, List.length_map]
  have e : ((fun s : PySem.Str => s.length) ∘ L2S) = List.length := funext fun l => L2S_len l
  have : (ls.map List.length).sum ≤ (ls.map List.length).length * m := sum_le m _ fun x hx => by
    obtain ⟨l, hl, rfl⟩ := List.mem_map.mp hx; exact h2 l hl
  rw [List.length_map] at this
  have h5 : ls.length * m ≤ n * m := Nat.mul_le_mul_right m h1
  show (ls.map ((fun s : PySem.Str => s.length) ∘ L2S)).sum + _ ≤ _
  rw [e]; first | lia | omega
theorem joinL_flat : ∀ ls : List (List Nat), joinL [] ls = ls.flatten
  | [] => rfl
  | [x] => by rw [joinL_one]; simp
  | x :: y :: r => by rw [joinL_cons, joinL_flat (y :: r)]; simp
theorem flat_len (m : Nat) : ∀ ls : List (List Nat), (∀ l ∈ ls, l.length ≤ m) → ls.flatten.length ≤ ls.length * m
  | [], _ => by simp
  | x :: r, h => by
    have h1 := flat_len m r fun l hl => h l (List.mem_cons_of_mem _ hl)
    have h2 := h x List.mem_cons_self
    simp only [List.flatten_cons, List.length_append, List.length_cons, Nat.succ_mul]; first | lia | omega
theorem count_ten (x : List Nat) : Txt.count (L2S x) (L2S [10]) = ((x.count 10 : Nat) : Int) := by
  have h : ∀ x : List Nat, cnt 10 x = ((x.count 10 : Nat) : Int) := by
    intro x
    induction x with
    | nil => rfl
    | cons c r ih =>
      rw [cnt_cons, ih, List.count_cons]
      by_cases h : c = 10
      · subst h; simp; first | lia | omega
      · have h1 : (c == 10) = false := by simpa using h
        simp [h1, h]
  have := count_cnt (L2S x) 10
  rw [show (L2S [10] : PySem.Str) = ⟨#[10]⟩ from rfl, this, L2S_toList, h]
end Mine
namespace Mine
open PySem PySem.W PySem.Calls PyProof.Rows
noncomputable abbrev pw : Program := Challenge.rw_pg0255_02.prog
/-- a def's parts, by its way through the text -/
noncomputable def fnAt : List Nat → List Stmt → Option (Arguments × List Stmt × Scope)
  | [], _ => none
  | i :: is, ss => match ss[i]? with
    | some (.FunctionDef _ ps bd _ _ _ sc _ _ _) => some (ps, bd, sc)
    | some (.ClassDef _ _ _ bd _ _ _ _ _ _ _) => fnAt is bd
    | _ => none
noncomputable abbrev part1 {x : Option (Arguments × List Stmt × Scope)} {a b c} (_ : x = some (a, b, c)) : Arguments := a
noncomputable abbrev part2 {x : Option (Arguments × List Stmt × Scope)} {a b c} (_ : x = some (a, b, c)) : List Stmt := b
noncomputable abbrev part3 {x : Option (Arguments × List Stmt × Scope)} {a b c} (_ : x = some (a, b, c)) : Scope := c
noncomputable abbrev sn (x : String) : PySem.Str := PySem.Str.ofString x
noncomputable abbrev ent (P : Params) (x : PySem.Str) (t : Nat) (v : Value) : DictEntry := DictEntry.mk (PyData.keyHash P x) (Value.str x t) v
noncomputable abbrev fp21 : Arguments := part1 (x := fnAt [0] pw.main.body) (by with_unfolding_all rfl)
noncomputable abbrev fb21 : List Stmt := part2 (x := fnAt [0] pw.main.body) (by with_unfolding_all rfl)
noncomputable abbrev fs21 : Scope := part3 (x := fnAt [0] pw.main.body) (by with_unfolding_all rfl)
noncomputable abbrev fp38 : Arguments := part1 (x := fnAt [2, 1] pw.main.body) (by with_unfolding_all rfl)
noncomputable abbrev fb38 : List Stmt := part2 (x := fnAt [2, 1] pw.main.body) (by with_unfolding_all rfl)
noncomputable abbrev fs38 : Scope := part3 (x := fnAt [2, 1] pw.main.body) (by with_unfolding_all rfl)
noncomputable abbrev fp45 : Arguments := part1 (x := fnAt [2, 2] pw.main.body) (by with_unfolding_all rfl)
noncomputable abbrev fb45 : List Stmt := part2 (x := fnAt [2, 2] pw.main.body) (by with_unfolding_all rfl)
noncomputable abbrev fs45 : Scope := part3 (x := fnAt [2, 2] pw.main.body) (by with_unfolding_all rfl)
noncomputable abbrev fp52 : Arguments := part1 (x := fnAt [2, 3] pw.main.body) (by with_unfolding_all rfl)
noncomputable abbrev fb52 : List Stmt := part2 (x := fnAt [2, 3] pw.main.body) (by with_unfolding_all rfl)
noncomputable abbrev fs52 : Scope := part3 (x := fnAt [2, 3] pw.main.body) (by with_unfolding_all rfl)
noncomputable abbrev fp59 : Arguments := part1 (x := fnAt [2, 4] pw.main.body) (by with_unfolding_all rfl)
noncomputable abbrev fb59 : List Stmt := part2 (x := fnAt [2, 4] pw.main.body) (by with_unfolding_all rfl)
noncomputable abbrev fs59 : Scope := part3 (x := fnAt [2, 4] pw.main.body) (by with_unfolding_all rfl)
noncomputable abbrev fp66 : Arguments := part1 (x := fnAt [2, 5] pw.main.body) (by with_unfolding_all rfl)
noncomputable abbrev fb66 : List Stmt := part2 (x := fnAt [2, 5] pw.main.body) (by with_unfolding_all rfl)
noncomputable abbrev fs66 : Scope := part3 (x := fnAt [2, 5] pw.main.body) (by with_unfolding_all rfl)
noncomputable abbrev fp73 : Arguments := part1 (x := fnAt [2, 6] pw.main.body) (by with_unfolding_all rfl)
noncomputable abbrev fb73 : List Stmt := part2 (x := fnAt [2, 6] pw.main.body) (by with_unfolding_all rfl)
noncomputable abbrev fs73 : Scope := part3 (x := fnAt [2, 6] pw.main.body) (by with_unfolding_all rfl)
noncomputable abbrev fp80 : Arguments := part1 (x := fnAt [2, 7] pw.main.body) (by with_unfolding_all rfl)
noncomputable abbrev fb80 : List Stmt := part2 (x := fnAt [2, 7] pw.main.body) (by with_unfolding_all rfl)
noncomputable abbrev fs80 : Scope := part3 (x := fnAt [2, 7] pw.main.body) (by with_unfolding_all rfl)
noncomputable abbrev fp101 : Arguments := part1 (x := fnAt [4, 0] pw.main.body) (by with_unfolding_all rfl)
noncomputable abbrev fb101 : List Stmt := part2 (x := fnAt [4, 0] pw.main.body) (by with_unfolding_all rfl)
noncomputable abbrev fs101 : Scope := part3 (x := fnAt [4, 0] pw.main.body) (by with_unfolding_all rfl)
noncomputable abbrev fp108 : Arguments := part1 (x := fnAt [4, 1] pw.main.body) (by with_unfolding_all rfl)
noncomputable abbrev fb108 : List Stmt := part2 (x := fnAt [4, 1] pw.main.body) (by with_unfolding_all rfl)
noncomputable abbrev fs108 : Scope := part3 (x := fnAt [4, 1] pw.main.body) (by with_unfolding_all rfl)
noncomputable abbrev fp115 : Arguments := part1 (x := fnAt [4, 2] pw.main.body) (by with_unfolding_all rfl)
noncomputable abbrev fb115 : List Stmt := part2 (x := fnAt [4, 2] pw.main.body) (by with_unfolding_all rfl)
noncomputable abbrev fs115 : Scope := part3 (x := fnAt [4, 2] pw.main.body) (by with_unfolding_all rfl)
noncomputable abbrev fp122 : Arguments := part1 (x := fnAt [4, 3] pw.main.body) (by with_unfolding_all rfl)
noncomputable abbrev fb122 : List Stmt := part2 (x := fnAt [4, 3] pw.main.body) (by with_unfolding_all rfl)
noncomputable abbrev fs122 : Scope := part3 (x := fnAt [4, 3] pw.main.body) (by with_unfolding_all rfl)
noncomputable abbrev fp136 : Arguments := part1 (x := fnAt [9] pw.main.body) (by with_unfolding_all rfl)
noncomputable abbrev fb136 : List Stmt := part2 (x := fnAt [9] pw.main.body) (by with_unfolding_all rfl)
noncomputable abbrev fs136 : Scope := part3 (x := fnAt [9] pw.main.body) (by with_unfolding_all rfl)
noncomputable abbrev fp143 : Arguments := part1 (x := fnAt [10] pw.main.body) (by with_unfolding_all rfl)
noncomputable abbrev fb143 : List Stmt := part2 (x := fnAt [10] pw.main.body) (by with_unfolding_all rfl)
noncomputable abbrev fs143 : Scope := part3 (x := fnAt [10] pw.main.body) (by with_unfolding_all rfl)
noncomputable abbrev fp150 : Arguments := part1 (x := fnAt [12] pw.main.body) (by with_unfolding_all rfl)
noncomputable abbrev fb150 : List Stmt := part2 (x := fnAt [12] pw.main.body) (by with_unfolding_all rfl)
noncomputable abbrev fs150 : Scope := part3 (x := fnAt [12] pw.main.body) (by with_unfolding_all rfl)
noncomputable abbrev fp157 : Arguments := part1 (x := fnAt [13] pw.main.body) (by with_unfolding_all rfl)
noncomputable abbrev fb157 : List Stmt := part2 (x := fnAt [13] pw.main.body) (by with_unfolding_all rfl)
noncomputable abbrev fs157 : Scope := part3 (x := fnAt [13] pw.main.body) (by with_unfolding_all rfl)
noncomputable abbrev fp164 : Arguments := part1 (x := fnAt [14] pw.main.body) (by with_unfolding_all rfl)
noncomputable abbrev fb164 : List Stmt := part2 (x := fnAt [14] pw.main.body) (by with_unfolding_all rfl)
noncomputable abbrev fs164 : Scope := part3 (x := fnAt [14] pw.main.body) (by with_unfolding_all rfl)
noncomputable abbrev fp171 : Arguments := part1 (x := fnAt [15] pw.main.body) (by with_unfolding_all rfl)
noncomputable abbrev fb171 : List Stmt := part2 (x := fnAt [15] pw.main.body) (by with_unfolding_all rfl)
noncomputable abbrev fs171 : Scope := part3 (x := fnAt [15] pw.main.body) (by with_unfolding_all rfl)
noncomputable abbrev fp178 : Arguments := part1 (x := fnAt [16] pw.main.body) (by with_unfolding_all rfl)
noncomputable abbrev fb178 : List Stmt := part2 (x := fnAt [16] pw.main.body) (by with_unfolding_all rfl)
noncomputable abbrev fs178 : Scope := part3 (x := fnAt [16] pw.main.body) (by with_unfolding_all rfl)
noncomputable abbrev fp185 : Arguments := part1 (x := fnAt [17] pw.main.body) (by with_unfolding_all rfl)
noncomputable abbrev fb185 : List Stmt := part2 (x := fnAt [17] pw.main.body) (by with_unfolding_all rfl)
noncomputable abbrev fs185 : Scope := part3 (x := fnAt [17] pw.main.body) (by with_unfolding_all rfl)
noncomputable abbrev fp190 : Arguments := part1 (x := fnAt [18] pw.main.body) (by with_unfolding_all rfl)
noncomputable abbrev fb190 : List Stmt := part2 (x := fnAt [18] pw.main.body) (by with_unfolding_all rfl)
noncomputable abbrev fs190 : Scope := part3 (x := fnAt [18] pw.main.body) (by with_unfolding_all rfl)
noncomputable def KF (P : Params) : Frag := [
  (2, Obj.mk Value.none none (Data.dict #[]) #[]),
  (3, Obj.mk (Value.type "dict") none (Data.dict #[ent P (sn "__name__") 165 (Value.str (sn "law_pg0255_02") 388), ent P (sn "__doc__") 166 Value.none, ent P (sn "__package__") 167 Value.none, ent P (sn "__loader__") 168 (Value.builtin "__main__.__loader__#opaque"), ent P (sn "__spec__") 169 Value.none, ent P (sn "__annotations__") 170 (Value.ref 6), ent P (sn "__builtins__") 171 (Value.ref 4), ent P (sn "__file__") 173 (Value.str (sn "/claim/cut.py") 172), ent P (sn "__cached__") 174 Value.none, ent P (sn "_wall") 193 (Value.ref 21), ent P (sn "Whitespace") 291 (Value.ref 83), ent P (sn "_netrclex") 351 (Value.ref 125), ent P (sn "_MAX_STRING_SIZE") 355 (Value.int 40 354), ent P (sn "_MOVE_COST") 357 (Value.int 2 356), ent P (sn "_CASE_COST") 359 (Value.int 1 358), ent P (sn "_substitution_cost") 367 (Value.ref 136), ent P (sn "_levenshtein_distance") 387 (Value.ref 143), ent P (sn "_law_digits") 399 (Value.ref 150), ent P (sn "_law_written") 412 (Value.ref 157), ent P (sn "_law_open") 421 (Value.ref 164), ent P (sn "_law_columns") 433 (Value.ref 171), ent P (sn "_law_lead") 447 (Value.ref 178), ent P (sn "_law_least") 458 (Value.ref 185), ent P (sn "law") 464 (Value.ref 190)] 24) #[]),
  (20, Obj.mk (Value.type "code") none (Data.fields #[Value.str (sn "_wall") 187, Value.str (sn "_wall") 188, Value.str (sn "/claim/cut.py") 189, Value.int 1 0, Value.int 1 0, Value.int 0 0, Value.int 0 0, Value.int 3 0, Value.ref 15, Value.bool true, Value.int 181 0, Value.ref 16, Value.none, Value.ref 17, Value.ref 18, Value.ref 19, Value.int 191 0, Value.int 1 0, Value.str (sn "/claim/cut.py") 192]) #[]),
  (21, Obj.mk (Value.type "function") none (Data.func (FuncData.mk (sn "_wall") (sn "_wall") fp21 (FuncBody.stmts fb21) fs21 3 [] Value.none Value.none Value.none (Value.str (sn "__main__") 164) none (Value.ref 20) Value.none 0)) #[]),
  (37, Obj.mk (Value.type "code") none (Data.fields #[Value.str (sn "__init__") 213, Value.str (sn "Whitespace.__init__") 214, Value.str (sn "/claim/cut.py") 215, Value.int 8 0, Value.int 2 0, Value.int 0 0, Value.int 0 0, Value.int 3 0, Value.ref 32, Value.bool true, Value.int 181 0, Value.ref 33, Value.none, Value.ref 34, Value.ref 35, Value.ref 36, Value.int 225 0, Value.int 8 0, Value.str (sn "/claim/cut.py") 226]) #[]),
  (38, Obj.mk (Value.type "function") none (Data.func (FuncData.mk (sn "__init__") (sn "Whitespace.__init__") fp38 (FuncBody.stmts fb38) fs38 3 [] Value.none Value.none Value.none (Value.str (sn "cpy313.tabnanny") 194) none (Value.ref 37) Value.none 0)) #[]),
  (44, Obj.mk (Value.type "code") none (Data.fields #[Value.str (sn "longest_run_of_spaces") 228, Value.str (sn "Whitespace.longest_run_of_spaces") 229, Value.str (sn "/claim/cut.py") 230, Value.int 31 0, Value.int 1 0, Value.int 0 0, Value.int 0 0, Value.int 3 0, Value.ref 39, Value.bool true, Value.int 181 0, Value.ref 40, Value.none, Value.ref 41, Value.ref 42, Value.ref 43, Value.int 232 0, Value.int 31 0, Value.str (sn "/claim/cut.py") 233]) #[]),
  (45, Obj.mk (Value.type "function") none (Data.func (FuncData.mk (sn "longest_run_of_spaces") (sn "Whitespace.longest_run_of_spaces") fp45 (FuncBody.stmts fb45) fs45 3 [] Value.none Value.none Value.none (Value.str (sn "cpy313.tabnanny") 194) none (Value.ref 44) Value.none 0)) #[]),
  (51, Obj.mk (Value.type "code") none (Data.fields #[Value.str (sn "indent_level") 235, Value.str (sn "Whitespace.indent_level") 236, Value.str (sn "/claim/cut.py") 237, Value.int 34 0, Value.int 2 0, Value.int 0 0, Value.int 0 0, Value.int 3 0, Value.ref 46, Value.bool true, Value.int 181 0, Value.ref 47, Value.none, Value.ref 48, Value.ref 49, Value.ref 50, Value.int 244 0, Value.int 34 0, Value.str (sn "/claim/cut.py") 245]) #[]),
  (52, Obj.mk (Value.type "function") none (Data.func (FuncData.mk (sn "indent_level") (sn "Whitespace.indent_level") fp52 (FuncBody.stmts fb52) fs52 3 [] Value.none Value.none Value.none (Value.str (sn "cpy313.tabnanny") 194) none (Value.ref 51) Value.none 0)) #[]),
  (58, Obj.mk (Value.type "code") none (Data.fields #[Value.str (sn "equal") 247, Value.str (sn "Whitespace.equal") 248, Value.str (sn "/claim/cut.py") 249, Value.int 41 0, Value.int 2 0, Value.int 0 0, Value.int 0 0, Value.int 3 0, Value.ref 53, Value.bool true, Value.int 181 0, Value.ref 54, Value.none, Value.ref 55, Value.ref 56, Value.ref 57, Value.int 252 0, Value.int 41 0, Value.str (sn "/claim/cut.py") 253]) #[]),
  (59, Obj.mk (Value.type "function") none (Data.func (FuncData.mk (sn "equal") (sn "Whitespace.equal") fp59 (FuncBody.stmts fb59) fs59 3 [] Value.none Value.none Value.none (Value.str (sn "cpy313.tabnanny") 194) none (Value.ref 58) Value.none 0)) #[]),
  (65, Obj.mk (Value.type "code") none (Data.fields #[Value.str (sn "not_equal_witness") 255, Value.str (sn "Whitespace.not_equal_witness") 256, Value.str (sn "/claim/cut.py") 257, Value.int 44 0, Value.int 2 0, Value.int 0 0, Value.int 0 0, Value.int 3 0, Value.ref 60, Value.bool true, Value.int 181 0, Value.ref 61, Value.none, Value.ref 62, Value.ref 63, Value.ref 64, Value.int 260 0, Value.int 44 0, Value.str (sn "/claim/cut.py") 261]) #[]),
  (66, Obj.mk (Value.type "function") none (Data.func (FuncData.mk (sn "not_equal_witness") (sn "Whitespace.not_equal_witness") fp66 (FuncBody.stmts fb66) fs66 3 [] Value.none Value.none Value.none (Value.str (sn "cpy313.tabnanny") 194) none (Value.ref 65) Value.none 0)) #[]),
  (72, Obj.mk (Value.type "code") none (Data.fields #[Value.str (sn "less") 263, Value.str (sn "Whitespace.less") 264, Value.str (sn "/claim/cut.py") 265, Value.int 47 0, Value.int 2 0, Value.int 0 0, Value.int 0 0, Value.int 3 0, Value.ref 67, Value.bool true, Value.int 181 0, Value.ref 68, Value.none, Value.ref 69, Value.ref 70, Value.ref 71, Value.int 268 0, Value.int 47 0, Value.str (sn "/claim/cut.py") 269]) #[]),
  (73, Obj.mk (Value.type "function") none (Data.func (FuncData.mk (sn "less") (sn "Whitespace.less") fp73 (FuncBody.stmts fb73) fs73 3 [] Value.none Value.none Value.none (Value.str (sn "cpy313.tabnanny") 194) none (Value.ref 72) Value.none 0)) #[]),
  (79, Obj.mk (Value.type "code") none (Data.fields #[Value.str (sn "not_less_witness") 271, Value.str (sn "Whitespace.not_less_witness") 272, Value.str (sn "/claim/cut.py") 273, Value.int 50 0, Value.int 2 0, Value.int 0 0, Value.int 0 0, Value.int 3 0, Value.ref 74, Value.bool true, Value.int 181 0, Value.ref 75, Value.none, Value.ref 76, Value.ref 77, Value.ref 78, Value.int 276 0, Value.int 50 0, Value.str (sn "/claim/cut.py") 277]) #[]),
  (80, Obj.mk (Value.type "function") none (Data.func (FuncData.mk (sn "not_less_witness") (sn "Whitespace.not_less_witness") fp80 (FuncBody.stmts fb80) fs80 3 [] Value.none Value.none Value.none (Value.str (sn "cpy313.tabnanny") 194) none (Value.ref 79) Value.none 0)) #[]),
  (82, Obj.mk (Value.type "dict") none (Data.dict #[ent P (sn "__module__") 203 (Value.str (sn "cpy313.tabnanny") 194), ent P (sn "__firstlineno__") 207 (Value.int 5 206), ent P (sn "S") 211 (Value.str (sn " ") 209), ent P (sn "T") 212 (Value.str (sn "\t") 210), ent P (sn "__init__") 227 (Value.ref 38), ent P (sn "longest_run_of_spaces") 234 (Value.ref 45), ent P (sn "indent_level") 246 (Value.ref 52), ent P (sn "equal") 254 (Value.ref 59), ent P (sn "not_equal_witness") 262 (Value.ref 66), ent P (sn "less") 270 (Value.ref 73), ent P (sn "not_less_witness") 278 (Value.ref 80), ent P (sn "__static_attributes__") 284 (Value.ref 81), ent P (sn "__dict__") 286 (Value.ref 84), ent P (sn "__weakref__") 288 (Value.ref 85), ent P (sn "__doc__") 289 Value.none] 4) #[]),
  (83, Obj.mk (Value.type "type") none (Data.cls (ClassData.mk (sn "Whitespace") [Value.type "object"] [Value.ref 83, Value.type "object"] 82 (sn "Whitespace") true [] [] false none false)) #[none, none, some (Value.str (sn "Whitespace") 196), some (Value.str (sn "Whitespace") 204), some (Value.builtin "object.__new__"), some (Value.bool true)]),
  (84, Obj.mk (Value.type "getset_descriptor") none (Data.fields #[Value.str (sn "__dict__") 285, Value.ref 83, Value.builtin "function.__dict__", Value.builtin "function.__dict__#set"]) #[]),
  (85, Obj.mk (Value.type "getset_descriptor") none (Data.fields #[Value.str (sn "__weakref__") 287, Value.ref 83, Value.builtin "ExceptionGroup.__weakref__", Value.none]) #[]),
  (100, Obj.mk (Value.type "code") none (Data.fields #[Value.str (sn "__init__") 306, Value.str (sn "_netrclex.__init__") 307, Value.str (sn "/claim/cut.py") 308, Value.int 55 0, Value.int 2 0, Value.int 0 0, Value.int 0 0, Value.int 3 0, Value.ref 95, Value.bool true, Value.int 181 0, Value.ref 96, Value.none, Value.ref 97, Value.ref 98, Value.ref 99, Value.int 311 0, Value.int 55 0, Value.str (sn "/claim/cut.py") 312]) #[]),
  (101, Obj.mk (Value.type "function") none (Data.func (FuncData.mk (sn "__init__") (sn "_netrclex.__init__") fp101 (FuncBody.stmts fb101) fs101 3 [] Value.none Value.none Value.none (Value.str (sn "cpy313.netrc") 292) none (Value.ref 100) Value.none 0)) #[]),
  (107, Obj.mk (Value.type "code") none (Data.fields #[Value.str (sn "_read_char") 314, Value.str (sn "_netrclex._read_char") 315, Value.str (sn "/claim/cut.py") 316, Value.int 61 0, Value.int 1 0, Value.int 0 0, Value.int 0 0, Value.int 3 0, Value.ref 102, Value.bool true, Value.int 181 0, Value.ref 103, Value.none, Value.ref 104, Value.ref 105, Value.ref 106, Value.int 319 0, Value.int 61 0, Value.str (sn "/claim/cut.py") 320]) #[]),
  (108, Obj.mk (Value.type "function") none (Data.func (FuncData.mk (sn "_read_char") (sn "_netrclex._read_char") fp108 (FuncBody.stmts fb108) fs108 3 [] Value.none Value.none Value.none (Value.str (sn "cpy313.netrc") 292) none (Value.ref 107) Value.none 0)) #[]),
  (114, Obj.mk (Value.type "code") none (Data.fields #[Value.str (sn "get_token") 322, Value.str (sn "_netrclex.get_token") 323, Value.str (sn "/claim/cut.py") 324, Value.int 67 0, Value.int 1 0, Value.int 0 0, Value.int 0 0, Value.int 3 0, Value.ref 109, Value.bool true, Value.int 181 0, Value.ref 110, Value.none, Value.ref 111, Value.ref 112, Value.ref 113, Value.int 329 0, Value.int 67 0, Value.str (sn "/claim/cut.py") 330]) #[]),
  (115, Obj.mk (Value.type "function") none (Data.func (FuncData.mk (sn "get_token") (sn "_netrclex.get_token") fp115 (FuncBody.stmts fb115) fs115 3 [] Value.none Value.none Value.none (Value.str (sn "cpy313.netrc") 292) none (Value.ref 114) Value.none 0)) #[]),
  (121, Obj.mk (Value.type "code") none (Data.fields #[Value.str (sn "push_token") 332, Value.str (sn "_netrclex.push_token") 333, Value.str (sn "/claim/cut.py") 334, Value.int 94 0, Value.int 2 0, Value.int 0 0, Value.int 0 0, Value.int 3 0, Value.ref 116, Value.bool true, Value.int 181 0, Value.ref 117, Value.none, Value.ref 118, Value.ref 119, Value.ref 120, Value.int 337 0, Value.int 94 0, Value.str (sn "/claim/cut.py") 338]) #[]),
  (122, Obj.mk (Value.type "function") none (Data.func (FuncData.mk (sn "push_token") (sn "_netrclex.push_token") fp122 (FuncBody.stmts fb122) fs122 3 [] Value.none Value.none Value.none (Value.str (sn "cpy313.netrc") 292) none (Value.ref 121) Value.none 0)) #[]),
  (124, Obj.mk (Value.type "dict") none (Data.dict #[ent P (sn "__module__") 301 (Value.str (sn "cpy313.netrc") 292), ent P (sn "__firstlineno__") 305 (Value.int 53 304), ent P (sn "__init__") 313 (Value.ref 101), ent P (sn "_read_char") 321 (Value.ref 108), ent P (sn "get_token") 331 (Value.ref 115), ent P (sn "push_token") 339 (Value.ref 122), ent P (sn "__static_attributes__") 344 (Value.ref 123), ent P (sn "__dict__") 346 (Value.ref 126), ent P (sn "__weakref__") 348 (Value.ref 127), ent P (sn "__doc__") 349 Value.none] 4) #[]),
  (125, Obj.mk (Value.type "type") none (Data.cls (ClassData.mk (sn "_netrclex") [Value.type "object"] [Value.ref 125, Value.type "object"] 124 (sn "_netrclex") true [] [] false none false)) #[none, none, some (Value.str (sn "_netrclex") 294), some (Value.str (sn "_netrclex") 302), some (Value.builtin "object.__new__"), some (Value.bool true)]),
  (126, Obj.mk (Value.type "getset_descriptor") none (Data.fields #[Value.str (sn "__dict__") 345, Value.ref 125, Value.builtin "function.__dict__", Value.builtin "function.__dict__#set"]) #[]),
  (127, Obj.mk (Value.type "getset_descriptor") none (Data.fields #[Value.str (sn "__weakref__") 347, Value.ref 125, Value.builtin "ExceptionGroup.__weakref__", Value.none]) #[]),
  (135, Obj.mk (Value.type "code") none (Data.fields #[Value.str (sn "_substitution_cost") 360, Value.str (sn "_substitution_cost") 361, Value.str (sn "/claim/cut.py") 362, Value.int 100 0, Value.int 2 0, Value.int 0 0, Value.int 0 0, Value.int 3 0, Value.ref 130, Value.bool true, Value.int 181 0, Value.ref 131, Value.none, Value.ref 132, Value.ref 133, Value.ref 134, Value.int 365 0, Value.int 100 0, Value.str (sn "/claim/cut.py") 366]) #[]),
  (136, Obj.mk (Value.type "function") none (Data.func (FuncData.mk (sn "_substitution_cost") (sn "_substitution_cost") fp136 (FuncBody.stmts fb136) fs136 3 [] Value.none Value.none Value.none (Value.str (sn "cpy313.traceback") 352) none (Value.ref 135) Value.none 0)) #[]),
  (142, Obj.mk (Value.type "code") none (Data.fields #[Value.str (sn "_levenshtein_distance") 368, Value.str (sn "_levenshtein_distance") 369, Value.str (sn "/claim/cut.py") 370, Value.int 106 0, Value.int 3 0, Value.int 0 0, Value.int 0 0, Value.int 3 0, Value.ref 137, Value.bool true, Value.int 181 0, Value.ref 138, Value.none, Value.ref 139, Value.ref 140, Value.ref 141, Value.int 385 0, Value.int 106 0, Value.str (sn "/claim/cut.py") 386]) #[]),
  (143, Obj.mk (Value.type "function") none (Data.func (FuncData.mk (sn "_levenshtein_distance") (sn "_levenshtein_distance") fp143 (FuncBody.stmts fb143) fs143 3 [] Value.none Value.none Value.none (Value.str (sn "cpy313.traceback") 352) none (Value.ref 142) Value.none 0)) #[]),
  (149, Obj.mk (Value.type "code") none (Data.fields #[Value.str (sn "_law_digits") 390, Value.str (sn "_law_digits") 391, Value.str (sn "/claim/cut.py") 392, Value.int 145 0, Value.int 2 0, Value.int 0 0, Value.int 0 0, Value.int 3 0, Value.ref 144, Value.bool true, Value.int 181 0, Value.ref 145, Value.none, Value.ref 146, Value.ref 147, Value.ref 148, Value.int 397 0, Value.int 145 0, Value.str (sn "/claim/cut.py") 398]) #[]),
  (150, Obj.mk (Value.type "function") none (Data.func (FuncData.mk (sn "_law_digits") (sn "_law_digits") fp150 (FuncBody.stmts fb150) fs150 3 [] Value.none Value.none Value.none (Value.str (sn "law_pg0255_02") 388) none (Value.ref 149) Value.none 0)) #[]),
  (156, Obj.mk (Value.type "code") none (Data.fields #[Value.str (sn "_law_written") 400, Value.str (sn "_law_written") 401, Value.str (sn "/claim/cut.py") 402, Value.int 151 0, Value.int 3 0, Value.int 0 0, Value.int 0 0, Value.int 3 0, Value.ref 151, Value.bool true, Value.int 181 0, Value.ref 152, Value.none, Value.ref 153, Value.ref 154, Value.ref 155, Value.int 410 0, Value.int 151 0, Value.str (sn "/claim/cut.py") 411]) #[]),
  (157, Obj.mk (Value.type "function") none (Data.func (FuncData.mk (sn "_law_written") (sn "_law_written") fp157 (FuncBody.stmts fb157) fs157 3 [] Value.none Value.none Value.none (Value.str (sn "law_pg0255_02") 388) none (Value.ref 156) Value.none 0)) #[]),
  (163, Obj.mk (Value.type "code") none (Data.fields #[Value.str (sn "_law_open") 413, Value.str (sn "_law_open") 414, Value.str (sn "/claim/cut.py") 415, Value.int 165 0, Value.int 1 0, Value.int 0 0, Value.int 0 0, Value.int 3 0, Value.ref 158, Value.bool true, Value.int 181 0, Value.ref 159, Value.none, Value.ref 160, Value.ref 161, Value.ref 162, Value.int 419 0, Value.int 165 0, Value.str (sn "/claim/cut.py") 420]) #[]),
  (164, Obj.mk (Value.type "function") none (Data.func (FuncData.mk (sn "_law_open") (sn "_law_open") fp164 (FuncBody.stmts fb164) fs164 3 [] Value.none Value.none Value.none (Value.str (sn "law_pg0255_02") 388) none (Value.ref 163) Value.none 0)) #[]),
  (170, Obj.mk (Value.type "code") none (Data.fields #[Value.str (sn "_law_columns") 422, Value.str (sn "_law_columns") 423, Value.str (sn "/claim/cut.py") 424, Value.int 169 0, Value.int 1 0, Value.int 0 0, Value.int 0 0, Value.int 3 0, Value.ref 165, Value.bool true, Value.int 181 0, Value.ref 166, Value.none, Value.ref 167, Value.ref 168, Value.ref 169, Value.int 431 0, Value.int 169 0, Value.str (sn "/claim/cut.py") 432]) #[]),
  (171, Obj.mk (Value.type "function") none (Data.func (FuncData.mk (sn "_law_columns") (sn "_law_columns") fp171 (FuncBody.stmts fb171) fs171 3 [] Value.none Value.none Value.none (Value.str (sn "law_pg0255_02") 388) none (Value.ref 170) Value.none 0)) #[]),
  (177, Obj.mk (Value.type "code") none (Data.fields #[Value.str (sn "_law_lead") 434, Value.str (sn "_law_lead") 435, Value.str (sn "/claim/cut.py") 436, Value.int 179 0, Value.int 4 0, Value.int 0 0, Value.int 0 0, Value.int 3 0, Value.ref 172, Value.bool true, Value.int 181 0, Value.ref 173, Value.none, Value.ref 174, Value.ref 175, Value.ref 176, Value.int 445 0, Value.int 179 0, Value.str (sn "/claim/cut.py") 446]) #[]),
  (178, Obj.mk (Value.type "function") none (Data.func (FuncData.mk (sn "_law_lead") (sn "_law_lead") fp178 (FuncBody.stmts fb178) fs178 3 [] Value.none Value.none Value.none (Value.str (sn "law_pg0255_02") 388) none (Value.ref 177) Value.none 0)) #[]),
  (184, Obj.mk (Value.type "code") none (Data.fields #[Value.str (sn "_law_least") 448, Value.str (sn "_law_least") 449, Value.str (sn "/claim/cut.py") 450, Value.int 188 0, Value.int 2 0, Value.int 0 0, Value.int 0 0, Value.int 3 0, Value.ref 179, Value.bool true, Value.int 181 0, Value.ref 180, Value.none, Value.ref 181, Value.ref 182, Value.ref 183, Value.int 456 0, Value.int 188 0, Value.str (sn "/claim/cut.py") 457]) #[]),
  (185, Obj.mk (Value.type "function") none (Data.func (FuncData.mk (sn "_law_least") (sn "_law_least") fp185 (FuncBody.stmts fb185) fs185 3 [] Value.none Value.none Value.none (Value.str (sn "law_pg0255_02") 388) none (Value.ref 184) Value.none 0)) #[]),
  (189, Obj.mk (Value.type "code") none (Data.fields #[Value.str (sn "law") 459, Value.str (sn "law") 460, Value.str (sn "/claim/cut.py") 461, Value.int 198 0, Value.int 1 0, Value.int 0 0, Value.int 0 0, Value.int 3 0, Value.ref 186, Value.bool true, Value.int 181 0, Value.ref 187, Value.none, Value.none, Value.none, Value.ref 188, Value.int 462 0, Value.int 198 0, Value.str (sn "/claim/cut.py") 463]) #[]),
  (190, Obj.mk (Value.type "function") none (Data.func (FuncData.mk (sn "law") (sn "law") fp190 (FuncBody.stmts fb190) fs190 3 [] Value.none Value.none Value.none (Value.str (sn "law_pg0255_02") 388) none (Value.ref 189) Value.none 0)) #[])]
noncomputable def KFas : List Addr := [2, 3, 20, 21, 37, 38, 44, 45, 51, 52, 58, 59, 65, 66, 72, 73, 79, 80, 82, 83, 84, 85, 100, 101, 107, 108, 114, 115, 121, 122, 124, 125, 126, 127, 135, 136, 142, 143, 149, 150, 156, 157, 163, 164, 170, 171, 177, 178, 184, 185, 189, 190]
theorem KFas_eq (P : Params) : KFas = (KF P).map (·.1) := rfl
noncomputable abbrev HK : Hook := kmHook KF KFas KFas_eq [159]
noncomputable def hdView : Program := view pw [0, 2, 4, 6, 7, 8, 9, 10, 12, 13, 14, 15, 16, 17, 18]
noncomputable def hdLo : List PySem.Str := [PySem.Str.ofString "Whitespace"]
/-- the heap at the start as a tree -/
noncomputable def tree0 (P : Params) : BT := ((boot_heap P).objs.toList.foldl (fun (t : BT × Nat) o => (t.1.ins t.2 o, t.2 + 1)) (.nil, 0)).1
theorem heap0 (P : Params) : boot_heap P = absHeap (tree0 P) 11 (boot_heap P).life := by kernel_rfl
theorem size0 (P : Params) : ((boot_heap P).isNs mainGlobals && (#[] : Array GenState).size == 0) = true ∧ (boot_heap P).objs.size = 11 ∧ (boot_heap P).nsMap mainGlobals "__annotations__" = some (.ref 6) :=
  ⟨by kernel_rfl, by kernel_rfl, by kernel_rfl⟩
noncomputable def st0 (w : World) (os : OsState) : SharedT := ⟨tree0 w.params, 11, (boot_heap w.params).life, #[], boot_drawn, boot_toks, os⟩
theorem st0_abs (w : World) (os : OsState) : (st0 w os).abs = ⟨boot_heap w.params, #[], boot_drawn, boot_toks, os⟩ := congrArg (fun h => (⟨h, #[], boot_drawn, boot_toks, os⟩ : Shared)) (heap0 w.params).symm
/-- a run to the end of the thread -/
theorem topRun_of {tb : String → Option Builtin} {p : Program} {w : World} {n₀ : Nat} {ann : Option Value} : ∀ {n : Nat} {s s' : Shared} {t : Thread} {f : Flow} {c : Code} {q : Pos},
    segRun tb p w n₀ ann 0 n s t = some (f, s', c, q) → topRun tb p w n₀ ann n s t = some s'
  | 0, _, _, _, _, _, _, h => by cases h
  | n + 1, s, s', t, f, c, q, h => by
    unfold segRun at h
    unfold topRun
    have key : (∃ x, endAt 0 t = some x ∧ through t = true) ∨ (endAt 0 t = none ∧ through t = false) := by
      obtain ⟨cur, code, pos, stack⟩ := t
      cases stack with
      | nil => cases cur with
        | pure x => cases x with
          | done x => exact .inl ⟨x, rfl, rfl⟩
          | again x => exact .inr ⟨rfl, rfl⟩
        | _ => exact .inr ⟨rfl, rfl⟩
      | cons a b => exact .inr ⟨rfl, rfl⟩
    rcases key with ⟨x, e1, e2⟩ | ⟨e1, e2⟩
    · rw [e1] at h; rw [e2]; cases h; rfl
    · rw [e1] at h; rw [e2]
      cases hk : stepOk n₀ ann t with
      | false => rw [hk] at h; cases h
      | true =>
        rw [hk] at h
        cases hs : step (denote tb) p w s t with
        | halt o s₂ => rw [hs] at h; cases h
        | go s₂ t₂ => rw [hs] at h; exact topRun_of h
/-- the run of the top, and what is seen behind it -/
noncomputable def HdSeen {α : Type} (seg : (String → Option Builtin) → Program → World → Nat → Option Value → Nat → Nat → SharedT → Thread → Option (Flow × SharedT × Code × Pos)) (p q : Program) (loose : List PySem.Str) (Xt : Shared → Bool) (Yf : Shared → α) (Ya : World → α) (N : Nat) (w : World) : Prop :=
  (fun os => (seg treeTable p w 11 (some (.ref 6)) 0 N (st0 w os) (topStub p)).map fun r =>
    ((staticsOk (importedModules p.main.body) (boot_heap w.params) r.2.1.abs.heap && namesBound p r.2.1.abs.heap && gensDone r.2.1.abs && laidKept (boot_heap w.params) r.2.1.abs.heap),
      openSeen q loose (importedModules p.main.body) Xt true r.2.1.abs, Yf r.2.1.abs)) = fun _ => some (true, openGood q loose, Ya w)
theorem hdLeft_of {p q : Program} {loose : List PySem.Str} {Xt : Shared → Bool} {α : Type} {Yf : Shared → α} {Ya : World → α} {N : Nat} (e : opening p = plainProg p.main.scope.names) (hN : Nat.ble 600 N = true) (f : ∀ s, fenceModules? p s = some s)
    (h : ∀ w, HdSeen segRunT p q loose Xt Yf Ya N w) : LeftO p q loose Xt Yf Ya N := fun w => by
  obtain ⟨⟨h0, gs, d, k, os⟩, e0, e'⟩ := Option.map_eq_some_iff.mp (boot_open e hN f w)
  obtain ⟨rfl, rfl, rfl, rfl⟩ : h0 = boot_heap w.params ∧ gs = Array.mk [] ∧ d = boot_drawn ∧ k = boot_toks := by simpa using e'
  obtain ⟨z1, z2, z3⟩ := size0 w.params
  obtain ⟨⟨fl, s', c, ps⟩, hr, hl⟩ := Option.map_eq_some_iff.mp (congrFun (h w) os)
  obtain ⟨l1, hl⟩ := Prod.mk.inj hl
  obtain ⟨l2, l3⟩ := Prod.mk.inj hl
  have r := topRun_of (segRun_of hr)
  rw [st0_abs] at r
  have t : topFrom treeTable p w N ⟨boot_heap w.params, Array.mk [], boot_drawn, boot_toks, os⟩ = some s'.abs := by
    unfold topFrom
    dsimp only
    rw [z1, z2, z3, r]
    show (match staticsOk (importedModules p.main.body) (boot_heap w.params) s'.abs.heap && namesBound p s'.abs.heap && gensDone s'.abs && laidKept (boot_heap w.params) s'.abs.heap with | true => _ | false => _) = _
    rw [l1]
  unfold openEnds
  rw [e0]
  show (topFrom treeTable p w N _).map _ = _
  rw [t]
  exact congrArg some (Prod.ext l2 l3)
noncomputable abbrev hdRow : RowW := (OpenLaw.row Challenge.rw_pg0255_02).toRowW
noncomputable abbrev hdXt (s : Shared) : Bool := xlAt hdView [] s && recOk (RowW.records hdRow) s
theorem hdSeen_f (w : World) : HdSeen PySem.W.Fast.tw10110043849684766642 pw hdView hdLo hdXt HK.obs HK.val 2530 (w.withFollow "special-get-raises" false) := by unfold HdSeen; kernel_rfl
theorem hdSeen_t (w : World) : HdSeen PySem.W.Fast.tw10110043849684766642 pw hdView hdLo hdXt HK.obs HK.val 2530 (w.withFollow "special-get-raises" true) := by unfold HdSeen; kernel_rfl
theorem hdLeft : LeftO pw hdView hdLo hdXt HK.obs HK.val 2530 := by
  refine hdLeft_of rfl rfl (fun _ => rfl) ?_
  have e := PySem.W.Fast.te10110043849684766642
  rw [e]
  exact byRow2 "special-get-raises" (P := fun w => HdSeen PySem.W.Fast.tw10110043849684766642 pw hdView hdLo hdXt HK.obs HK.val 2530 w) hdSeen_f hdSeen_t
theorem hdSaid : OpenLaw.wellSaid Challenge.rw_pg0255_02 = true := (congrFun PySem.W.Fast.te9446332074065402090 _).trans (by kernel_rfl)
end Mine
namespace Mine
open PySem PySem.W PySem.Calls PyProof.Rows Builtin Builtin.Str Builtin.Int
local macro_rules | `(tactic| walk_at "mem") => `(tactic| first | with_reducible exact At.here | ((with_reducible apply At.there); walk_at "mem"))
local macro_rules | `(tactic| walk_at "memE") => `(tactic| first | with_reducible exact At.here | ((with_reducible refine At.hereE ?_); first | rfl | (simp; done)) | ((with_reducible apply At.there); walk_at "memE"))
local macro_rules | `(tactic| walk_at "rep") => `(tactic| first | with_reducible exact Rep.here | ((with_reducible apply Rep.there); walk_at "rep"))
local macro_rules | `(tactic| walk_at "put") => `(tactic| first | exact Put.oldL rfl (by walk_at "rep") | exact Put.newL rfl rfl | exact Put.oldC rfl rfl rfl (by walk_at "rep") | exact Put.newC rfl rfl rfl rfl | exact Put.newL (by with_unfolding_all rfl) rfl)
local macro_rules | `(tactic| walk_at "isfn") => `(tactic| exact ⟨⟨_, rfl, rfl⟩, rfl, by with_unfolding_all rfl, rfl, rfl, rfl, rfl, rfl, rfl, by decide⟩)
local macro_rules | `(tactic| walk_at "ev") => `(tactic| first
  | (apply Ev.isName; first | exact Ev.nm (by walk_at "mem") | exact Ev.gInt (by assumption) rfl rfl | exact Ev.gname (by assumption) rfl rfl | exact Ev.bname (by assumption) rfl rfl rfl)
  | (apply Ev.isConst; first | exact Ev.cInt | exact Ev.cStr rfl | exact Ev.cNone | exact Ev.cBool)
  | (apply Ev.isAdd; exact Ev.add (by walk_at "ev") (by walk_at "ev"))
  | (apply Ev.isSub; exact Ev.sub (by walk_at "ev") (by walk_at "ev"))
  | (apply Ev.isNeg; exact Ev.neg (by walk_at "ev")))
local macro_rules | `(tactic| walk_at "tst") => `(tactic| first
  | (apply Tst.isEq; first | exact Tst.eqI (by walk_at "ev") (by walk_at "ev") | exact Tst.eqS (by walk_at "ev") (by walk_at "ev"))
  | (apply Tst.isNe; first | exact Tst.neI (by walk_at "ev") (by walk_at "ev") | exact Tst.neS (by walk_at "ev") (by walk_at "ev"))
  | (apply Tst.isIn; first | exact Tst.inS (by walk_at "ev") (by walk_at "ev"))
  | (apply Tst.isLt; first | exact Tst.ltI (by walk_at "ev") (by walk_at "ev"))
  | (apply Tst.isLe; first | exact Tst.leI (by walk_at "ev") (by walk_at "ev"))
  | (apply Tst.isGt; first | exact Tst.gtI (by walk_at "ev") (by walk_at "ev"))
  | (apply Tst.isGe; first | exact Tst.geI (by walk_at "ev") (by walk_at "ev")))
local macro_rules | `(tactic| walk_at "vs") => `(tactic| first | exact VS.nil | (refine VS.cons (by walk_at "memE") ?_; walk_at "vs"))
local macro_rules | `(tactic| walk_at "subl") => `(tactic| first | with_reducible exact RSub.nil | ((with_reducible refine RSub.take ?_); walk_at "subl") | ((with_reducible refine RSub.takeE ?_ ?_); rfl; walk_at "subl") | ((with_reducible refine RSub.skip ?_); walk_at "subl"))
local macro_rules | `(tactic| walk_at "wk") => `(tactic| exact Wk.of (by walk_at "vs") (by with_unfolding_all rfl) (by walk_at "subl"))
local macro_rules | `(tactic| walk_at "rset") => `(tactic| first | exact RSet.here | (apply RSet.there; walk_at "rset"))
local macro_rules | `(tactic| walk_at "rdel") => `(tactic| first | exact RDel.here | (apply RDel.there; walk_at "rdel"))
local macro_rules | `(tactic| walk_at "rmem") => `(tactic| first | exact RAt.here | (apply RAt.there; walk_at "rmem"))
local macro_rules | `(tactic| walk_at "src") => `(tactic| first | exact Ev.srcL (by walk_at "ev") | exact Ev.srcO (by walk_at "ev") (by walk_at "rmem") | exact Ev.srcG (by walk_at "ev"))
local macro_rules | `(tactic| walk_at "own") => `(tactic| exact ⟨rfl, rfl, _, rfl, rfl⟩)
local macro_rules | `(tactic| walk_at "set") => `(tactic| exact ⟨rfl, rfl, rfl, rfl⟩)
local macro_rules | `(tactic| walk_at "fput") => `(tactic| first | exact FPut.new rfl | exact FPut.old (by walk_at "rep") rfl)
noncomputable abbrev KK (w : World) : Frag := KF w.params
/-- the cost of one sign for another -/
noncomputable def subc (x y : List Nat) : Int := if x == y then 0 else if S2 (Txt.lower (L2S x)) == S2 (Txt.lower (L2S y)) then 1 else 2
theorem sub_ok {prog : Program} {w : World} {g : Heap} (G : Grd (KK w) g) (x y : List Nat) (hx : (Txt.lower (L2S x)).length ≤ sizeLine) (hy : (Txt.lower (L2S y)).length ≤ sizeLine) :
    FnD prog w g (.ref 136) 1 [vStr x, vStr y] [] (vInt (subc x y)) [] := by
  refine FnR.of_vars (K := KK w) G (by walk_at "isfn") [(PySem.Str.ofString "ch_a", vStr x), (PySem.Str.ofString "ch_b", vStr y)] rfl (vals2 fun a b => rfl) rfl (by with_unfolding_all rfl) fun A F s L rm => ?_
  refine Exs.iff (by walk_at "tst") (fun h => ?_) fun h => ?_
  · refine Exs.ret Ev.cInt ⟨[], .slnil, ?_, rfl⟩
    unfold subc; rw [if_pos h]
  · refine Exs.nil (Exs.iff (.eqS (.lower (by walk_at "ev") hx) (.lower (by walk_at "ev") hy)) (fun h2 => ?_) fun h2 => ?_)
    · refine Exs.ret (by walk_at "ev") ⟨[], .slnil, ?_, rfl⟩
      unfold subc; rw [h, h2]; rfl
    · refine Exs.nil (Exs.ret (by walk_at "ev") ⟨[], .slnil, ?_, rfl⟩)
      unfold subc; rw [h, h2]; rfl
/-- digits of a number -/
noncomputable def digL : Int → List Int → List Int
  | _, [] => []
  | n, s :: r => n.fmod s :: digL (n.fdiv s) r
noncomputable def divL : Int → List Int → Int
  | n, [] => n
  | n, s :: r => divL (n.fdiv s) r
theorem digL_snoc : ∀ (n : Int) (l : List Int) (s : Int), digL n (l ++ [s]) = digL n l ++ [(divL n l).fmod s]
  | n, [], s => rfl
  | n, x :: l, s => by simp only [List.cons_append, digL, divL, digL_snoc]
theorem divL_snoc : ∀ (n : Int) (l : List Int) (s : Int), divL n (l ++ [s]) = (divL n l).fdiv s
  | n, [], s => rfl
  | n, x :: l, s => by simp only [List.cons_append, divL, divL_snoc]
theorem digL_length : ∀ (n : Int) (l : List Int), (digL n l).length = l.length
  | n, [] => rfl
  | n, x :: l => by simp only [digL, List.length_cons, digL_length]
theorem take_snoc {α : Type} {l : List α} {k : Nat} {x : α} (h : l[k]? = some x) : l.take (k + 1) = l.take k ++ [x] := by
  rw [List.take_add_one, h]; rfl
theorem digits_ok {prog : Program} {w : World} {g : Heap} (G : Grd (KK w) g) (n : Int) (sizes : List Int) (hs : ∀ s ∈ sizes, s ≠ 0 ∧ s.natAbs < 1073741824) (hl : sizes.length ≤ 1000) :
    FnD prog w g (.ref 150) 1 [vInt n, vListW (sizes.map vInt)] [] (vList ((digL n sizes).map vInt)) [] := by
  refine FnR.of_vars (K := KK w) G (by walk_at "isfn") [(PySem.Str.ofString "number", vInt n), (PySem.Str.ofString "sizes", vListW (sizes.map vInt))] rfl (vals2 fun a b => rfl) rfl (by with_unfolding_all rfl) fun A F s L rm => ?_
  refine Exs.asOwn (EvN.disp .nil) fun a ha => ⟨_, by walk_at "put", ?_⟩
  refine Exs.forI (EvIter.list (by walk_at "ev") (.inl calm_name))
    (fun k σ => ∃ m ds, (m = divL n (sizes.take k) ∧ ds = digL n (sizes.take k)) ∧ σ = { vars := [(PySem.Str.ofString "told", vVal (.ref a)), (PySem.Str.ofString "number", vInt m)], res := [(a, .lst (ds.map vInt))] })
    ⟨_, by walk_at "wk", n, [], ⟨by simp [divL], by simp [digL]⟩, rfl⟩ (fun k p pv σk hp hi => ?_) fun σk hi => ?_
  · obtain ⟨m, ds, ⟨rfl, rfl⟩, rfl⟩ := hi
    rw [List.getElem?_map] at hp
    obtain ⟨z, hz, rfl⟩ := Option.map_eq_some_iff.mp hp
    have hzm := hs z (List.mem_of_getElem? hz)
    have hk : k < sizes.length := (List.getElem?_eq_some_iff.mp hz).1
    refine ⟨_, As.name (by walk_at "put"), ?_⟩
    refine Exs.exp (Ev.app ((digL n (sizes.take k) ++ [(divL n (sizes.take k)).fmod z]).map vInt) (by walk_at "ev") (.mod (by walk_at "ev") (by walk_at "ev") hzm.1) (by walk_at "rset") (by simp) (by simp [digL_length, sizeLine]; first | lia | omega)) ?_
    refine Exs.assign (.fdiv (by walk_at "ev") (by walk_at "ev") hzm.1 hzm.2) (As.name (by walk_at "put")) ?_
    refine Exs.nil ⟨_, by walk_at "wk", _, digL n (sizes.take k) ++ [(divL n (sizes.take k)).fmod z], ⟨by rw [take_snoc hz, divL_snoc], by rw [take_snoc hz, digL_snoc]⟩, rfl⟩
  · obtain ⟨m, ds, ⟨rfl, rfl⟩, rfl⟩ := hi
    refine Exs.freeze (a := a) (At.mem (by walk_at "mem")) (by walk_at "rdel") (by walk_at "rep") ha ?_
    refine Exs.ret (by walk_at "ev") ⟨[], .slnil, ?_, rfl⟩
    simp
noncomputable def NC : Nat := 17
/-- a column at a tab size -/
noncomputable def colStep (size c : Int) (r : List Nat) : Int := (c + r.length) + size - (c + r.length).fmod size
noncomputable def colAt (runs : List (List Nat)) (size : Int) : Int := runs.dropLast.foldl (colStep size) 0 + (runs.getLastD []).length
noncomputable def colsOf (lead : List Nat) : List Int := (List.range (NC - 1)).map fun (i : Nat) => colAt (splitL lead [9]) (1 + (i : Int))
theorem splitL_len (x : List Nat) : 1 ≤ (splitL x [9]).length ∧ (splitL x [9]).length ≤ x.length + 2 := by
  unfold splitL
  rw [List.length_map]
  have h1 := split_pos (L2S x) (L2S [9])
  have h2 := split_le (L2S x) (L2S [9])
  rw [L2S_len] at h2
  exact ⟨h1, h2⟩
theorem columns_ok {prog : Program} {w : World} {g : Heap} (G : Grd (KK w) g) (lead : List Nat) (hl : lead.length ≤ 100000) (hp : ∀ r ∈ splitL lead [9], r.length ≤ 100000) :
    FnD prog w g (.ref 171) 1 [vStr lead] [] (vList ((colsOf lead).map vInt)) [] := by
  refine FnR.of_vars (K := KK w) G (by walk_at "isfn") [(PySem.Str.ofString "lead", vStr lead)] rfl (vals1 fun a => rfl) rfl (by with_unfolding_all rfl) fun A F s L rm => ?_
  obtain ⟨s1, s2⟩ := splitL_len lead
  have hsz : (vStrs (splitL lead [9])).length ≤ sizeLine := by unfold vStrs; rw [List.length_map, sizeLine_is]; first | lia | omega
  refine Exs.asOwn (EvN.disp .nil) fun a ha => ⟨_, by walk_at "put", ?_⟩
  refine Exs.assign (EvN.ev (EvN.split (y := [9]) (by walk_at "ev") (by walk_at "ev") rfl (by rw [sizeLine_is]; first | lia | omega) (by rw [sizeLine_is]; first | lia | omega))) (As.name (by walk_at "put")) ?_
  generalize hr : splitL lead [9] = runs at *
  refine Exs.forI (EvIter.range (n := NC - 1) (Ev.range2 (by walk_at "ev") (.cons (by walk_at "ev") (.cons (by walk_at "ev") .nil))) calm_name (by decide) (by decide))
    (fun k σ => ∃ cs : List Int, (cs = (List.range k).map fun (i : Nat) => colAt runs (1 + (i : Int))) ∧ σ = { vars := [(PySem.Str.ofString "runs", vList (vStrs runs)), (PySem.Str.ofString "told", vVal (.ref a))], res := [(a, .lst (cs.map vInt))] })
    ⟨_, by walk_at "wk", [], rfl, rfl⟩ (fun k p pv σk hp hi => ?_) fun σk hi => ?_
  · obtain ⟨cs, rfl, rfl⟩ := hi
    rw [List.getElem?_map] at hp
    obtain ⟨z, hz, rfl⟩ := Option.map_eq_some_iff.mp hp
    have hk : k < NC - 1 := by simpa using (List.getElem?_eq_some_iff.mp hz).1
    have hzk : k = z := by
      rw [List.getElem?_range (by simpa using hk)] at hz; exact Option.some.inj hz
    subst hzk
    refine ⟨_, As.name (by walk_at "put"), ?_⟩
    refine Exs.assign (by walk_at "ev") (As.name (by walk_at "put")) ?_
    have hbl : (vStrs runs).dropLast = vStrs runs.dropLast := by unfold vStrs; rw [List.map_dropLast]
    refine Exs.forI (EvIter.listL (EvN.butlast (by walk_at "src") (by walk_at "ev") hsz).ev calm_name)
      (fun j σ => ∃ c : Int, c = (runs.dropLast.take j).foldl (colStep (1 + (k : Int) * 1)) 0 ∧ σ = { vars := [(PySem.Str.ofString "size", vInt (1 + (k : Int) * 1)), (PySem.Str.ofString "column", vInt c), (PySem.Str.ofString "runs", vList (vStrs runs)), (PySem.Str.ofString "told", vVal (.ref a))], res := [(a, .lst (((List.range k).map fun (i : Nat) => colAt runs (1 + (i : Int))).map vInt))] })
      ⟨_, by walk_at "wk", 0, rfl, rfl⟩ (fun j p pv2 σj hp hi => ?_) fun σj hi => ?_
    · obtain ⟨c, rfl, rfl⟩ := hi
      rw [hbl] at hp
      unfold vStrs at hp
      rw [List.getElem?_map] at hp
      obtain ⟨r, hrj, rfl⟩ := Option.map_eq_some_iff.mp hp
      have hrl := ‹∀ r ∈ runs, r.length ≤ 100000› r (List.dropLast_subset _ (List.mem_of_getElem? hrj))
      refine ⟨_, As.name (by walk_at "put"), ?_⟩
      refine Exs.assign (.add (by walk_at "ev") (.lenS (by walk_at "ev") (by walk_at "ev") (by rw [sizeLine_is]; first | lia | omega))) (As.name (by walk_at "put")) ?_
      refine Exs.assign (.sub (by walk_at "ev") (.mod (by walk_at "ev") (by walk_at "ev") (by first | lia | omega))) (As.name (by walk_at "put")) ?_
      refine Exs.nil ⟨_, by walk_at "wk", _, ?_, rfl⟩
      rw [take_snoc hrj, List.foldl_append]; rfl
    · obtain ⟨c, rfl, rfl⟩ := hi
      have hlast : (runs.getLastD []).length ≤ sizeLine := by have := ‹∀ r ∈ runs, r.length ≤ 100000› (runs.getLastD []) (List.mem_of_getElem? (getLast_at [] s1)); rw [sizeLine_is]; first | lia | omega
      refine Exs.exp (Ev.app (((List.range (k + 1)).map fun (i : Nat) => colAt runs (1 + (i : Int))).map vInt) (by walk_at "ev") (.add (by walk_at "ev") (.lenS (by walk_at "ev") (.lastS (by walk_at "src") (by walk_at "ev") s1 (by rw [sizeLine_is]; first | lia | omega)) hlast)) (by walk_at "rset") ?_ ?_) ?_
      · rw [List.range_succ, List.map_append, List.map_append]
        congr 1
        simp only [List.map_cons, List.map_nil]
        unfold colAt
        rw [hbl]
        simp only [vStrs, List.length_map, List.take_length, Int.mul_one]
      · rw [List.length_map, List.length_map, List.length_range, sizeLine_is]; unfold NC at hk; first | lia | omega
      · exact Exs.nil ⟨_, by walk_at "wk", _, rfl, rfl⟩
  · obtain ⟨cs, rfl, rfl⟩ := hi
    refine Exs.freeze (a := a) (At.mem (by walk_at "mem")) (by walk_at "rdel") (by walk_at "rep") ha ?_
    refine Exs.ret (by walk_at "ev") ⟨[], .slnil, ?_, rfl⟩
    unfold colsOf
    rw [hr]
    simp
/-- a lead's form -/
structure WS where
  count : List Nat
  b : Nat
  n : Nat
  nt : Nat
noncomputable def WS.pad (w : WS) : List Nat := if w.count.length ≤ w.b then w.count ++ List.replicate (w.b - w.count.length + 1) 0 else w.count
noncomputable def WS.tab (w : WS) : WS := ⟨w.pad.set w.b (w.pad.getD w.b 0 + 1), 0, w.n + 1, w.nt + 1⟩
theorem WS.pad_len (w : WS) : w.b < w.pad.length ∧ w.pad.length ≤ max w.count.length (w.b + 1) ∧ ∀ k, (∀ c ∈ w.count, c ≤ k) → ∀ c ∈ w.pad, c ≤ k := by
  unfold WS.pad
  split
  · refine ⟨by rw [List.length_append, List.length_replicate]; first | lia | omega, by rw [List.length_append, List.length_replicate]; first | lia | omega, fun k h c hc => ?_⟩
    rcases List.mem_append.mp hc with h1 | h1
    · exact h c h1
    · rw [(List.mem_replicate.mp h1).2]; exact Nat.zero_le _
  · exact ⟨by first | lia | omega, by first | lia | omega, fun k h c hc => h c hc⟩
noncomputable def WS.run (w : WS) : List Nat → WS
  | [] => w
  | c :: r => if c = 32 then WS.run ⟨w.count, w.b + 1, w.n + 1, w.nt⟩ r else if c = 9 then WS.run w.tab r else w
structure WS.small (u : WS) (k : Nat) : Prop where
  b : u.b ≤ k
  len : u.count.length ≤ k
  c : ∀ c ∈ u.count, c ≤ k
noncomputable def wsOf (x : List Nat) : WS := WS.run ⟨[], 0, 0, 0⟩ x
noncomputable def wInts (l : List Nat) : List VP := l.map fun (c : Nat) => vInt (c : Int)
noncomputable abbrev wsFields (x : List Nat) : List (PySem.Str × VP) :=
  [(PySem.Str.ofString "is_simple", vBool (decide ((wsOf x).count.length ≤ 1))), (PySem.Str.ofString "norm", vTup [vTup (wInts (wsOf x).count), vInt ((wsOf x).b : Int)]),
   (PySem.Str.ofString "nt", vInt ((wsOf x).nt : Int)), (PySem.Str.ofString "n", vInt ((wsOf x).n : Int)), (PySem.Str.ofString "raw", vStr x)]
noncomputable abbrev CW : Addr := 83
theorem wsInit_ok {prog : Program} {w : World} {g : Heap} (G : Grd (KK w) g) (x : List Nat) (hl : x.length ≤ 500) (a d : Addr) :
    FnR prog w g (.ref 38) 1 [vVal (.ref a), vStr x] [(d, .inst a CW [])] fun q S => q = vVal .none ∧ S = [(d, .inst a CW (wsFields x))] := by
  refine FnR.of_vars (K := KK w) G (by walk_at "isfn") [(PySem.Str.ofString "self", vVal (.ref a)), (PySem.Str.ofString "ws", vStr x)] rfl (vals2 fun a b => rfl) rfl (by with_unfolding_all rfl) fun A F s L rm => ?_
  refine Exs.setAttr (K := KK w) (C := CW) G (by walk_at "set") (by walk_at "ev") (by walk_at "ev") (by walk_at "rset") (by walk_at "fput") (Nat.le_of_ble_eq_true rfl) ?_
  refine Exs.swap (x := PySem.Str.ofString "S") (y := PySem.Str.ofString "T") (p := vStr [32]) (q := vStr [9]) (.tup (.cons (.attrCS (K := KK w) (C := CW) (mc := .type "type") G rfl rfl rfl (by walk_at "ev")) (.cons (.attrCS (K := KK w) (C := CW) (mc := .type "type") G rfl rfl rfl (by walk_at "ev")) .nil)) (Nat.le_of_ble_eq_true rfl)) (by walk_at "put") (by walk_at "put") ?_
  refine Exs.asOwn (EvN.disp .nil) fun e he => ⟨_, by walk_at "put", ?_⟩
  refine Exs.assign3 (p := vInt (((0 : Nat)) : Int)) (by exact Ev.cInt) (As.name (by walk_at "put")) (As.name (by walk_at "put")) (As.name (by walk_at "put")) ?_
  refine Exs.forB (EvIter.str (.attrO (K := KK w) (C := CW) G (by walk_at "own") (by walk_at "ev") (by walk_at "rmem") (by walk_at "mem") handed_str) calm_name)
    (fun k σ => ∃ u e, (WS.run u (x.drop k) = wsOf x ∧ WS.small u k) ∧ σ = { vars := [(PySem.Str.ofString "b", vInt (u.b : Int)), (PySem.Str.ofString "n", vInt (u.n : Int)), (PySem.Str.ofString "nt", vInt (u.nt : Int)), (PySem.Str.ofString "count", vVal (.ref e)), (PySem.Str.ofString "S", vStr [32]), (PySem.Str.ofString "T", vStr [9]), (PySem.Str.ofString "self", vVal (.ref a))], res := [(e, .lst (wInts u.count)), (d, .inst a CW [(PySem.Str.ofString "raw", vStr x)])] })
    (fun σ => ∃ u e, (u = wsOf x ∧ WS.small u 500) ∧ σ = { vars := [(PySem.Str.ofString "b", vInt (u.b : Int)), (PySem.Str.ofString "n", vInt (u.n : Int)), (PySem.Str.ofString "nt", vInt (u.nt : Int)), (PySem.Str.ofString "count", vVal (.ref e)), (PySem.Str.ofString "S", vStr [32]), (PySem.Str.ofString "T", vStr [9]), (PySem.Str.ofString "self", vVal (.ref a))], res := [(e, .lst (wInts u.count)), (d, .inst a CW [(PySem.Str.ofString "raw", vStr x)])] })
    ⟨_, by walk_at "wk", ⟨[], 0, 0, 0⟩, e, ⟨rfl, ⟨Nat.le_refl _, Nat.le_refl _, fun c hc => (List.not_mem_nil hc).elim⟩⟩, rfl⟩ (fun k p pv σk hp hi => ?_) (fun σk hi => ?_) fun σd hi => ?_
  · obtain ⟨u, e, ⟨hrun, hsm⟩, rfl⟩ := hi
    obtain ⟨c, hc, rfl⟩ := strs_at hp
    have hk : k < x.length := (List.getElem?_eq_some_iff.mp hc).1
    rw [drop_at hc] at hrun
    have hszc : (wInts u.count).length ≤ sizeLine := by unfold wInts; rw [List.length_map, sizeLine_is]; have := hsm.len; first | lia | omega
    refine ⟨_, As.name (by walk_at "put"), ?_⟩
    refine Exs.iff (by walk_at "tst") (fun h => ?_) fun h => ?_
    · have h32 : c = 32 := by simpa using h
      refine Exs.assign (by walk_at "ev") (As.name (by walk_at "put")) ?_
      refine Exs.assign (by walk_at "ev") (As.name (by walk_at "put")) ?_
      refine Exs.nil (Exs.nil ⟨_, by walk_at "wk", ⟨u.count, u.b + 1, u.n + 1, u.nt⟩, e, ⟨?_, ?_⟩, rfl⟩)
      · rw [← hrun, WS.run, if_pos h32]
      · exact ⟨Nat.succ_le_succ hsm.b, Nat.le_succ_of_le hsm.len, fun c hc => Nat.le_succ_of_le (hsm.c c hc)⟩
    · have h32 : c ≠ 32 := by simpa using h
      refine Exs.iff (by walk_at "tst") (fun h2 => ?_) fun h2 => ?_
      · have h9 : c = 9 := by simpa using h2
        refine Exs.assign (by walk_at "ev") (As.name (by walk_at "put")) ?_
        refine Exs.assign (by walk_at "ev") (As.name (by walk_at "put")) ?_
        have hpl := WS.pad_len u
        have hb := hsm.b
        refine Exs.iffM (fun σ => ∃ e2, σ = { vars := [(PySem.Str.ofString "b", vInt (u.b : Int)), (PySem.Str.ofString "n", vInt (((u.n + 1 : Nat)) : Int)), (PySem.Str.ofString "nt", vInt ((u.nt + 1 : Nat) : Int)), (PySem.Str.ofString "count", vVal (.ref e2)), (PySem.Str.ofString "S", vStr [32]), (PySem.Str.ofString "T", vStr [9]), (PySem.Str.ofString "self", vVal (.ref a))], res := [(e2, .lst (wInts u.pad)), (d, .inst a CW [(PySem.Str.ofString "raw", vStr x)])] }) (.geI (by walk_at "ev") (.lenL (by walk_at "ev") (by walk_at "src") hszc)) (fun h3 => ?_) (fun h3 => ?_) fun σ' h3 => ?_
        · have h4 : u.count.length ≤ u.b := by simp [wInts] at h3; first | lia | omega
          have q1 : (u.b : Int) - ((wInts u.count).length : Int) + 1 ≤ 1000 := by unfold wInts; rw [List.length_map]; first | lia | omega
          have q2 : -1000 ≤ (u.b : Int) - ((wInts u.count).length : Int) + 1 := by unfold wInts; rw [List.length_map]; first | lia | omega
          have q3 : (wInts u.count).length + (List.replicate ((u.b : Int) - ((wInts u.count).length : Int) + 1).toNat (vInt 0)).length ≤ sizeLine := by rw [List.length_replicate]; unfold wInts; rw [List.length_map, sizeLine_is]; first | lia | omega
          have q4 : wInts u.count ++ List.replicate ((u.b : Int) - ((wInts u.count).length : Int) + 1).toNat (vInt 0) = wInts u.pad := by
            unfold WS.pad wInts
            rw [if_pos h4, List.map_append, List.map_replicate, List.length_map]
            congr 2
            first | lia | omega
          refine Exs.asOwn (by exact EvN.eq (EvN.addL (Ev.srcRL (by walk_at "ev") (by walk_at "rmem")) (EvN.mul (Ev.src (EvN.ev (EvN.disp (EvAll.cons (by walk_at "ev") EvAll.nil) (Nat.le_of_ble_eq_true rfl)))) (Ev.add (Ev.sub (by walk_at "ev") (Ev.lenL (by walk_at "ev") (by walk_at "src") hszc)) (by walk_at "ev")) q1 q2) q3) q4) fun e2 he2 => ⟨_, by walk_at "put", Exs.nil ⟨_, by walk_at "wk", e2, rfl⟩⟩
        · have h4 : ¬ u.count.length ≤ u.b := by simp [wInts] at h3; first | lia | omega
          refine Exs.nil ⟨_, ?_, e, rfl⟩
          rw [show u.pad = u.count from if_neg h4]
          walk_at "wk"
        · obtain ⟨e2, rfl⟩ := h3
          have hget : (wInts u.pad)[u.b]? = some (vInt ((u.pad.getD u.b 0 : Nat) : Int)) := by
            unfold wInts
            rw [List.getElem?_map, List.getElem?_eq_getElem hpl.1]
            simp [List.getD, List.getElem?_eq_getElem hpl.1]
          have hps : (wInts u.pad).length ≤ sizeLine := by unfold wInts; rw [List.length_map, sizeLine_is]; have := hsm.len; first | lia | omega
          refine Exs.putItem (wInts (u.pad.set u.b (u.pad.getD u.b 0 + 1))) (by exact Ev.add (Ev.atL (ps := wInts u.pad) (by walk_at "src") (by walk_at "ev") hget hps) (by walk_at "ev")) (by walk_at "ev") (by walk_at "ev") (by walk_at "rset") (by unfold wInts; rw [List.length_map]; exact hpl.1) (by unfold wInts; rw [List.map_set]; rfl) hps ?_
          refine Exs.assign (p := vInt (((0 : Nat)) : Int)) (by exact Ev.cInt) (As.name (by walk_at "put")) ?_
          refine Exs.nil (Exs.nil (Exs.nil ⟨_, by walk_at "wk", ⟨u.pad.set u.b (u.pad.getD u.b 0 + 1), 0, u.n + 1, u.nt + 1⟩, e2, ⟨?_, ?_⟩, rfl⟩))
          · rw [← hrun, WS.run, if_neg h32, if_pos h9]; rfl
          · refine ⟨Nat.zero_le _, ?_, ?_⟩
            · show (u.pad.set _ _).length ≤ _
              rw [List.length_set]; have := hsm.len; first | lia | omega
            · intro c hc
              rcases List.mem_or_eq_of_mem_set hc with h | h
              · exact Nat.le_succ_of_le (hpl.2.2 k hsm.c c h)
              · subst h
                have := hpl.2.2 k hsm.c (u.pad.getD u.b 0) (by simp [List.getD, List.getElem?_eq_getElem hpl.1])
                first | lia | omega
      · have h9 : c ≠ 9 := by simpa using h2
        refine Exs.brk ⟨_, by walk_at "wk", u, e, ⟨?_, ⟨?_, ?_, ?_⟩⟩, rfl⟩
        · rw [← hrun, WS.run, if_neg h32, if_neg h9]
        · have := hsm.b; first | lia | omega
        · have := hsm.len; first | lia | omega
        · intro c hc; have := hsm.c c hc; first | lia | omega
  · obtain ⟨u, e, ⟨hrun, hsm⟩, rfl⟩ := hi
    rw [strs_len, List.drop_length] at hrun
    rw [strs_len] at hsm
    exact ⟨_, by walk_at "wk", u, e, ⟨hrun, ⟨by have := hsm.b; first | lia | omega, by have := hsm.len; first | lia | omega, fun c hc => by have := hsm.c c hc; first | lia | omega⟩⟩, rfl⟩
  · obtain ⟨u, e, ⟨rfl, hsm⟩, rfl⟩ := hi
    have hszc : (wInts (wsOf x).count).length ≤ sizeLine := by unfold wInts; rw [List.length_map, sizeLine_is]; have := hsm.len; first | lia | omega
    refine Exs.setAttr (K := KK w) (C := CW) G (by walk_at "set") (by walk_at "ev") (by walk_at "ev") (by walk_at "rset") (by walk_at "fput") (Nat.le_of_ble_eq_true rfl) ?_
    refine Exs.setAttr (K := KK w) (C := CW) G (by walk_at "set") (by walk_at "ev") (by walk_at "ev") (by walk_at "rset") (by walk_at "fput") (Nat.le_of_ble_eq_true rfl) ?_
    refine Exs.setAttr (K := KK w) (C := CW) G (by walk_at "set") (.tup (.cons (.tupleL (by walk_at "ev") (by walk_at "src") hszc) (.cons (by walk_at "ev") .nil)) (Nat.le_of_ble_eq_true rfl)) (by walk_at "ev") (by walk_at "rset") (by walk_at "fput") (Nat.le_of_ble_eq_true rfl) ?_
    refine Exs.setAttr (K := KK w) (C := CW) G (by walk_at "set") (.leI (.lenL (by walk_at "ev") (by walk_at "src") hszc) (by walk_at "ev")) (by walk_at "ev") (by walk_at "rset") (by walk_at "fput") (Nat.le_of_ble_eq_true rfl) ?_
    refine Exs.nil ⟨[(d, .inst a CW (wsFields x))], ?_, rfl, rfl⟩
    have e1 : decide (((wInts (wsOf x).count).length : Int) ≤ 1) = decide ((wsOf x).count.length ≤ 1) := by
      unfold wInts; rw [List.length_map, Bool.eq_iff_iff]; simp; first | lia | omega
    rw [e1]
    exact List.Sublist.cons _ (List.Sublist.refl _)
noncomputable def ilSum (count : List Nat) (ts : Nat) : Nat → Int
  | 0 => 0
  | k + 1 => ilSum count ts k + ((ts + k : Nat) : Int).fdiv ts * ((count.getD (ts + k) 0 : Nat) : Int)
noncomputable def indentOf (u : WS) (ts : Nat) : Int := (u.b : Int) + (ts : Int) * (ilSum u.count ts (u.count.length - ts) + (u.nt : Int))
theorem wsRun_small : ∀ (x : List Nat) (u : WS) (k : Nat), u.small k → (WS.run u x).small (k + x.length)
  | [], u, k, h => by simpa [WS.run] using h
  | c :: r, u, k, h => by
    unfold WS.run
    have e : k + (c :: r).length = (k + 1) + r.length := by simp; first | lia | omega
    rw [e]
    split
    · exact wsRun_small r _ (k + 1) ⟨Nat.succ_le_succ h.b, Nat.le_succ_of_le h.len, fun c hc => Nat.le_succ_of_le (h.c c hc)⟩
    · split
      · refine wsRun_small r _ (k + 1) ⟨Nat.zero_le _, ?_, ?_⟩
        · show (u.pad.set _ _).length ≤ _
          rw [List.length_set]; have := (WS.pad_len u).2.1; have := h.len; have := h.b; first | lia | omega
        · intro c hc
          rcases List.mem_or_eq_of_mem_set hc with h1 | h1
          · exact Nat.le_succ_of_le ((WS.pad_len u).2.2 k h.c c h1)
          · subst h1
            have := (WS.pad_len u).2.2 k h.c (u.pad.getD u.b 0) (by simp [List.getD, List.getElem?_eq_getElem (WS.pad_len u).1])
            first | lia | omega
      · exact ⟨by have := h.b; first | lia | omega, by have := h.len; first | lia | omega, fun c hc => by have := h.c c hc; first | lia | omega⟩
theorem wsOf_small (x : List Nat) : (wsOf x).small x.length := by
  have := wsRun_small x ⟨[], 0, 0, 0⟩ 0 ⟨Nat.le_refl _, Nat.le_refl _, fun c hc => (List.not_mem_nil hc).elim⟩
  simpa [wsOf] using this
theorem indent_ok {prog : Program} {w : World} {g : Heap} (G : Grd (KK w) g) (x : List Nat) (hl : x.length ≤ 500) (ts : Nat) (h1 : 1 ≤ ts) (h2 : ts ≤ 1000) :
    FnD prog w g (.ref 52) 1 [vInst CW (wsFields x), vInt (ts : Int)] [] (vInt (indentOf (wsOf x) ts)) [] := by
  refine FnR.of_vars (K := KK w) G (by walk_at "isfn") [(PySem.Str.ofString "self", vInst CW (wsFields x)), (PySem.Str.ofString "tabsize", vInt (ts : Int))] rfl (vals2 fun a b => rfl) rfl (by with_unfolding_all rfl) fun A F s L rm => ?_
  have hsm := wsOf_small x
  have hlen : (wInts (wsOf x).count).length = (wsOf x).count.length := by unfold wInts; rw [List.length_map]
  have hlc := hsm.len
  refine Exs.assign (.attrF (K := KK w) (C := CW) G (by walk_at "own") (by walk_at "ev") (by walk_at "mem") handed_tup) (.tup (.cons (.name (by walk_at "put")) (.cons (.name (by walk_at "put")) .nil))) ?_
  refine Exs.assign (p := vInt (0 : Int)) (by exact Ev.cInt) (As.name (by walk_at "put")) ?_
  refine Exs.forI (EvIter.rangeN (a := ts) (b := (wsOf x).count.length) (by exact Ev.range2 (by walk_at "ev") (EvAll.cons (by walk_at "ev") (EvAll.cons (Ev.eq (Ev.lenT (by walk_at "ev") (by walk_at "ev") (by rw [hlen, sizeLine_is]; first | lia | omega)) (by rw [hlen])) EvAll.nil))) calm_name (by first | lia | omega) (by first | lia | omega))
    (fun k σ => ∃ v : Int, v = ilSum (wsOf x).count ts k ∧ σ = { vars := [(PySem.Str.ofString "il", vInt v), (PySem.Str.ofString "trailing", vInt ((wsOf x).b : Int)), (PySem.Str.ofString "count", vTup (wInts (wsOf x).count)), (PySem.Str.ofString "self", vInst CW (wsFields x)), (PySem.Str.ofString "tabsize", vInt (ts : Int))] })
    ⟨_, by walk_at "wk", 0, rfl, rfl⟩ (fun k p pv σk hp hi => ?_) fun σk hi => ?_
  · obtain ⟨v, rfl, rfl⟩ := hi
    obtain ⟨hk, rfl⟩ := rangeN_at hp
    have hlt : ts + k < (wsOf x).count.length := by first | lia | omega
    have hget : (wInts (wsOf x).count)[ts + k]? = some (vInt (((wsOf x).count.getD (ts + k) 0 : Nat) : Int)) := by
      unfold wInts
      rw [List.getElem?_map, List.getElem?_eq_getElem hlt]
      simp [List.getD, List.getElem?_eq_getElem hlt]
    have hcb : (wsOf x).count.getD (ts + k) 0 ≤ 500 := by
      have := hsm.c ((wsOf x).count.getD (ts + k) 0) (by simp [List.getD, List.getElem?_eq_getElem hlt])
      first | lia | omega
    refine ⟨_, As.name (by walk_at "put"), ?_⟩
    refine Exs.assign (.add (by walk_at "ev") (.mul (.fdiv (by walk_at "ev") (by walk_at "ev") (by first | lia | omega) (by first | lia | omega)) (.atT (by walk_at "ev") (by walk_at "ev") hget (by rw [hlen]; first | lia | omega)) (mulOk (.inr (by first | lia | omega))))) (As.name (by walk_at "put")) ?_
    exact Exs.nil ⟨_, by walk_at "wk", _, rfl, rfl⟩
  · obtain ⟨v, rfl, rfl⟩ := hi
    rw [List.length_map, List.length_range]
    refine Exs.ret (.add (by walk_at "ev") (.mul (by walk_at "ev") (.add (by walk_at "ev") (.attrF (K := KK w) (C := CW) G (by walk_at "own") (by walk_at "ev") (by walk_at "mem") handed_int)) (mulOk (.inl (by first | lia | omega))))) ⟨[], .slnil, rfl, rfl⟩
theorem ws_ok {prog : Program} {w : World} {g : Heap} (G : Grd (KK w) g) (x : List Nat) (hl : x.length ≤ 500) : FnD prog w g (.ref CW) 3 [vStr x] [] (vInst CW (wsFields x)) [] :=
  FnR.clsF (fI := 38) G ⟨rfl, rfl, rfl⟩ fun a d => wsInit_ok G x hl a d
noncomputable abbrev CN : Addr := 125
/-- a lexer's fields -/
noncomputable abbrev lexF (n : Int) (fp : VP) (pb : Addr) : List (PySem.Str × VP) :=
  [(PySem.Str.ofString "pushback", vVal (.ref pb)), (PySem.Str.ofString "whitespace", vStr [10, 9, 13, 32]), (PySem.Str.ofString "instream", fp), (PySem.Str.ofString "lineno", vInt n)]
theorem lexInit_ok {prog : Program} {w : World} {g : Heap} (G : Grd (KK w) g) (fp : VP) (a d : Addr) :
    FnR prog w g (.ref 101) 1 [vVal (.ref a), fp] [(d, .inst a CN [])] fun q S => q = vVal .none ∧ ∃ pb, S = [(pb, .lst []), (d, .inst a CN (lexF 1 fp pb))] := by
  refine FnR.of_vars (K := KK w) G (by walk_at "isfn") [(PySem.Str.ofString "self", vVal (.ref a)), (PySem.Str.ofString "fp", fp)] rfl (vals2 fun a b => rfl) rfl (by with_unfolding_all rfl) fun A F s L rm => ?_
  refine Exs.setAttr (K := KK w) (C := CN) G (by walk_at "set") (by exact Ev.cInt (i := 1)) (by walk_at "ev") (by walk_at "rset") (by walk_at "fput") (Nat.le_of_ble_eq_true rfl) ?_
  refine Exs.setAttr (K := KK w) (C := CN) G (by walk_at "set") (by walk_at "ev") (by walk_at "ev") (by walk_at "rset") (by walk_at "fput") (Nat.le_of_ble_eq_true rfl) ?_
  refine Exs.setAttr (K := KK w) (C := CN) (p := vStr [10, 9, 13, 32]) G (by walk_at "set") (by exact Ev.cStr rfl) (by walk_at "ev") (by walk_at "rset") (by walk_at "fput") (Nat.le_of_ble_eq_true rfl) ?_
  refine Exs.setAttrN (K := KK w) (C := CN) (x := a) (d := d) (fs' := fun pb => lexF 1 fp pb) G (by walk_at "set") (.disp .nil (Nat.le_of_ble_eq_true rfl)) fun pb hpb => ⟨_, by walk_at "ev", by walk_at "rset", FPut.new rfl, Nat.le_of_ble_eq_true rfl, ?_⟩
  exact Exs.nil ⟨_, List.Sublist.refl _, rfl, pb, rfl⟩
/-- signs as texts -/
noncomputable abbrev sgs (l : List Nat) : List VP := vStrs (l.map fun c => [c])
/-- what the stored reader does -/
noncomputable def ReadOK (prog : Program) (w : World) (g : Heap) (fa cl sg : Addr) (co : Cell) : Prop :=
  ∀ l : List Nat, l.length < 1000000 → FnD prog w g (.ref fa) 3 [vInt 1] [(cl, co), (sg, .lst (sgs l))] (vStr (l.take 1)) [(cl, co), (sg, .lst (sgs (l.drop 1)))]
/-- a feed: an object with a reader -/
noncomputable abbrev feedF (fa : Addr) (fo : Obj) : List (PySem.Str × VP) :=
  [(PySem.Str.ofString "read", vFn fa fo), (PySem.Str.ofString "pushback", vAny), (PySem.Str.ofString "whitespace", vStr [10, 9, 13, 32]), (PySem.Str.ofString "instream", vVal .none), (PySem.Str.ofString "lineno", vInt 1)]
noncomputable def nlOf (l : List Nat) : Int := if l.take 1 == [10] then 1 else 0
theorem read_ok {prog : Program} {w : World} {g : Heap} (G : Grd (KK w) g) {fa cl sg : Addr} {co : Cell} {fo : Obj} {fd : FuncData} (hfo : fo.data = .func fd) (hr : ReadOK prog w g fa cl sg co) (l : List Nat) (hl : l.length < 1000000) (n : Int) (a d pb : Addr) :
    FnD prog w g (.ref 108) 4 [vVal (.ref a)] [(d, .inst a CN (lexF n (vInst CN (feedF fa fo)) pb)), (cl, co), (sg, .lst (sgs l))] (vStr (l.take 1)) [(d, .inst a CN (lexF (n + nlOf l) (vInst CN (feedF fa fo)) pb)), (cl, co), (sg, .lst (sgs (l.drop 1)))] := by
  refine FnR.of_vars (K := KK w) G (by walk_at "isfn") [(PySem.Str.ofString "self", vVal (.ref a))] rfl (vals1 fun a => rfl) rfl (by with_unfolding_all rfl) fun A F s L rm => ?_
  refine Exs.assign (by exact Ev.callField (K := KK w) (C := CN) G ⟨by walk_at "own", rfl⟩ (Ev.attrO (K := KK w) (C := CN) G (by walk_at "own") (by walk_at "ev") (by walk_at "rmem") (by walk_at "mem") handed_inst) (by walk_at "mem") hfo (EvAll.cons (p := vInt 1) (by walk_at "ev") EvAll.nil) (hr l hl) rm.in_ (Upd.skip (Upd.take (Upd.take Upd.nil)))) (As.name (by walk_at "put")) ?_
  refine Exs.iffM (fun σ => σ = { vars := [(PySem.Str.ofString "ch", vStr (l.take 1)), (PySem.Str.ofString "self", vVal (.ref a))], res := [(d, .inst a CN (lexF (n + nlOf l) (vInst CN (feedF fa fo)) pb)), (cl, co), (sg, .lst (sgs (l.drop 1)))] }) (by walk_at "tst") (fun h => ?_) (fun h => ?_) fun σ' h => ?_
  · have e1 : nlOf l = 1 := by unfold nlOf; exact if_pos h
    rw [e1]
    refine Exs.augAttr (K := KK w) (C := CN) (p := vInt n) (q := vInt 1) (r := vInt (n + 1)) G (by walk_at "own") (by walk_at "set") (by walk_at "ev") (by walk_at "rmem") (by walk_at "mem") handed_int (by walk_at "ev") (fun F s v u ok ⟨t, r1⟩ ⟨t', r2⟩ => by subst r1; subst r2; exact fun Q E k => PySem.P.iadd_int (k _ F _ (.toks ok.inh) ⟨_, rfl⟩)) (by walk_at "rset") (by walk_at "fput") (Nat.le_of_ble_eq_true rfl) ?_
    exact Exs.nil ⟨_, by walk_at "wk", rfl⟩
  · have e1 : nlOf l = 0 := by unfold nlOf; exact if_neg (fun q => by rw [show (l.take 1 == [10]) = false from h] at q; cases q)
    rw [e1, Int.add_zero]
    exact Exs.nil ⟨_, by walk_at "wk", rfl⟩
  · subst h
    exact Exs.ret (by walk_at "ev") ⟨_, List.Sublist.refl _, rfl, rfl⟩
theorem equal_ok {prog : Program} {w : World} {g : Heap} (G : Grd (KK w) g) (x y : List Nat) (hx : x.length ≤ 500) (hy : y.length ≤ 500) :
    FnD prog w g (.ref 59) 1 [vInst CW (wsFields x), vInst CW (wsFields y)] [] (vBool (decide ((wsOf x).count = (wsOf y).count ∧ (wsOf x).b = (wsOf y).b))) [] := by
  refine FnR.of_vars (K := KK w) G (by walk_at "isfn") [(PySem.Str.ofString "self", vInst CW (wsFields x)), (PySem.Str.ofString "other", vInst CW (wsFields y))] rfl (vals2 fun a b => rfl) rfl (by with_unfolding_all rfl) fun A F s L rm => ?_
  let enc : List Nat → PyData := fun l => PyData.tuple (l.map fun (c : Nat) => PyData.int (c : Int))
  have dkn : DK (fun c : Nat => PyData.int (c : Int)) 0 := ⟨fun a b => by simp only [PyData.eqv]; rw [Bool.eq_iff_iff, beq_iff_eq, decide_eq_true_iff]; first | lia | omega, fun a => by simp [PyData.depth]⟩
  have vds : ∀ l : List Nat, VDs (wInts l) (l.map fun (c : Nat) => PyData.int (c : Int)) := fun l => VDs.map (fun c : Nat => vInt (c : Int)) (fun c : Nat => PyData.int (c : Int)) (fun c => vd_int (c : Int)) l
  have vdn : ∀ z : List Nat, VD (vTup [vTup (wInts (wsOf z).count), vInt ((wsOf z).b : Int)]) (.tuple [enc (wsOf z).count, .int ((wsOf z).b : Int)]) := fun z => vd_tup (.cons (vd_tup (vds _)) (.cons (vd_int _) .nil))
  have can : ∀ l : List Nat, (enc l).canLay0 = true := fun l => by
    simp only [enc, PyData.canLay0]
    exact canAll_map fun c _ => by simp [PyData.canLay0]
  have shp : ∀ z : List Nat, SeqAt.shaped (.tuple [enc (wsOf z).count, .int ((wsOf z).b : Int)]) = true := fun z => by
    unfold SeqAt.shaped
    rw [Bool.and_eq_true, decide_eq_true_iff]
    refine ⟨by simp only [PyData.canLay0, PyData.canLayAll0, can, Bool.and_true], ?_⟩
    have h1 : PyData.depthAll ((wsOf z).count.map fun (c : Nat) => PyData.int (c : Int)) ≤ 0 := depthAll_map dkn _
    simp only [enc, PyData.depth, PyData.depthAll]
    first | lia | omega
  refine Exs.ret (by exact Ev.eqD (Ev.attrF (K := KK w) (C := CW) G (by walk_at "own") (by walk_at "ev") (by walk_at "mem") handed_tup) (Ev.attrF (K := KK w) (C := CW) G (by walk_at "own") (by walk_at "ev") (by walk_at "mem") handed_tup) (vdn x).sd (vdn y).sd (shp x) (shp y) (by have := rm.units; show A.units + 3 + 64 < 9900; first | lia | omega)) ⟨[], .slnil, ?_, rfl⟩
  congr 1
  simp only [PyData.eqv, PyData.eqvAll, enc, eqvAll_map dkn, Bool.and_true]
  rw [Bool.eq_iff_iff]
  simp
  intro _
  first | lia | omega
theorem isIn_one (c : Nat) (x : List Nat) : isIn [c] x = decide (c ∈ x) := StrLaws.found_one (L2S x) c
noncomputable def isWs (c : Nat) : Bool := decide (c ∈ [10, 9, 13, 32])
/-- a quoted word's rest -/
noncomputable def inQ : List Nat → List Nat → Option (List Nat × List Nat)
  | _, [] => none
  | tk, c :: r =>
    if c = 34 then some (tk, r)
    else if c = 92 then (match r with
      | [] => none
      | e :: r => inQ (tk ++ [e]) r)
    else inQ (tk ++ [c]) r
noncomputable def inB : List Nat → List Nat → Option (List Nat × List Nat)
  | _, [] => none
  | tk, c :: r =>
    if isWs c then some (tk, r)
    else if c = 92 then (match r with
      | [] => none
      | e :: r => inB (tk ++ [e]) r)
    else inB (tk ++ [c]) r
noncomputable def tok : List Nat → Option (List Nat × List Nat)
  | [] => some ([], [])
  | c :: r =>
    if isWs c then tok r
    else if c = 34 then inQ [] r
    else if c = 92 then (match r with
      | [] => none
      | e :: r => inB [e] r)
    else inB [c] r
/-- line feeds -/
noncomputable def nls (l : List Nat) : Int := (l.count 10 : Nat)
theorem nls_cons (c : Nat) (r : List Nat) : nls (c :: r) = nls r + nlOf (c :: r) := by
  unfold nls nlOf
  rw [List.count_cons]
  by_cases h : c = 10
  · subst h; simp
  · have h1 : (c == 10) = false := by simpa using h
    have h2 : (([c] : List Nat) == [10]) = false := by simpa using h
    simp [h1, h2]
noncomputable abbrev lineRes (a d pb cl sg : Addr) (co : Cell) (fo : Obj) (fa : Addr) (ps : List VP) (n : Int) (l : List Nat) : Res :=
  [(pb, .lst ps), (d, .inst a CN (lexF n (vInst CN (feedF fa fo)) pb)), (cl, co), (sg, .lst (sgs l))]
theorem Exs.nodup {cx : Cx} {σ : St} {ss : List Stmt} {P : Out → Prop} (h : (σ.res.map (·.1)).Nodup → Exs cx σ ss P) : Exs cx σ ss P := fun F s ok => h ok.res.nodup F s ok
noncomputable abbrev rawIt (p : Addr) (t : Tok) (a : Addr) : Cell := .raw (ciObj p t false) [(p, methodObj (.ref 108) (.ref a))]
theorem read_turn {cx : Cx} (G : Grd (KK cx.w) cx.g) {fa cl sg : Addr} {co : Cell} {fo : Obj} {fd : FuncData} (hfo : fo.data = .func fd) (hr : ReadOK cx.prog cx.w cx.g fa cl sg co) (rm : Room cx.A 5) (V : List (PySem.Str × VP)) {I p : Addr} {t : Tok} {a d pb : Addr} (hI : I ∉ [d, cl, sg]) (ps : List VP) (n : Int) (c : Nat) (r : List Nat) (hl : (c :: r).length < 1000000) :
    CallTurn cx (KK cx.w) ⟨V, (I, rawIt p t a) :: lineRes a d pb cl sg co fo fa ps n (c :: r)⟩ I [c] ((I, rawIt p t a) :: lineRes a d pb cl sg co fo fa ps (n + nlOf (c :: r)) r) :=
  ⟨p, _, t, .ref a, 4, [(d, .inst a CN (lexF n (vInst CN (feedF fa fo)) pb)), (cl, co), (sg, .lst (sgs (c :: r)))], [(d, .inst a CN (lexF (n + nlOf (c :: r)) (vInst CN (feedF fa fo)) pb)), (cl, co), (sg, .lst (sgs r))],
    List.mem_cons_self, hI, ⟨_, _, rfl, rfl⟩, rm, read_ok G hfo hr (c :: r) hl n a d pb, fun _ => .skip (.skip (.take (.take (.take .nil)))), fun h => by cases h⟩
theorem read_turn_end {cx : Cx} (G : Grd (KK cx.w) cx.g) {fa cl sg : Addr} {co : Cell} {fo : Obj} {fd : FuncData} (hfo : fo.data = .func fd) (hr : ReadOK cx.prog cx.w cx.g fa cl sg co) (rm : Room cx.A 5) (V : List (PySem.Str × VP)) {I p : Addr} {t : Tok} {a d pb : Addr} (hI : I ∉ [d, cl, sg]) (ps : List VP) (n : Int) :
    CallTurn cx (KK cx.w) ⟨V, (I, rawIt p t a) :: lineRes a d pb cl sg co fo fa ps n []⟩ I [] ((I, .raw (ciObj p t true) []) :: lineRes a d pb cl sg co fo fa ps (n + 0) []) :=
  ⟨p, _, t, .ref a, 4, [(d, .inst a CN (lexF n (vInst CN (feedF fa fo)) pb)), (cl, co), (sg, .lst (sgs []))], [(d, .inst a CN (lexF (n + 0) (vInst CN (feedF fa fo)) pb)), (cl, co), (sg, .lst (sgs []))],
    List.mem_cons_self, hI, ⟨_, _, rfl, rfl⟩, rm, read_ok G hfo hr [] (by decide) n a d pb, fun h => absurd rfl h, fun _ => ⟨_, .skip (.skip (.take (.take (.take .nil)))), .here⟩⟩
theorem ev_read {cx : Cx} {σ : St} {x : PySem.Str} {np ap pos : Pos} (G : Grd (KK cx.w) cx.g) {fa cl sg : Addr} {co : Cell} {fo : Obj} {fd : FuncData} (hfo : fo.data = .func fd) (hr : ReadOK cx.prog cx.w cx.g fa cl sg co) (rm : Room cx.A 5) (V : List (PySem.Str × VP)) {I p : Addr} {t : Tok} {a d pb : Addr} (ps : List VP) (n : Int) (c : Nat) (r : List Nat) (hl : (c :: r).length < 1000000)
    (hσ : σ = ⟨V, (I, rawIt p t a) :: lineRes a d pb cl sg co fo fa ps n (c :: r)⟩) (ho : Ev cx σ (.Name x np) (vVal (.ref a)) σ)
    (hk : ∃ pl, PySem.eval (.Call (.Attribute (.Name x np) (PySem.Str.ofString "_read_char") ap) [] [] pos) cx.env = (do
      let ov ← PySem.eval (.Name x np) cx.env
      standAt ap.atName
      let (f, first) ← holding [ov] (getMethod ov (PySem.Str.ofString "_read_char") pl)
      callWith pos f first (backTo pos (starEach [] cx.env)) (backToKw pos (keywordEach [] cx.env))) := by exact ⟨_, by with_unfolding_all rfl⟩) :
    Ev cx σ (.Call (.Attribute (.Name x np) (PySem.Str.ofString "_read_char") ap) [] [] pos) (vStr [c]) ⟨V, (I, rawIt p t a) :: lineRes a d pb cl sg co fo fa ps (n + nlOf (c :: r)) r⟩ := by
  subst hσ
  exact Ev.callM0 (K := KK cx.w) (f := 108) G ⟨_, _, rfl, rfl⟩ ho (HasMeth.owned (C := CN) (x := a) (d := d) (fs := lexF n (vInst CN (feedF fa fo)) pb) G ⟨rfl, rfl, rfl⟩ (by walk_at "rmem") rfl) (read_ok G hfo hr (c :: r) hl n a d pb) (rm.le (by decide)) (.skip (.skip (.take (.take (.take .nil))))) hk
theorem get_read {prog : Program} {w : World} {g : Heap} (G : Grd (KK w) g) {fa cl sg : Addr} {co : Cell} {fo : Obj} {fd : FuncData} (hfo : fo.data = .func fd) (hr : ReadOK prog w g fa cl sg co) (l x r : List Nat) (hl : l.length < 1000000) (ht : tok l = some (x, r)) (n : Int) (a d pb : Addr) :
    FnD prog w g (.ref 115) 6 [vVal (.ref a)] (lineRes a d pb cl sg co fo fa [] n l) (vStr x) (lineRes a d pb cl sg co fo fa [] (n + nls l - nls r) r) := by
  refine FnR.of_vars (K := KK w) G (by walk_at "isfn") [(PySem.Str.ofString "self", vVal (.ref a))] rfl (vals1 fun a => rfl) rfl (by with_unfolding_all rfl) fun A F s L rm => ?_
  refine Exs.iff (by exact Tst.list (Ev.srcO (Ev.attrO (K := KK w) (C := CN) G (by walk_at "own") (by walk_at "ev") (by walk_at "rmem") (by walk_at "mem") handed_ref) (by walk_at "rmem")) (fun _ => rfl) (Nat.zero_le _)) (fun h => by cases h) fun h => ?_
  refine Exs.nil (Exs.assign (p := vStr []) (by exact Ev.cStr rfl) (As.name (by walk_at "put")) ?_)
  refine Exs.assignIter (f := 108) (self := .ref a) (by walk_at "ev") (EvAll.cons (by exact Ev.bound (K := KK w) (C := CN) G ⟨⟨_, rfl, rfl⟩, ⟨rfl, rfl, rfl⟩, rfl, rfl, rfl⟩ (by walk_at "ev") (by walk_at "rmem") rfl) (EvAll.cons (by exact Ev.cStr rfl) EvAll.nil)) fun I p t hI => ⟨_, by walk_at "put", ?_⟩
  refine Exs.nodup fun nd => ?_
  have hIR : I ∉ [d, cl, sg] := by
    intro q
    have := (List.nodup_cons.mp nd).1
    exact this (List.mem_cons_of_mem _ q)
  refine Exs.forCall (K := KK w) G (fun m σ => ∃ l' n', (m = l'.length ∧ tok l' = some (x, r) ∧ n' = n + nls l - nls l' ∧ l'.length ≤ l.length) ∧ σ = { vars := [(PySem.Str.ofString "fiter", vVal (.ref I)), (PySem.Str.ofString "token", vStr []), (PySem.Str.ofString "self", vVal (.ref a))], res := (I, rawIt p t a) :: lineRes a d pb cl sg co fo fa [] (n') l' }) l.length (by walk_at "ev") ⟨_, _, _, List.mem_cons_self⟩ ⟨_, by walk_at "wk", l, n, ⟨rfl, ht, by first | lia | omega, Nat.le_refl _⟩, rfl⟩ fun m σm hi => ?_
  obtain ⟨l', n', ⟨rfl, ht', hn', hle⟩, rfl⟩ := hi
  cases l' with
  | nil =>
    refine ⟨[], _, read_turn_end G hfo hr rm.in_ _ hIR [] n', fun q => absurd rfl q, fun _ => ?_⟩
    cases ht'
    refine Exs.ret (by walk_at "ev") ⟨lineRes a d pb cl sg co fo fa [] (n + nls l - nls []) [], ?_, rfl, rfl⟩
    rw [hn', Int.add_zero]
    exact List.Sublist.cons _ (List.Sublist.refl _)
  | cons c l' =>
    refine ⟨[c], _, read_turn G hfo hr rm.in_ _ hIR [] n' c l' (by first | lia | omega), fun _ => ⟨_, As.name (by walk_at "put"), ?_⟩, fun q => by cases q⟩
    have hn2 : n' + nlOf (c :: l') = n + nls l - nls l' := by rw [hn', nls_cons]; first | lia | omega
    generalize n' + nlOf (c :: l') = n2 at *
    have hle2 : l'.length < l.length := by simp at hle; first | lia | omega
    unfold tok at ht'
    refine Exs.iff (by exact Tst.inS (by walk_at "ev") (Ev.attrO (K := KK w) (C := CN) G (by walk_at "own") (by walk_at "ev") (by walk_at "rmem") (by walk_at "mem") handed_str)) (fun h => ?_) fun h => ?_
    · have hw : isWs c = true := by rw [← h, isIn_one]; rfl
      rw [if_pos hw] at ht'
      exact Exs.cont ⟨_, by walk_at "wk", l'.length, by simp, l', n2, ⟨rfl, ht', hn2, by first | lia | omega⟩, rfl⟩
    · have hw : ¬ isWs c = true := by unfold isWs; rw [isIn_one] at h; rw [h]; simp
      rw [if_neg hw] at ht'
      refine Exs.nil (Exs.iff (by walk_at "tst") (fun h2 => ?_) fun h2 => ?_)
      · have hc : c = 34 := by have : ([c] == [34]) = true := h2; simpa using this
        rw [if_pos hc] at ht'
        refine Exs.forCall (K := KK w) G (fun m σ => ∃ tk l3 n3, (m = l3.length ∧ inQ tk l3 = some (x, r) ∧ n3 = n + nls l - nls l3 ∧ tk.length + l3.length ≤ l.length) ∧ σ = { vars := [(PySem.Str.ofString "fiter", vVal (.ref I)), (PySem.Str.ofString "token", vStr tk), (PySem.Str.ofString "self", vVal (.ref a))], res := (I, rawIt p t a) :: lineRes a d pb cl sg co fo fa [] (n3) l3 }) l'.length (by walk_at "ev") ⟨_, _, _, List.mem_cons_self⟩ ⟨_, by walk_at "wk", [], l', n2, ⟨rfl, ht', hn2, by simp; first | lia | omega⟩, rfl⟩ fun m σm hi => ?_
        obtain ⟨tk, l3, n3, ⟨rfl, ht3, hn3, hle3⟩, rfl⟩ := hi
        cases l3 with
        | nil => cases ht3
        | cons e l3 =>
          refine ⟨[e], _, read_turn G hfo hr rm.in_ _ hIR [] n3 e l3 (by first | lia | omega), fun _ => ⟨_, As.name (by walk_at "put"), ?_⟩, fun q => by cases q⟩
          have hn4 : n3 + nlOf (e :: l3) = n + nls l - nls l3 := by rw [hn3, nls_cons]; first | lia | omega
          generalize n3 + nlOf (e :: l3) = n4 at *
          have hle4 : tk.length + 1 + l3.length ≤ l.length := by simp at hle3; first | lia | omega
          have hz : tk.length + 1 ≤ sizeLine := by rw [sizeLine_is]; first | lia | omega
          unfold inQ at ht3
          refine Exs.iff (by walk_at "tst") (fun h5 => ?_) fun h5 => ?_
          · have he : e = 34 := by have : ([e] == [34]) = true := h5; simpa using this
            rw [if_pos he] at ht3
            cases ht3
            refine Exs.ret (by walk_at "ev") ⟨lineRes a d pb cl sg co fo fa [] (n + nls l - nls r) r, ?_, rfl, rfl⟩
            rw [hn4]
            exact List.Sublist.cons _ (List.Sublist.refl _)
          · have he : e ≠ 34 := by have : ([e] == [34]) = false := h5; simpa using this
            rw [if_neg he] at ht3
            refine Exs.iff (by walk_at "tst") (fun h6 => ?_) fun h6 => ?_
            · have he2 : e = 92 := by have : ([e] == [92]) = true := h6; simpa using this
              rw [if_pos he2] at ht3
              cases l3 with
              | nil => cases ht3
              | cons f l3 =>
                refine Exs.assign (by exact ev_read (p := p) (t := t) (I := I) G hfo hr rm.in_ _ [] n4 f l3 (by simp at hle4 ⊢; first | lia | omega) rfl (by walk_at "ev")) (As.name (by walk_at "put")) (Exs.nil (Exs.nil ?_))
                refine Exs.augAddS (At.mem (by walk_at "mem")) (by walk_at "ev") hz (by walk_at "put") ?_
                exact Exs.nil ⟨_, by walk_at "wk", l3.length, by simp; first | lia | omega, tk ++ [f], l3, n4 + nlOf (f :: l3), ⟨rfl, ht3, by rw [hn4, nls_cons]; first | lia | omega, by simp at hle4 ⊢; first | lia | omega⟩, rfl⟩
            · have he2 : e ≠ 92 := by have : ([e] == [92]) = false := h6; simpa using this
              rw [if_neg he2] at ht3
              refine Exs.nil (Exs.nil (Exs.augAddS (At.mem (by walk_at "mem")) (by walk_at "ev") hz (by walk_at "put") ?_))
              exact Exs.nil ⟨_, by walk_at "wk", l3.length, by simp, tk ++ [e], l3, n4, ⟨rfl, ht3, hn4, by simp at hle4 ⊢; first | lia | omega⟩, rfl⟩
      · have hc : c ≠ 34 := by have : ([c] == [34]) = false := h2; simpa using this
        rw [if_neg hc] at ht'
        refine Exs.iffM (fun σ => ∃ e l3 n3, (inB [e] l3 = some (x, r) ∧ n3 = n + nls l - nls l3 ∧ 1 + l3.length ≤ l.length) ∧ σ = { vars := [(PySem.Str.ofString "ch", vStr [e]), (PySem.Str.ofString "fiter", vVal (.ref I)), (PySem.Str.ofString "token", vStr []), (PySem.Str.ofString "self", vVal (.ref a))], res := (I, rawIt p t a) :: lineRes a d pb cl sg co fo fa [] (n3) l3 }) (by walk_at "tst") (fun h3 => ?_) (fun h3 => ?_) fun σ' h3 => ?_
        · have hc2 : c = 92 := by have : ([c] == [92]) = true := h3; simpa using this
          rw [if_pos hc2] at ht'
          cases l' with
          | nil => cases ht'
          | cons f l3 =>
            refine Exs.assign (by exact ev_read (p := p) (t := t) (I := I) G hfo hr rm.in_ _ [] n2 f l3 (by simp at hle2 ⊢; first | lia | omega) rfl (by walk_at "ev")) (As.name (by walk_at "put")) (Exs.nil ?_)
            exact ⟨_, by walk_at "wk", f, l3, n2 + nlOf (f :: l3), ⟨ht', by rw [hn2, nls_cons]; first | lia | omega, by simp at hle2 ⊢; first | lia | omega⟩, rfl⟩
        · have hc2 : c ≠ 92 := by have : ([c] == [92]) = false := h3; simpa using this
          rw [if_neg hc2] at ht'
          exact Exs.nil ⟨_, by walk_at "wk", c, l', n2, ⟨ht', hn2, by first | lia | omega⟩, rfl⟩
        · obtain ⟨e, l3, n3, ⟨ht3, hn3, hle3⟩, rfl⟩ := h3
          refine Exs.augAddS (At.mem (by walk_at "mem")) (by walk_at "ev") (Nat.le_of_ble_eq_true rfl) (by walk_at "put") ?_
          refine Exs.forCall (K := KK w) G (fun m σ => ∃ tk l3 n3, (m = l3.length ∧ inB tk l3 = some (x, r) ∧ n3 = n + nls l - nls l3 ∧ tk.length + l3.length ≤ l.length) ∧ σ = { vars := [(PySem.Str.ofString "fiter", vVal (.ref I)), (PySem.Str.ofString "token", vStr tk), (PySem.Str.ofString "self", vVal (.ref a))], res := (I, rawIt p t a) :: lineRes a d pb cl sg co fo fa [] (n3) l3 }) l3.length (by walk_at "ev") ⟨_, _, _, List.mem_cons_self⟩ ⟨_, by walk_at "wk", [e], l3, n3, ⟨rfl, ht3, hn3, hle3⟩, rfl⟩ fun m σm hi => ?_
          clear ht3 hn3 hle3
          obtain ⟨tk, l3, n3, ⟨rfl, ht3, hn3, hle3⟩, rfl⟩ := hi
          cases l3 with
          | nil => cases ht3
          | cons e l3 =>
            refine ⟨[e], _, read_turn G hfo hr rm.in_ _ hIR [] n3 e l3 (by first | lia | omega), fun _ => ⟨_, As.name (by walk_at "put"), ?_⟩, fun q => by cases q⟩
            have hn4 : n3 + nlOf (e :: l3) = n + nls l - nls l3 := by rw [hn3, nls_cons]; first | lia | omega
            generalize n3 + nlOf (e :: l3) = n4 at *
            have hle4 : tk.length + 1 + l3.length ≤ l.length := by simp at hle3; first | lia | omega
            have hz : tk.length + 1 ≤ sizeLine := by rw [sizeLine_is]; first | lia | omega
            unfold inB at ht3
            refine Exs.iff (by exact Tst.inS (by walk_at "ev") (Ev.attrO (K := KK w) (C := CN) G (by walk_at "own") (by walk_at "ev") (by walk_at "rmem") (by walk_at "mem") handed_str)) (fun h5 => ?_) fun h5 => ?_
            · have he : isWs e = true := by rw [← h5, isIn_one]; rfl
              rw [if_pos he] at ht3
              cases ht3
              refine Exs.ret (by walk_at "ev") ⟨lineRes a d pb cl sg co fo fa [] (n + nls l - nls r) r, ?_, rfl, rfl⟩
              rw [hn4]
              exact List.Sublist.cons _ (List.Sublist.refl _)
            · have he : ¬ isWs e = true := by unfold isWs; rw [isIn_one] at h5; rw [h5]; simp
              rw [if_neg he] at ht3
              refine Exs.iff (by walk_at "tst") (fun h6 => ?_) fun h6 => ?_
              · have he2 : e = 92 := by have : ([e] == [92]) = true := h6; simpa using this
                rw [if_pos he2] at ht3
                cases l3 with
                | nil => cases ht3
                | cons f l3 =>
                  refine Exs.assign (by exact ev_read (p := p) (t := t) (I := I) G hfo hr rm.in_ _ [] n4 f l3 (by simp at hle4 ⊢; first | lia | omega) rfl (by walk_at "ev")) (As.name (by walk_at "put")) (Exs.nil (Exs.nil ?_))
                  refine Exs.augAddS (At.mem (by walk_at "mem")) (by walk_at "ev") hz (by walk_at "put") ?_
                  exact Exs.nil ⟨_, by walk_at "wk", l3.length, by simp; first | lia | omega, tk ++ [f], l3, n4 + nlOf (f :: l3), ⟨rfl, ht3, by rw [hn4, nls_cons]; first | lia | omega, by simp at hle4 ⊢; first | lia | omega⟩, rfl⟩
              · have he2 : e ≠ 92 := by have : ([e] == [92]) = false := h6; simpa using this
                rw [if_neg he2] at ht3
                refine Exs.nil (Exs.nil (Exs.augAddS (At.mem (by walk_at "mem")) (by walk_at "ev") hz (by walk_at "put") ?_))
                exact Exs.nil ⟨_, by walk_at "wk", l3.length, by simp, tk ++ [e], l3, n4, ⟨rfl, ht3, hn4, by simp at hle4 ⊢; first | lia | omega⟩, rfl⟩
/-- the common head's length -/
noncomputable def comPre : List Nat → List Nat → Nat
  | a :: x, b :: y => if a = b then comPre x y + 1 else 0
  | _, _ => 0
noncomputable def headEq : List Nat → List Nat → Bool
  | a :: _, b :: _ => a == b
  | _, _ => false
theorem comPre_head (x y : List Nat) : comPre x y = if headEq x y then comPre (x.drop 1) (y.drop 1) + 1 else 0 := by
  cases x <;> cases y <;> simp [comPre, headEq]
theorem headEq_len {x y : List Nat} (h : headEq x y = true) : 0 < x.length ∧ 0 < y.length := by
  cases x <;> cases y <;> simp_all [headEq]
noncomputable def lvRow (c : Nat) : Int → Int → List Nat → List Int → List Int
  | dist, res, x :: a, d :: row => min (min res d + 2) (dist + subc [c] [x]) :: lvRow c d (min (min res d + 2) (dist + subc [c] [x])) a row
  | _, _, _, _ => []
noncomputable def minOf (m : Int) (row : List Int) : Int := row.foldl min m
noncomputable def lvGo (a : List Nat) (mx : Int) : Nat → List Nat → List Int → Option (List Int)
  | _, [], row => some row
  | i, c :: b, row =>
    if mx < minOf 9223372036854775807 (lvRow c (2 * (i : Int)) (2 * (i : Int)) a row) then none
    else lvGo a mx (i + 1) b (lvRow c (2 * (i : Int)) (2 * (i : Int)) a row)
noncomputable def row0 (n : Nat) : List Int := (List.range n).map fun (i : Nat) => 2 + (i : Int) * 2
noncomputable def lev2 (a b : List Nat) (mx : Int) : Int :=
  if mx < ((b.length : Int) - (a.length : Int)) * 2 then mx + 1
  else match lvGo a mx 0 b (row0 a.length) with
    | none => mx + 1
    | some row => row.getLastD 0
noncomputable def cutPre (x : List Nat) (k : Nat) : List Nat := x.drop k
noncomputable def cutPost (x : List Nat) (k : Nat) : List Nat := (x.reverse.drop k).reverse
noncomputable def lev3 (a b : List Nat) (mx : Int) : Int :=
  if a = [] ∨ b = [] then 2 * ((a.length : Int) + (b.length : Int))
  else if 40 < a.length ∨ 40 < b.length then mx + 1
  else if b.length < a.length then lev2 b a mx else lev2 a b mx
noncomputable def lev (a b : List Nat) (mx : Int) : Int :=
  if a = b then 0
  else lev3 (cutPost (cutPre a (comPre a b)) (comPre (cutPre a (comPre a b)).reverse (cutPre b (comPre a b)).reverse)) (cutPost (cutPre b (comPre a b)) (comPre (cutPre a (comPre a b)).reverse (cutPre b (comPre a b)).reverse)) mx
theorem sub_1 {prog : Program} {w : World} {g : Heap} (G : Grd (KK w) g) (c d : Nat) : FnD prog w g (.ref 136) 1 [vStr [c], vStr [d]] [] (vInt (subc [c] [d])) [] := by
  have h : ∀ c : Nat, (Txt.lower (L2S [c])).length ≤ sizeLine := fun c => by
    have := len_lower (L2S [c])
    rw [L2S_len] at this
    rw [sizeLine_is]
    simp at this
    first | lia | omega
  exact sub_ok G [c] [d] (h c) (h d)
theorem cutPost_take (x : List Nat) (k : Nat) : cutPost x k = x.take (x.length - k) := by
  unfold cutPost
  rw [List.reverse_drop]; simp
theorem sl_post (x : List Nat) (k : Nat) : sl x none (if -(k : Int) = 0 then none else some (-(k : Int))) = cutPost x k := by
  rw [cutPost_take]
  by_cases h : k = 0
  · subst h; rw [if_pos (by rfl), sl_all]; simp
  · rw [if_neg (by first | lia | omega), sl_uptoNeg x k (by first | lia | omega)]
theorem getD_min {i j : Int} : (if j < i then j else i) = min i j := by split <;> first | lia | omega
theorem rangeRow (n : Nat) (h : n ≤ 40) : Builtin.Range.small 2 (2 * ((n : Int) + 1)) 2 = true ∧ Builtin.Range.rangeSize 2 (2 * ((n : Int) + 1)) 2 = n := by
  have : ∀ m : Fin 41, Builtin.Range.small 2 (2 * ((m.val : Int) + 1)) 2 = true ∧ Builtin.Range.rangeSize 2 (2 * ((m.val : Int) + 1)) 2 = m.val := by decide +kernel
  exact this ⟨n, by first | lia | omega⟩
theorem minOf_snoc (m : Int) (l : List Int) (x : Int) : minOf m (l ++ [x]) = min (minOf m l) x := by unfold minOf; rw [List.foldl_append]; rfl
theorem getLastD_snoc {α : Type} (l : List α) (x d : α) : (l ++ [x]).getLastD d = x := List.getLastD_concat
theorem getLastD_ne {α : Type} (l : List α) (h : l ≠ []) (d e : α) : l.getLastD d = l.getLastD e := by cases l with | nil => exact absurd rfl h | cons a l => rfl
theorem app_ne (l : List Nat) (x : Nat) : (l ++ [x] != []) = true := by cases l <;> rfl
theorem idx_neg {k n : Nat} (h : k < n) : seqIndex? (-(k : Int) - 1) n = some (n - 1 - k) := by
  unfold seqIndex?
  have h1 : (-(k : Int) - 1) < 0 := by first | lia | omega
  simp only [h1, if_true]
  rw [if_pos (by simp; first | lia | omega)]
  congr 1
  first | lia | omega
theorem lev_ok {prog : Program} {w : World} {g : Heap} (G : Grd (KK w) g) (x y : List Nat) (mx : Int) (hx : x.length ≤ 1000) (hy : y.length ≤ 1000) :
    FnD prog w g (.ref 143) 2 [vStr x, vStr y, vInt mx] [] (vInt (lev x y mx)) [] := by
  refine FnR.of_vars (K := KK w) G (by walk_at "isfn") [(PySem.Str.ofString "a", vStr x), (PySem.Str.ofString "b", vStr y), (PySem.Str.ofString "max_cost", vInt mx)] rfl (vals3 fun a b c => rfl) rfl (by with_unfolding_all rfl) fun A F s L rm => ?_
  have zx : x.length ≤ sizeLine := by rw [sizeLine_is]; first | lia | omega
  have zy : y.length ≤ sizeLine := by rw [sizeLine_is]; first | lia | omega
  refine Exs.iff (by walk_at "tst") (fun h => ?_) fun h => ?_
  · refine Exs.ret Ev.cInt ⟨[], .slnil, ?_, rfl⟩
    have h' : x = y := by simpa using h
    unfold lev; rw [if_pos h']
  have hxy : ¬ x = y := by simpa using h
  refine Exs.nil (Exs.assign (p := vInt (((0 : Nat)) : Int)) (by exact Ev.cInt) (As.name (by walk_at "put")) ?_)
  refine Exs.whlI (fun n σ => ∃ k, (n = x.length - k ∧ comPre (x.drop k) (y.drop k) + k = comPre x y) ∧ σ = { vars := [(PySem.Str.ofString "pre", vInt (k : Int)), (PySem.Str.ofString "a", vStr x), (PySem.Str.ofString "b", vStr y), (PySem.Str.ofString "max_cost", vInt mx)] }) x.length ⟨_, by walk_at "wk", 0, ⟨rfl, rfl⟩, rfl⟩ fun n σn hi => ?_
  obtain ⟨k, ⟨rfl, hk⟩, rfl⟩ := hi
  refine ⟨headEq (x.drop k) (y.drop k), _, by
    have ex : ∀ q : List Nat, sl q (some (k : Int)) none = q.drop k := fun q => sl_from q k
    refine Tst.eq (b := (x.drop k != []) && ((y.drop k != []) && (headEq (x.drop k) (y.drop k) && true))) (Tst.all (TAll.consA (Tst.str (Ev.eq (Ev.slS (by walk_at "ev") (.int (by walk_at "ev")) .no zx) (by rw [ex])) (fun _ => rfl) (by simp; first | lia | omega)) fun h1 => TAll.consA (Tst.str (Ev.eq (Ev.slS (by walk_at "ev") (.int (by walk_at "ev")) .no zy) (by rw [ex])) (fun _ => rfl) (by simp; first | lia | omega)) fun h2 => TAll.consA ?_ fun _ => TAll.nilA)) (by cases x.drop k <;> cases y.drop k <;> first | rfl | exact Bool.and_true _)
    obtain ⟨c, cs, hc⟩ : ∃ c cs, x.drop k = c :: cs := by cases hq : x.drop k with | nil => rw [hq] at h1; cases h1 | cons c cs => exact ⟨c, cs, rfl⟩
    obtain ⟨d, ds, hd⟩ : ∃ c cs, y.drop k = c :: cs := by cases hq : y.drop k with | nil => rw [hq] at h2; cases h2 | cons c cs => exact ⟨c, cs, rfl⟩
    have gc : x[k]? = some c := by have := List.getElem?_drop (xs := x) (i := k) (j := 0); rw [hc] at this; simpa using this.symm
    have gd : y[k]? = some d := by have := List.getElem?_drop (xs := y) (i := k) (j := 0); rw [hd] at this; simpa using this.symm
    refine Tst.eq (b := [c] == [d]) (by exact Tst.eqS (Ev.atS (by walk_at "ev") (by walk_at "ev") gc zx) (Ev.atS (by walk_at "ev") (by walk_at "ev") gd zy)) ?_
    rw [hc, hd]
    simp [headEq], fun ht => ?_, fun ht => ?_⟩
  · have hl := headEq_len ht
    refine Exs.augAddI (At.mem (by walk_at "mem")) (by walk_at "ev") (by walk_at "put") ?_
    refine Exs.nil ⟨_, by walk_at "wk", x.length - (k + 1), by simp at hl; first | lia | omega, k + 1, ⟨rfl, ?_⟩, rfl⟩
    rw [comPre_head, if_pos ht, List.drop_drop, List.drop_drop] at hk
    first | lia | omega
  have hpre : comPre x y = k := by rw [comPre_head, if_neg (by rw [ht]; simp)] at hk; first | lia | omega
  have ex : ∀ q : List Nat, sl q (some (k : Int)) none = cutPre q k := fun q => sl_from q k
  refine Exs.assign (p := vStr (cutPre x k)) (by exact Ev.eq (Ev.slS (by walk_at "ev") (.int (by walk_at "ev")) .no zx) (by rw [ex])) (As.name (by walk_at "put")) ?_
  refine Exs.assign (p := vStr (cutPre y k)) (by exact Ev.eq (Ev.slS (by walk_at "ev") (.int (by walk_at "ev")) .no zy) (by rw [ex])) (As.name (by walk_at "put")) ?_
  have hlev : lev x y mx = lev3 (cutPost (cutPre x k) (comPre (cutPre x k).reverse (cutPre y k).reverse)) (cutPost (cutPre y k) (comPre (cutPre x k).reverse (cutPre y k).reverse)) mx := by unfold lev; rw [if_neg hxy, hpre]
  have hx1 : (cutPre x k).length ≤ 1000 := by unfold cutPre; simp; first | lia | omega
  have hy1 : (cutPre y k).length ≤ 1000 := by unfold cutPre; simp; first | lia | omega
  rw [hlev]
  generalize cutPre x k = a at *
  generalize cutPre y k = b at *
  clear hk hpre hlev zx zy ht hxy h ex hx hy
  have za : a.length ≤ sizeLine := by rw [sizeLine_is]; first | lia | omega
  have zb : b.length ≤ sizeLine := by rw [sizeLine_is]; first | lia | omega
  refine Exs.assign (p := vInt (-(((0 : Nat)) : Int))) (by exact Ev.cInt) (As.name (by walk_at "put")) ?_
  refine Exs.whlI (fun n σ => ∃ k, (n = a.length - k ∧ comPre (a.reverse.drop k) (b.reverse.drop k) + k = comPre a.reverse b.reverse) ∧ σ = { vars := [(PySem.Str.ofString "post", vInt (-(k : Int))), (PySem.Str.ofString "a", vStr a), (PySem.Str.ofString "b", vStr b), (PySem.Str.ofString "max_cost", vInt mx)] }) a.length ⟨_, by walk_at "wk", 0, ⟨rfl, rfl⟩, rfl⟩ fun n σn hi => ?_
  obtain ⟨k, ⟨rfl, hk⟩, rfl⟩ := hi
  refine ⟨headEq (a.reverse.drop k) (b.reverse.drop k), _, by
    refine Tst.eq (b := (cutPost a k != []) && ((cutPost b k != []) && (headEq (a.reverse.drop k) (b.reverse.drop k) && true))) (Tst.all (TAll.consA (Tst.str (Ev.eq (Ev.slS (by walk_at "ev") .no (.part (Ev.orNone (by walk_at "ev"))) za) (by rw [sl_post])) (fun _ => rfl) (by unfold cutPost; simp; first | lia | omega)) fun h1 => TAll.consA (Tst.str (Ev.eq (Ev.slS (by walk_at "ev") .no (.part (Ev.orNone (by walk_at "ev"))) zb) (by rw [sl_post])) (fun _ => rfl) (by unfold cutPost; simp; first | lia | omega)) fun h2 => TAll.consA ?_ fun _ => TAll.nilA)) (by unfold cutPost; cases a.reverse.drop k <;> cases b.reverse.drop k <;> simp [headEq, app_ne])
    have h1' : a.reverse.drop k ≠ [] := fun q => by unfold cutPost at h1; rw [q] at h1; cases h1
    have h2' : b.reverse.drop k ≠ [] := fun q => by unfold cutPost at h2; rw [q] at h2; cases h2
    obtain ⟨c, cs, hc⟩ : ∃ c cs, a.reverse.drop k = c :: cs := by cases hq : a.reverse.drop k with | nil => exact absurd hq h1' | cons c cs => exact ⟨c, cs, rfl⟩
    obtain ⟨d, ds, hd⟩ : ∃ c cs, b.reverse.drop k = c :: cs := by cases hq : b.reverse.drop k with | nil => exact absurd hq h2' | cons c cs => exact ⟨c, cs, rfl⟩
    have ga : k < a.length := by have := congrArg List.length hc; simp at this; first | lia | omega
    have gb : k < b.length := by have := congrArg List.length hd; simp at this; first | lia | omega
    have gc : a[a.length - 1 - k]? = some c := by have := List.getElem?_drop (xs := a.reverse) (i := k) (j := 0); rw [hc] at this; rw [Nat.add_zero, List.getElem?_reverse ga] at this; simpa using this.symm
    have gd : b[b.length - 1 - k]? = some d := by have := List.getElem?_drop (xs := b.reverse) (i := k) (j := 0); rw [hd] at this; rw [Nat.add_zero, List.getElem?_reverse gb] at this; simpa using this.symm
    have ia : seqIndex? (-(k : Int) - 1) a.length = some (a.length - 1 - k) := idx_neg ga
    have ib : seqIndex? (-(k : Int) - 1) b.length = some (b.length - 1 - k) := idx_neg gb
    refine Tst.eq (b := [c] == [d]) (by exact Tst.eqS (Ev.itemS (by walk_at "ev") (Ev.sub (by walk_at "ev") (by walk_at "ev")) (fun _ _ => rfl) ia gc za) (Ev.itemS (by walk_at "ev") (Ev.sub (by walk_at "ev") (by walk_at "ev")) (fun _ _ => rfl) ib gd zb)) ?_
    rw [hc, hd]
    simp [headEq], fun ht => ?_, fun ht => ?_⟩
  · have hl := headEq_len ht
    refine Exs.augSubI (At.mem (by walk_at "mem")) (by walk_at "ev") (by walk_at "put") ?_
    have e1 : -(k : Int) - 1 = -((k + 1 : Nat) : Int) := by first | lia | omega
    rw [e1]
    refine Exs.nil ⟨_, by walk_at "wk", a.length - (k + 1), by simp at hl; first | lia | omega, k + 1, ⟨rfl, ?_⟩, rfl⟩
    rw [comPre_head, if_pos ht, List.drop_drop, List.drop_drop] at hk
    first | lia | omega
  have hpost : comPre a.reverse b.reverse = k := by rw [comPre_head, if_neg (by rw [ht]; simp)] at hk; first | lia | omega
  refine Exs.assign (p := vStr (cutPost a k)) (by exact Ev.eq (Ev.slS (by walk_at "ev") .no (.part (Ev.orNone (by walk_at "ev"))) za) (by rw [sl_post])) (As.name (by walk_at "put")) ?_
  refine Exs.assign (p := vStr (cutPost b k)) (by exact Ev.eq (Ev.slS (by walk_at "ev") .no (.part (Ev.orNone (by walk_at "ev"))) zb) (by rw [sl_post])) (As.name (by walk_at "put")) ?_
  have hx2 : (cutPost a k).length ≤ 1000 := by unfold cutPost; simp; first | lia | omega
  have hy2 : (cutPost b k).length ≤ 1000 := by unfold cutPost; simp; first | lia | omega
  rw [hpost]
  generalize cutPost a k = x at *
  generalize cutPost b k = y at *
  clear hpost hk za zb ht hx1 hy1
  have zx : x.length ≤ sizeLine := by rw [sizeLine_is]; first | lia | omega
  have zy : y.length ≤ sizeLine := by rw [sizeLine_is]; first | lia | omega
  refine Exs.iff (by exact Tst.all (TAll.consO (Tst.not (Tst.str (by walk_at "ev") (fun _ => rfl) zx)) fun _ => TAll.consO (Tst.not (Tst.str (by walk_at "ev") (fun _ => rfl) zy)) fun _ => TAll.nilO)) (fun h => ?_) fun h => ?_
  · refine Exs.ret (by exact Ev.mul (by walk_at "ev") (Ev.add (Ev.lenS (by walk_at "ev") (by walk_at "ev") zx) (Ev.lenS (by walk_at "ev") (by walk_at "ev") zy)) (mulOk (.inl (by decide)))) ⟨[], .slnil, ?_, rfl⟩
    have h' : x = [] ∨ y = [] := by simpa using h
    unfold lev3; rw [if_pos h']
  have h0 : ¬ (x = [] ∨ y = []) := by simpa using h
  refine Exs.nil (Exs.iff (by exact Tst.all (TAll.consO (Tst.gtI (Ev.lenS (by walk_at "ev") (by walk_at "ev") zx) (by walk_at "ev")) fun _ => TAll.consO (Tst.gtI (Ev.lenS (by walk_at "ev") (by walk_at "ev") zy) (by walk_at "ev")) fun _ => TAll.nilO)) (fun h => ?_) fun h => ?_)
  · refine Exs.ret (by walk_at "ev") ⟨[], .slnil, ?_, rfl⟩
    have h' : 40 < x.length ∨ 40 < y.length := by simp at h; first | lia | omega
    unfold lev3; rw [if_neg h0, if_pos h']
  have h4 : ¬ (40 < x.length ∨ 40 < y.length) := by simp at h; first | lia | omega
  refine Exs.nil (Exs.iffM (fun σ => ∃ a b, (a ≠ [] ∧ a.length ≤ 40 ∧ b.length ≤ 40 ∧ b ≠ [] ∧ lev3 x y mx = lev2 a b mx) ∧ σ = { vars := [(PySem.Str.ofString "a", vStr a), (PySem.Str.ofString "b", vStr b), (PySem.Str.ofString "max_cost", vInt mx)] }) (by exact Tst.ltI (Ev.lenS (by walk_at "ev") (by walk_at "ev") zy) (Ev.lenS (by walk_at "ev") (by walk_at "ev") zx)) (fun h => ?_) (fun h => ?_) fun σ' hm => ?_)
  · have h' : y.length < x.length := by simpa using h
    refine Exs.swap (x := PySem.Str.ofString "a") (y := PySem.Str.ofString "b") (p := vStr y) (q := vStr x) (.tup (.cons (by walk_at "ev") (.cons (by walk_at "ev") .nil)) (Nat.le_of_ble_eq_true rfl)) (by walk_at "put") (by walk_at "put") ?_
    refine Exs.nil ⟨_, by walk_at "wk", y, x, ⟨fun q => h0 (.inr q), by first | lia | omega, by first | lia | omega, fun q => h0 (.inl q), ?_⟩, rfl⟩
    unfold lev3; rw [if_neg h0, if_neg h4, if_pos h']
  · have h' : ¬ y.length < x.length := by simpa using h
    refine Exs.nil ⟨_, by walk_at "wk", x, y, ⟨fun q => h0 (.inl q), by first | lia | omega, by first | lia | omega, fun q => h0 (.inr q), ?_⟩, rfl⟩
    unfold lev3; rw [if_neg h0, if_neg h4, if_neg h']
  obtain ⟨a, b, ⟨ha0, ha, hb, hb0, hl3⟩, rfl⟩ := hm
  rw [hl3]
  clear hl3 h4 h0 h zx zy hx2 hy2
  have za : a.length ≤ sizeLine := by rw [sizeLine_is]; first | lia | omega
  have zb : b.length ≤ sizeLine := by rw [sizeLine_is]; first | lia | omega
  refine Exs.iff (by exact Tst.gtI (Ev.mul (Ev.sub (Ev.lenS (by walk_at "ev") (by walk_at "ev") zb) (Ev.lenS (by walk_at "ev") (by walk_at "ev") za)) (by walk_at "ev") (mulOk (.inr (by decide)))) (by walk_at "ev")) (fun h => ?_) fun h => ?_
  · refine Exs.ret (by walk_at "ev") ⟨[], .slnil, ?_, rfl⟩
    have h' : mx < ((b.length : Int) - (a.length : Int)) * 2 := by simpa using h
    unfold lev2; rw [if_pos h']
  have h' : ¬ mx < ((b.length : Int) - (a.length : Int)) * 2 := by simpa using h
  have hlev : lev2 a b mx = match lvGo a mx 0 b (row0 a.length) with | none => mx + 1 | some row => row.getLastD 0 := by unfold lev2; rw [if_neg h']
  rw [hlev]
  clear hlev h h'
  have hl24 : a.length ≤ 2 ^ 24 := by first | lia | omega
  refine Exs.nil (Exs.asOwn (ps := (row0 a.length).map vInt) (by exact EvN.eq (EvN.listR (by walk_at "ev") (Ev.range3 (by walk_at "ev") (EvAll.cons (by walk_at "ev") (EvAll.cons (Ev.mul (by walk_at "ev") (Ev.add (Ev.lenS (by walk_at "ev") (by walk_at "ev") za) (by walk_at "ev")) (mulOk (.inl (by decide)))) (EvAll.cons (by walk_at "ev") EvAll.nil))) (by decide) (by decide)) (rangeRow a.length ha).1 (rangeRow a.length ha).2 hl24) (by unfold row0; rw [List.map_map]; rfl)) fun e he => ⟨_, by walk_at "put", ?_⟩)
  refine Exs.assign (p := vInt 0) (by exact Ev.cInt) (As.name (by walk_at "put")) ?_
  refine Exs.forI (EvIter.rangeN (a := 0) (b := b.length) (by exact Ev.range1 (by walk_at "ev") (Ev.lenS (by walk_at "ev") (by walk_at "ev") zb)) calm_name (by first | lia | omega) (by first | lia | omega))
    (fun k σ => ∃ row res, (row.length = a.length ∧ lvGo a mx k (b.drop k) row = lvGo a mx 0 b (row0 a.length) ∧ (0 < k → res = row.getLastD 0)) ∧ σ = { vars := [(PySem.Str.ofString "result", vInt res), (PySem.Str.ofString "row", vVal (.ref e)), (PySem.Str.ofString "a", vStr a), (PySem.Str.ofString "b", vStr b), (PySem.Str.ofString "max_cost", vInt mx)], res := [(e, .lst (row.map vInt))] })
    ⟨_, by walk_at "wk", row0 a.length, 0, ⟨by simp [row0], rfl, fun q => absurd q (Nat.lt_irrefl 0)⟩, rfl⟩ (fun k p pv σk hp hi => ?_) fun σk hi => ?_
  · obtain ⟨row, res, ⟨hrl, hgo, _⟩, rfl⟩ := hi
    obtain ⟨hk, rfl⟩ := rangeN_at hp
    have hkb : k < b.length := by first | lia | omega
    obtain ⟨c, hc⟩ : ∃ c, b[k]? = some c := ⟨b[k], List.getElem?_eq_getElem hkb⟩
    rw [drop_at hc, lvGo] at hgo
    rw [show 0 + k = k from Nat.zero_add k]
    refine ⟨_, As.name (by walk_at "put"), ?_⟩
    refine Exs.assign (p := vStr [c]) (by exact Ev.atS (by walk_at "ev") (by walk_at "ev") hc zb) (As.name (by walk_at "put")) ?_
    refine Exs.assign2 (p := vInt (2 * (k : Int))) (by exact Ev.eq (Ev.mul (by walk_at "ev") (by walk_at "ev") (mulOk (.inr (by decide)))) (by rw [Int.mul_comm])) (As.name (by walk_at "put")) (As.name (by walk_at "put")) ?_
    refine Exs.assign (p := vInt 9223372036854775807) (by exact Ev.cInt) (As.name (by walk_at "put")) ?_
    generalize hD : 2 * (k : Int) = D at *
    refine Exs.forI (EvIter.rangeN (a := 0) (b := a.length) (by exact Ev.range1 (by walk_at "ev") (Ev.lenS (by walk_at "ev") (by walk_at "ev") za)) calm_name (by first | lia | omega) (by first | lia | omega))
      (fun j σ => ∃ pre dist res, (pre.length = j ∧ pre ++ lvRow c dist res (a.drop j) (row.drop j) = lvRow c D D a row ∧ res = pre.getLastD D) ∧ σ = { vars := [(PySem.Str.ofString "minimum", vInt (minOf 9223372036854775807 pre)), (PySem.Str.ofString "distance", vInt dist), (PySem.Str.ofString "result", vInt res), (PySem.Str.ofString "bchar", vStr [c]), (PySem.Str.ofString "row", vVal (.ref e)), (PySem.Str.ofString "a", vStr a), (PySem.Str.ofString "b", vStr b), (PySem.Str.ofString "max_cost", vInt mx)], res := [(e, .lst ((pre ++ row.drop j).map vInt))] })
      ⟨_, by walk_at "wk", [], D, D, ⟨rfl, rfl, rfl⟩, rfl⟩ (fun j p pv2 σj hp hi => ?_) fun σj hi => ?_
    · obtain ⟨pre, dist, res, ⟨hpl, hrow, hres⟩, rfl⟩ := hi
      obtain ⟨hj, rfl⟩ := rangeN_at hp
      have hja : j < a.length := by first | lia | omega
      obtain ⟨x, hxj⟩ : ∃ c, a[j]? = some c := ⟨a[j], List.getElem?_eq_getElem hja⟩
      obtain ⟨d, hdj⟩ : ∃ c, row[j]? = some c := ⟨row[j]'(by first | lia | omega), List.getElem?_eq_getElem (by first | lia | omega)⟩
      rw [drop_at hxj, drop_at hdj, lvRow] at hrow
      rw [show 0 + j = j from Nat.zero_add j]
      have hget : ((pre ++ row.drop j).map vInt)[j]? = some (vInt d) := by
        rw [List.getElem?_map, List.getElem?_append_right (by first | lia | omega), hpl, Nat.sub_self, drop_at hdj]; rfl
      have hsz : ((pre ++ row.drop j).map vInt).length ≤ sizeLine := by rw [List.length_map, List.length_append, List.length_drop, sizeLine_is]; first | lia | omega
      have hset : ((pre ++ row.drop j).map vInt).set j (vInt (min (min res d + 2) (dist + subc [c] [x]))) = ((pre ++ [min (min res d + 2) (dist + subc [c] [x])]) ++ row.drop (j + 1)).map vInt := by
        rw [drop_at hdj, ← List.map_set, List.set_append_right _ _ (by first | lia | omega), hpl, Nat.sub_self, List.set_cons_zero, List.append_assoc]; rfl
      have hjl : j < ((pre ++ row.drop j).map vInt).length := by rw [List.length_map, List.length_append, List.length_drop]; first | lia | omega
      refine ⟨_, As.name (by walk_at "put"), ?_⟩
      refine Exs.assign (p := vInt (dist + subc [c] [x])) (by exact Ev.add (by walk_at "ev") (Ev.callF (K := KK w) G (by walk_at "isfn") (by walk_at "ev") (EvAll.cons (by walk_at "ev") (EvAll.cons (Ev.atS (by walk_at "ev") (by walk_at "ev") hxj za) EvAll.nil)) (sub_1 G c x) rm.in_ (Upd.none _))) (As.name (by walk_at "put")) ?_
      refine Exs.assign (p := vInt d) (by exact Ev.atL (ps := (pre ++ row.drop j).map vInt) (by walk_at "src") (by walk_at "ev") hget hsz) (As.name (by walk_at "put")) ?_
      refine Exs.assign (p := vInt (min res d + 2)) (by exact Ev.eq (Ev.add (Ev.min2 (f := .Name (PySem.Str.ofString "x") ⟨0, 0, 0, 0⟩) (by walk_at "ev") (EvAll.cons (by walk_at "ev") (EvAll.cons (by walk_at "ev") EvAll.nil))) (by walk_at "ev")) (by rw [getD_min])) (As.name (by walk_at "put")) ?_
      refine Exs.assign (p := vInt (min (min res d + 2) (dist + subc [c] [x]))) (by exact Ev.eq (Ev.min2 (f := .Name (PySem.Str.ofString "x") ⟨0, 0, 0, 0⟩) (by walk_at "ev") (EvAll.cons (by walk_at "ev") (EvAll.cons (by walk_at "ev") EvAll.nil))) (by rw [getD_min])) (As.name (by walk_at "put")) ?_
      generalize hr : min (min res d + 2) (dist + subc [c] [x]) = r' at *
      refine Exs.putItem (((pre ++ [r']) ++ row.drop (j + 1)).map vInt) (by walk_at "ev") (by walk_at "ev") (by walk_at "ev") (by walk_at "rset") hjl hset hsz ?_
      refine Exs.iffM (fun σ => σ = { vars := [(PySem.Str.ofString "minimum", vInt (minOf 9223372036854775807 (pre ++ [r']))), (PySem.Str.ofString "distance", vInt d), (PySem.Str.ofString "result", vInt r'), (PySem.Str.ofString "bchar", vStr [c]), (PySem.Str.ofString "row", vVal (.ref e)), (PySem.Str.ofString "a", vStr a), (PySem.Str.ofString "b", vStr b), (PySem.Str.ofString "max_cost", vInt mx)], res := [(e, .lst (((pre ++ [r']) ++ row.drop (j + 1)).map vInt))] }) (by walk_at "tst") (fun h => ?_) (fun h => ?_) fun σ' hm => ?_
      · have h' : r' < minOf 9223372036854775807 pre := by simpa using h
        refine Exs.assign (by walk_at "ev") (As.name (by walk_at "put")) ?_
        rw [minOf_snoc, show min (minOf 9223372036854775807 pre) r' = r' from by first | lia | omega]
        exact Exs.nil ⟨_, by walk_at "wk", rfl⟩
      · have h' : ¬ r' < minOf 9223372036854775807 pre := by simpa using h
        rw [minOf_snoc, show min (minOf 9223372036854775807 pre) r' = minOf 9223372036854775807 pre from by first | lia | omega]
        exact Exs.nil ⟨_, by walk_at "wk", rfl⟩
      · subst hm
        exact Exs.nil ⟨_, by walk_at "wk", pre ++ [r'], d, r', ⟨by simp; first | lia | omega, by rw [← hrow]; simp, by rw [getLastD_snoc]⟩, rfl⟩
    · obtain ⟨pre, dist, res, ⟨hpl, hrow, hres⟩, rfl⟩ := hi
      rw [List.length_map, List.length_range, Nat.sub_zero] at hpl hrow
      rw [List.drop_length, show ∀ q, lvRow c dist res [] q = [] from fun q => by simp [lvRow], List.append_nil] at hrow
      · rw [List.length_map, List.length_range, Nat.sub_zero]
        rw [← hrow] at hgo
        rw [show row.drop a.length = [] from by rw [← hrl, List.drop_length], List.append_nil]
        have hpn : pre ≠ [] := fun q => by subst q; simp at hpl; exact ha0 (List.eq_nil_of_length_eq_zero hpl.symm)
        refine Exs.iff (by walk_at "tst") (fun h => ?_) fun h => ?_
        · have h' : mx < minOf 9223372036854775807 pre := by simpa using h
          rw [if_pos h'] at hgo
          refine Exs.ret (by walk_at "ev") ⟨[], List.nil_sublist _, ?_, rfl⟩
          rw [← hgo]
        · have h' : ¬ mx < minOf 9223372036854775807 pre := by simpa using h
          rw [if_neg h'] at hgo
          exact Exs.nil (Exs.nil ⟨_, by walk_at "wk", pre, res, ⟨hpl, hgo, fun _ => by rw [hres]; exact getLastD_ne pre hpn D 0⟩, rfl⟩)
  · obtain ⟨row, res, ⟨hrl, hgo, hres⟩, rfl⟩ := hi
    rw [List.length_map, List.length_range, Nat.sub_zero] at hgo hres
    rw [List.drop_length, lvGo] at hgo
    refine Exs.ret (by walk_at "ev") ⟨[], List.nil_sublist _, ?_, rfl⟩
    rw [← hgo]
    congr 1
    exact hres (List.length_pos_iff.mpr hb0)
theorem open_ok {prog : Program} {w : World} {g : Heap} (G : Grd (KK w) g) (LG : LamG g 163 159) (l : List Nat) (sg : Addr) :
    FnR prog w g (.ref 164) 8 [vVal (.ref sg)] [(sg, .lst (sgs l)), (159, .raw (tabObj #[]) [])] fun q S => ∃ a d pb cl co fo fa fd ts fz, q = vVal (.ref a) ∧ fo.data = .func fd ∧ ReadOK prog w g fa cl sg co ∧
      S = [(cl, co), (pb, .lst []), (d, .inst a CN (lexF 1 (vInst CN (feedF fa fo)) pb)), (sg, .lst (sgs l)), (159, .raw (tabObj ts) fz)] := by
  refine FnR.of_cell (K := KK w) G (x := PySem.Str.ofString "signs") ⟨⟨_, rfl, rfl⟩, rfl, by with_unfolding_all rfl, rfl, rfl, rfl, rfl, rfl, rfl, rfl, fun n => rfl⟩ (fun v => rfl) fun A F s L rm => ?_
  refine Exs.assignE (EvE.callC (K := KK w) (C := CN) (L := [(sg, .lst (sgs l)), (159, .raw (tabObj #[]) [])]) G rfl (by walk_at "ev") (EvAll.cons (by walk_at "ev") EvAll.nil) (FnR.cls (fI := 101) G ⟨rfl, rfl, rfl⟩ fun x dx => lexInit_ok G (vVal .none) x dx) (rm.in_.le (by decide)) (.right (.right .nil))) fun p σ' h => ?_
  obtain ⟨R', ⟨x, dx, rfl, pbf, rfl⟩, hn, rfl⟩ := h
  have hdx : s.heap.get? dx = none := (hn dx (List.mem_cons_of_mem _ List.mem_cons_self)).resolve_left (fun q => List.not_mem_nil q)
  refine ⟨_, As.name (by walk_at "put"), ?_⟩
  refine Exs.setAttrE (K := KK w) (C := CN) G (by walk_at "set") (EvE.lambda (c := 163) (tb := 159) (fun ce => [(pbf, .lst []), (dx, .inst x CN (lexF 1 (vVal .none) pbf)), (sg, .lst (sgs l)), (159, ce)]) LG rfl (fun ce => by walk_at "rset") (fun ce ce' => by walk_at "rset") rfl (clos := [(PySem.Str.ofString "signs", L + 1)]) (by with_unfolding_all rfl)) fun p σ' h => ?_
  obtain ⟨fa, c', oc, vs, t, pm, ctv, ts, rfl, hoc, hv, rfl⟩ := h
  refine ⟨x, dx, _, _, _, by walk_at "ev", by walk_at "rset", FPut.new rfl, Nat.le_of_ble_eq_true rfl, ?_⟩
  refine Exs.freezeI (C := CN) (fs' := feedF fa _) (x := PySem.Str.ofString "feed") (o := x) (a := dx) (At.mem (by walk_at "mem")) (by walk_at "rdel") (.same (.any (.same (.same (.same .nil))))) (by walk_at "rep") hdx ?_
  refine Exs.retCell (x := PySem.Str.ofString "signs") (c := L + 1) (u := .ref sg) (EvE.callC (K := KK w) (C := CN) G rfl (by walk_at "ev") (EvAll.cons (by walk_at "ev") EvAll.nil) (FnR.cls (fI := 101) G ⟨rfl, rfl, rfl⟩ fun x dx => lexInit_ok G _ x dx) (rm.in_.le (by decide)) (.right (.right (.right .nil)))) rfl rfl rfl fun p σ' h => ?_
  obtain ⟨R', ⟨a, d, rfl, pb, rfl⟩, hn2, rfl⟩ := h
  refine ⟨At.mem (by walk_at "mem"), _, fun F s ok => ok.frozen (a := 159) (.there (.there (.there (.there .here)))), fun co hco => ?_⟩
  refine ⟨[(L + 1, .raw co _), (pb, .lst []), (d, .inst a CN _), (sg, .lst (sgs l)), (159, _)], .cons_cons _ (.cons_cons _ (.cons_cons _ (.cons _ (List.Sublist.refl _)))), a, d, pb, L + 1, _, _, fa, _, ts, _, rfl, rfl, ?_, rfl⟩
  · intro l hl
    refine FnD.lam (x := PySem.Str.ofString "signs") (y := PySem.Str.ofString "count") G hoc hv hco (fun v => rfl) rfl rfl rfl rfl rfl rfl (by decide) (by decide) fun A F s L2 rm => ?_
    have hmem : ∀ l : List Nat, (PySem.Str.ofString "signs", vVal (.ref sg)) ∈ [(PySem.Str.ofString "count", vInt 1), (PySem.Str.ofString "signs", vVal (.ref sg))] := fun _ => List.mem_cons_of_mem _ List.mem_cons_self
    cases l with
    | nil =>
      refine Ev.eq (p := vStr (joinL [] [])) (Ev.join (x := []) (ls := []) (by walk_at "ev") ?_ rfl) rfl
      refine Ev.srcL ?_
      refine Ev.comp (ps := []) (R0 := []) (σ₁ := { vars := [(PySem.Str.ofString "count", vInt 1), (PySem.Str.ofString "signs", vVal (.ref sg))], res := [(sg, .lst (sgs []))] }) ?i ?s (fun _ => [(sg, .lst (sgs []))]) rfl (fun _ => rfl) (fun k x hx => (List.not_mem_nil hx).elim) (fun _ => []) rfl (fun _ => true) (fun _ => vStr []) (fun k hk => absurd hk (Nat.not_lt_zero k)) (fun _ _ => Nat.zero_le _) (cl := [(PySem.Str.ofString "signs", L + 1)]) (cv := [(PySem.Str.ofString "signs", vVal (.ref sg))]) (fun C F0 s0 W pv k p hp => by cases hp)
      case i =>
        refine EvIter.rangeN (a := 0) (b := 0) ?_ calm_name (Nat.le_of_ble_eq_true rfl) (Nat.le_of_ble_eq_true rfl)
        refine Ev.range1 (by walk_at "ev") (Ev.eq (p := vInt (if ((sgs []).length : Int) < 1 then ((sgs []).length : Int) else 1)) ?_ (congrArg vInt (by decide)))
        refine Ev.min2 (f := .Name (PySem.Str.ofString "x") ⟨0, 0, 0, 0⟩) (by walk_at "ev") ?_
        exact (EvAll.cons (by walk_at "ev") (EvAll.cons (Ev.lenL (ps := sgs []) (by walk_at "ev") (by walk_at "src") (Nat.zero_le _)) EvAll.nil))
      case s =>
        refine ⟨by with_unfolding_all rfl, rfl, by decide, by decide, fun z c h => h, List.pairwise_singleton _ _, fun z p hz => ?_, List.nodup_cons.mpr ⟨List.not_mem_nil, List.nodup_nil⟩⟩
        cases List.mem_singleton.mp hz
        exact ⟨List.mem_cons_of_mem _ List.mem_cons_self, (show (some NameKind.free : Option NameKind) ≠ some NameKind.local from by decide), rfl, .inr ⟨by with_unfolding_all rfl, by decide⟩⟩
    | cons c r =>
      refine Ev.eq (p := vStr (joinL [] [[c]])) (Ev.join (x := []) (ls := [[c]]) (by walk_at "ev") ?_ rfl) rfl
      refine Ev.srcL ?_
      have hln : (if ((sgs (c :: r)).length : Int) < 1 then ((sgs (c :: r)).length : Int) else 1) = ((1 : Nat) : Int) := by
        rw [if_neg (by simp [vStrs]; first | lia | omega)]; rfl
      have hsz : (sgs (c :: r)).length ≤ sizeLine := by rw [sizeLine_is]; simp [vStrs] at hl ⊢; first | lia | omega
      have hsz2 : (sgs r).length < sizeLine := by rw [sizeLine_is]; simp [vStrs] at hl ⊢; first | lia | omega
      refine Ev.comp (ps := [vInt ((0 : Nat) : Int)]) (R0 := []) (σ₁ := { vars := [(PySem.Str.ofString "count", vInt 1), (PySem.Str.ofString "signs", vVal (.ref sg))], res := [(sg, .lst (sgs (c :: r)))] }) ?i ?s (fun k => [(sg, .lst (if k = 0 then sgs (c :: r) else sgs r))]) rfl (fun _ => rfl) (fun k x hx => (List.not_mem_nil hx).elim) (fun k => if k = 0 then [] else [vStr [c]]) rfl (fun _ => true) (fun _ => vStr [c]) (fun k hk => by cases (Nat.lt_one_iff.mp hk); rfl) (fun k _ => by by_cases q : k = 0 <;> simp [q, sizeLine_is]) (cl := [(PySem.Str.ofString "signs", L + 1)]) (cv := [(PySem.Str.ofString "signs", vVal (.ref sg))]) (fun C F0 s0 W pv k p hp => ?_)
      case i =>
        refine EvIter.rangeN (a := 0) (b := 1) ?_ calm_name (Nat.le_of_ble_eq_true rfl) (Nat.le_of_ble_eq_true rfl)
        refine Ev.range1 (by walk_at "ev") (Ev.eq (p := vInt (if ((sgs (c :: r)).length : Int) < 1 then ((sgs (c :: r)).length : Int) else 1)) ?_ (congrArg vInt hln))
        refine Ev.min2 (f := .Name (PySem.Str.ofString "x") ⟨0, 0, 0, 0⟩) (by walk_at "ev") ?_
        exact (EvAll.cons (by walk_at "ev") (EvAll.cons (Ev.lenL (ps := sgs (c :: r)) (by walk_at "ev") (by walk_at "src") hsz) EvAll.nil))
      case s =>
        refine ⟨by with_unfolding_all rfl, rfl, by decide, by decide, fun z c h => h, List.pairwise_singleton _ _, fun z p hz => ?_, List.nodup_cons.mpr ⟨List.not_mem_nil, List.nodup_nil⟩⟩
        cases List.mem_singleton.mp hz
        exact ⟨List.mem_cons_of_mem _ List.mem_cons_self, (show (some NameKind.free : Option NameKind) ≠ some NameKind.local from by decide), rfl, .inr ⟨by with_unfolding_all rfl, by decide⟩⟩
      case _ =>
        have hk : k = 0 := by
          have := (List.getElem?_eq_some_iff.mp hp).1
          simpa using this
        subst hk
        refine ⟨_, _, As.name (Put.newL (by with_unfolding_all rfl) rfl), rfl, .nil _, (fun q => by cases q), fun _ => ⟨_, Ev.pop0 (ps := sgs r) (a := sg) (by walk_at "ev") (by exact Ev.cInt) (R' := [(sg, .lst (sgs r))]) RSet.here hsz2, rfl⟩⟩
noncomputable def wFree (q : Bool) (told : List Nat) (c : Nat) : Bool := if q then !isIn [c] [92, 34] else (!isIn [c] [92, 32, 9, 10, 13] && ([c] != [34] || told != []))
noncomputable def wStep (q odd : Bool) (told : List Nat) (c : Nat) : List Nat := (if odd || !wFree q told c then told ++ [92] else told) ++ [c]
noncomputable def wBody (q odd : Bool) (word : List Nat) : List Nat := word.foldl (wStep q odd) []
noncomputable def wQuo (m : Int) (word : List Nat) : Bool := decide (m > 1) || (word == [])
noncomputable def wOdd (m : Int) : Bool := m.fmod 2 == 1
noncomputable def written (word : List Nat) (m : Int) (e : List Nat) : List Nat := if wQuo m word then [34] ++ wBody (wQuo m word) (wOdd m) word ++ [34] else wBody (wQuo m word) (wOdd m) word ++ e
theorem wStep_len (q odd : Bool) (told : List Nat) (c : Nat) : (wStep q odd told c).length ≤ told.length + 2 := by
  unfold wStep; split <;> simp
theorem wBody_snoc (q odd : Bool) (x : List Nat) (c : Nat) : wBody q odd (x ++ [c]) = wStep q odd (wBody q odd x) c := by unfold wBody; rw [List.foldl_append]; rfl
theorem wBody_len (q odd : Bool) (x : List Nat) : (wBody q odd x).length ≤ 2 * x.length := by
  have : ∀ (l told : List Nat), (l.foldl (wStep q odd) told).length ≤ told.length + 2 * l.length := by
    intro l
    induction l with
    | nil => intro told; simp
    | cons c l ih => intro told; have h1 := ih (wStep q odd told c); have h2 := wStep_len q odd told c; simp only [List.foldl_cons, List.length_cons]; first | lia | omega
  have := this x []; simpa [wBody] using this
theorem written_ok {prog : Program} {w : World} {g : Heap} (G : Grd (KK w) g) (x : List Nat) (m : Int) (e : List Nat) (hx : x.length ≤ 1000) (he : e.length ≤ 1000) :
    FnD prog w g (.ref 157) 1 [vStr x, vInt m, vStr e] [] (vStr (written x m e)) [] := by
  refine FnR.of_vars (K := KK w) G (by walk_at "isfn") [(PySem.Str.ofString "word", vStr x), (PySem.Str.ofString "manner", vInt m), (PySem.Str.ofString "end", vStr e)] rfl (vals3 fun a b c => rfl) rfl (by with_unfolding_all rfl) fun A F s L rm => ?_
  refine Exs.assign (p := vBool (wQuo m x)) (by exact Ev.orB (Ev.gtI (by walk_at "ev") (by walk_at "ev")) fun _ => Ev.eqS (by walk_at "ev") (by exact Ev.cStr rfl)) (As.name (by walk_at "put")) ?_
  generalize hq : wQuo m x = q
  refine Exs.assign (p := vStr []) (by exact Ev.cStr rfl) (As.name (by walk_at "put")) ?_
  refine Exs.forI (EvIter.str (by walk_at "ev") calm_name)
    (fun k σ => ∃ told, (told = wBody q (wOdd m) (x.take k)) ∧ σ = { vars := [(PySem.Str.ofString "told", vStr told), (PySem.Str.ofString "quoted", vBool q), (PySem.Str.ofString "word", vStr x), (PySem.Str.ofString "manner", vInt m), (PySem.Str.ofString "end", vStr e)] })
    ⟨_, by walk_at "wk", [], rfl, rfl⟩ (fun k p pv σk hp hi => ?_) fun σk hi => ?_
  · obtain ⟨told, ht, rfl⟩ := hi
    obtain ⟨c, hc, rfl⟩ := strs_at hp
    have hk : k < x.length := (List.getElem?_eq_some_iff.mp hc).1
    have htl : told.length ≤ 2000 := by have := wBody_len q (wOdd m) (x.take k); rw [← ht] at this; simp at this; first | lia | omega
    refine ⟨_, As.name (by walk_at "put"), ?_⟩
    
    refine Exs.iffM (fun σ => σ = { vars := [(PySem.Str.ofString "free", vBool (wFree q told c)), (PySem.Str.ofString "sign", vStr [c]), (PySem.Str.ofString "told", vStr told), (PySem.Str.ofString "quoted", vBool q), (PySem.Str.ofString "word", vStr x), (PySem.Str.ofString "manner", vInt m), (PySem.Str.ofString "end", vStr e)] }) (Tst.bool (by walk_at "ev") (fun _ => rfl)) (fun h => ?_) (fun h => ?_) fun σ' h => ?_
    · refine Exs.assign (p := vBool (!isIn [c] [92, 34])) (by exact Ev.ninS (by walk_at "ev") (by exact Ev.cStr rfl)) (As.name (by walk_at "put")) ?_
      rw [show wFree q told c = !isIn [c] [92, 34] from by unfold wFree; rw [if_pos h]]
      exact Exs.nil ⟨_, by walk_at "wk", rfl⟩
    · refine Exs.assign (p := vBool (!isIn [c] [92, 32, 9, 10, 13] && ([c] != [34] || told != []))) (by exact Ev.andB (Ev.ninS (by walk_at "ev") (by exact Ev.cStr rfl)) fun _ => Ev.orB (Ev.neS (by walk_at "ev") (by exact Ev.cStr rfl)) fun _ => Ev.neS (by walk_at "ev") (by exact Ev.cStr rfl)) (As.name (by walk_at "put")) ?_
      rw [show wFree q told c = (!isIn [c] [92, 32, 9, 10, 13] && ([c] != [34] || told != [])) from by unfold wFree; rw [if_neg (by rw [h]; decide)]]
      exact Exs.nil ⟨_, by walk_at "wk", rfl⟩
    subst h
    
    
    refine Exs.iffM (fun σ => σ = { vars := [(PySem.Str.ofString "sign", vStr [c]), (PySem.Str.ofString "told", vStr (if wOdd m || !wFree q told c then told ++ [92] else told)), (PySem.Str.ofString "quoted", vBool q), (PySem.Str.ofString "word", vStr x), (PySem.Str.ofString "manner", vInt m), (PySem.Str.ofString "end", vStr e)] }) (by exact Tst.all (TAll.consO (Tst.eqI (Ev.mod (by walk_at "ev") (by walk_at "ev") (by decide)) (by walk_at "ev")) fun _ => TAll.consO (Tst.not (Tst.bool (by walk_at "ev") (fun _ => rfl))) fun _ => TAll.nilO)) (fun h => ?_) (fun h => ?_) fun σ' h => ?_
    · have h' : (wOdd m || !wFree q told c) = true := by rw [← h]; unfold wOdd; simp
      rw [if_pos h']
      refine Exs.assign (p := vStr (told ++ [92])) (by exact Ev.addS (by walk_at "ev") (by exact Ev.cStr rfl) (by rw [sizeLine_is]; simp; first | lia | omega)) (As.name (by walk_at "put")) ?_
      exact Exs.nil ⟨_, by walk_at "wk", rfl⟩
    · have h' : ¬ (wOdd m || !wFree q told c) = true := fun h2 => by rw [show (wOdd m || !wFree q told c) = false from by rw [← h]; unfold wOdd; simp] at h2; cases h2
      rw [if_neg h']
      exact Exs.nil ⟨_, by walk_at "wk", rfl⟩
    subst h
    have hz : (if wOdd m || !wFree q told c then told ++ [92] else told).length + 1 ≤ sizeLine := by rw [sizeLine_is]; split <;> simp <;> first | lia | omega
    refine Exs.assign (p := vStr (wStep q (wOdd m) told c)) (by exact Ev.addS (by walk_at "ev") (by walk_at "ev") hz) (As.name (by walk_at "put")) ?_
    exact Exs.nil ⟨_, by walk_at "wk", _, by rw [take_snoc hc, wBody_snoc, ht], rfl⟩
  · obtain ⟨told, ht, rfl⟩ := hi
    rw [strs_len, List.take_length] at ht
    have htl : told.length ≤ 2000 := by have := wBody_len q (wOdd m) x; rw [← ht] at this; first | lia | omega
    refine Exs.iff (Tst.bool (by walk_at "ev") (fun _ => rfl)) (fun h => ?_) fun h => ?_
    · refine Exs.ret (by exact Ev.addS (Ev.addS (x := [34]) (by exact Ev.cStr rfl) (by walk_at "ev") (by rw [sizeLine_is]; simp; first | lia | omega)) (y := [34]) (by exact Ev.cStr rfl) (by rw [sizeLine_is]; simp; first | lia | omega)) ⟨[], .slnil, ?_, rfl⟩
      unfold written
      rw [hq, if_pos h, ht]
    · refine Exs.nil (Exs.ret (by exact Ev.addS (by walk_at "ev") (by walk_at "ev") (by rw [sizeLine_is]; first | lia | omega)) ⟨[], .slnil, ?_, rfl⟩)
      unfold written
      rw [hq, if_neg (by rw [h]; decide), ht]
/-! a written word is read back -/
theorem inQ_cons (tk : List Nat) (c : Nat) (r : List Nat) : inQ tk (c :: r) = (if c = 34 then some (tk, r) else if c = 92 then (match r with
      | [] => none
      | e :: r => inQ (tk ++ [e]) r) else inQ (tk ++ [c]) r) := by rw [inQ.eq_def]; try (cases r <;> rfl)
theorem inB_cons (tk : List Nat) (c : Nat) (r : List Nat) : inB tk (c :: r) = (if isWs c then some (tk, r) else if c = 92 then (match r with
      | [] => none
      | e :: r => inB (tk ++ [e]) r) else inB (tk ++ [c]) r) := by rw [inB.eq_def]; try (cases r <;> rfl)
theorem tok_cons (c : Nat) (r : List Nat) : tok (c :: r) = (if isWs c then tok r else if c = 34 then inQ [] r else if c = 92 then (match r with
      | [] => none
      | e :: r => inB [e] r) else inB [c] r) := by rw [tok.eq_def]; try (cases r <;> rfl)
noncomputable def pFree (q ne : Bool) (c : Nat) : Bool := if q then !isIn [c] [92, 34] else (!isIn [c] [92, 32, 9, 10, 13] && ([c] != [34] || ne))
noncomputable def enc (q odd : Bool) : Bool → List Nat → List Nat
  | _, [] => []
  | ne, c :: r => (if odd || !pFree q ne c then [92, c] else [c]) ++ enc q odd true r
theorem app_ne' (l : List Nat) (x : Nat) : ((l ++ [x]) != []) = true := by cases l <;> rfl
theorem fold_enc (q odd : Bool) : ∀ (l told : List Nat), l.foldl (wStep q odd) told = told ++ enc q odd (told != []) l
  | [], told => by simp [enc]
  | c :: r, told => by
    rw [List.foldl_cons, fold_enc q odd r]
    have h1 : wStep q odd told c = told ++ (if odd || !pFree q (told != []) c then [92, c] else [c]) := by
      unfold wStep
      have : wFree q told c = pFree q (told != []) c := by unfold wFree pFree; rfl
      rw [this]
      split <;> simp
    have h2 : (wStep q odd told c != []) = true := by unfold wStep; exact app_ne' _ c
    rw [h2, h1, enc, List.append_assoc]
theorem wBody_enc (q odd : Bool) (x : List Nat) : wBody q odd x = enc q odd false x := by
  unfold wBody; rw [fold_enc]; rfl
theorem not_in {c : Nat} {l : List Nat} (h : (!isIn [c] l) = true) : c ∉ l := by
  rw [isIn_one] at h
  intro q
  rw [decide_eq_true q] at h
  cases h
theorem inQ_enc (odd : Bool) (rest : List Nat) : ∀ (l tk : List Nat) (ne : Bool), inQ tk (enc true odd ne l ++ 34 :: rest) = some (tk ++ l, rest)
  | [], tk, ne => by
    show inQ tk (34 :: rest) = _
    rw [inQ_cons, if_pos rfl, List.append_nil]
  | c :: r, tk, ne => by
    rw [enc]
    by_cases h : (odd || !pFree true ne c) = true
    · rw [if_pos h]
      show inQ tk (92 :: c :: (enc true odd true r ++ 34 :: rest)) = _
      rw [inQ_cons, if_neg (by decide), if_pos rfl]
      show inQ (tk ++ [c]) _ = _
      rw [inQ_enc odd rest r (tk ++ [c]) true, List.append_assoc]; rfl
    · rw [if_neg h]
      show inQ tk (c :: (enc true odd true r ++ 34 :: rest)) = _
      have hf : pFree true ne c = true := by
        cases hp : pFree true ne c with
        | true => rfl
        | false => rw [hp] at h; simp at h
      have hc := not_in (l := [92, 34]) (by unfold pFree at hf; rw [if_pos rfl] at hf; exact hf)
      have h34 : ¬ c = 34 := fun q => hc (by rw [q]; decide)
      have h92 : ¬ c = 92 := fun q => hc (by rw [q]; decide)
      rw [inQ_cons, if_neg h34, if_neg h92, inQ_enc odd rest r (tk ++ [c]) true, List.append_assoc]; rfl
theorem inB_enc (odd : Bool) (e : Nat) (he : isWs e = true) (rest : List Nat) : ∀ (l tk : List Nat), inB tk (enc false odd true l ++ e :: rest) = some (tk ++ l, rest)
  | [], tk => by
    show inB tk (e :: rest) = _
    rw [inB_cons, if_pos he]; simp
  | c :: r, tk => by
    rw [enc]
    by_cases h : (odd || !pFree false true c) = true
    · rw [if_pos h]
      show inB tk (92 :: c :: (enc false odd true r ++ e :: rest)) = _
      rw [inB_cons, if_neg (by decide), if_pos rfl]
      show inB (tk ++ [c]) _ = _
      rw [inB_enc odd e he rest r (tk ++ [c]), List.append_assoc]; rfl
    · rw [if_neg h]
      show inB tk (c :: (enc false odd true r ++ e :: rest)) = _
      have hf : pFree false true c = true := by
        cases hp : pFree false true c with
        | true => rfl
        | false => rw [hp] at h; simp at h
      have hc := not_in (l := [92, 32, 9, 10, 13]) (by
        unfold pFree at hf
        rw [if_neg (by decide)] at hf
        exact (Bool.and_eq_true _ _ ▸ hf).1)
      have h92 : ¬ c = 92 := fun q => hc (by rw [q]; decide)
      have hw : ¬ isWs c = true := fun q => hc (by
        have := of_decide_eq_true q
        simp at this ⊢; first | lia | omega)
      rw [inB_cons, if_neg hw, if_neg h92, inB_enc odd e he rest r (tk ++ [c]), List.append_assoc]; rfl
theorem tok_written (x : List Nat) (m : Int) (e : Nat) (he : isWs e = true) (rest : List Nat) : tok (written x m [e] ++ rest) = some (x, rest) := by
  unfold written
  rw [wBody_enc]
  cases hq : wQuo m x with
  | true =>
    rw [if_pos rfl]
    show tok (34 :: (enc true (wOdd m) false x ++ [34]) ++ rest) = _
    rw [show 34 :: (enc true (wOdd m) false x ++ [34]) ++ rest = 34 :: (enc true (wOdd m) false x ++ 34 :: rest) from by simp]
    rw [tok_cons, if_neg (by decide), if_pos rfl, inQ_enc]; rfl
  | false =>
    rw [if_neg (by decide)]
    cases x with
    | nil => unfold wQuo at hq; simp at hq
    | cons c r =>
      rw [enc]
      by_cases h : (wOdd m || !pFree false false c) = true
      · rw [if_pos h]
        rw [show [92, c] ++ enc false (wOdd m) true r ++ [e] ++ rest = 92 :: c :: (enc false (wOdd m) true r ++ e :: rest) from by simp]
        rw [tok_cons, if_neg (by decide), if_neg (by decide), if_pos rfl]
        show inB [c] _ = _
        rw [inB_enc _ e he]; rfl
      · rw [if_neg h]
        rw [show [c] ++ enc false (wOdd m) true r ++ [e] ++ rest = c :: (enc false (wOdd m) true r ++ e :: rest) from by simp]
        have hf : pFree false false c = true := by
          cases hp : pFree false false c with
          | true => rfl
          | false => rw [hp] at h; simp at h
        unfold pFree at hf
        rw [if_neg (by decide)] at hf
        obtain ⟨hf1, hf2⟩ := (Bool.and_eq_true _ _ ▸ hf : _ ∧ _)
        have hc := not_in (l := [92, 32, 9, 10, 13]) hf1
        have h92 : ¬ c = 92 := fun q => hc (by rw [q]; decide)
        have h34 : ¬ c = 34 := by simpa using hf2
        have hw : ¬ isWs c = true := fun q => hc (by
          have := of_decide_eq_true q
          simp at this ⊢; first | lia | omega)
        rw [tok_cons, if_neg hw, if_neg h34, if_neg h92, inB_enc _ e he]; rfl
/-! a lead's columns are its indent levels -/
noncomputable def stepN (ts c : Int) (n : Nat) : Int := (c + n) + ts - (c + n).fmod ts
noncomputable def gl (ts : Int) : Int → List Nat → Int
  | c, [] => c
  | c, [n] => c + n
  | c, n :: m :: r => gl ts (stepN ts c n) (m :: r)
noncomputable def lens (x : List Nat) : List Nat := (spl 9 x).map List.length
noncomputable def addHead (b : Nat) : List Nat → List Nat
  | [] => []
  | n :: r => (n + b) :: r
noncomputable def colR (ts : Int) : Int → Nat → List Nat → Int
  | c, b, [] => c + b
  | c, b, d :: r => if d = 9 then colR ts (stepN ts c b) 0 r else colR ts c (b + 1) r
theorem lens_ne (x : List Nat) : lens x ≠ [] := by unfold lens; simp [spl_ne]
theorem gl_cons (ts c : Int) (n : Nat) (l : List Nat) (h : l ≠ []) : gl ts c (n :: l) = gl ts (stepN ts c n) l := by
  cases l with
  | nil => exact absurd rfl h
  | cons m r => rfl
theorem colR_gl (ts : Int) : ∀ (x : List Nat) (c : Int) (b : Nat), colR ts c b x = gl ts c (addHead b (lens x))
  | [], c, b => by simp [lens, spl, addHead, gl, colR]
  | d :: r, c, b => by
    rw [colR]
    by_cases h : d = 9
    · rw [if_pos h, colR_gl ts r]
      have e : lens (d :: r) = 0 :: lens r := by unfold lens; rw [spl, if_pos h]; rfl
      rw [e]
      show _ = gl ts c ((0 + b) :: lens r)
      rw [gl_cons _ _ _ _ (lens_ne r), Nat.zero_add]
      congr 1
      cases hl : lens r with
      | nil => exact absurd hl (lens_ne r)
      | cons m s => rfl
    · rw [if_neg h, colR_gl ts r]
      congr 1
      unfold lens
      rw [show spl 9 (d :: r) = match spl 9 r with | [] => [[d]] | p :: ps => (d :: p) :: ps from by rw [spl, if_neg h]; try rfl]
      cases hs : spl 9 r with
      | nil => exact absurd hs (spl_ne 9 r)
      | cons p ps => simp [addHead]; first | lia | omega
theorem colAt_gl (ts : Int) : ∀ (runs : List (List Nat)) (c : Int), runs ≠ [] → runs.dropLast.foldl (colStep ts) c + (runs.getLastD []).length = gl ts c (runs.map List.length)
  | [], _, h => absurd rfl h
  | [p], c, _ => by simp [gl, List.getLastD]
  | p :: q :: r, c, _ => by
    have ih := colAt_gl ts (q :: r) (colStep ts c p) (by simp)
    rw [List.dropLast_cons_of_ne_nil (by simp), List.foldl_cons]
    rw [show ((p :: q :: r).getLastD []) = ((q :: r).getLastD []) from by simp [List.getLastD]]
    rw [ih]; rfl
theorem addHead_zero (l : List Nat) : addHead 0 l = l := by cases l <;> rfl
theorem colAt_R (x : List Nat) (ts : Int) : colAt (splitL x [9]) ts = colR ts 0 0 x := by
  rw [colR_gl, addHead_zero, splitL_spl]
  exact colAt_gl ts (spl 9 x) 0 (spl_ne 9 x)
noncomputable def Wf (ts : Nat) : Nat → List Nat → Int
  | _, [] => 0
  | i, c :: r => ((i / ts : Nat) : Int) * (c : Int) + Wf ts (i + 1) r
theorem Wf_app (ts : Nat) : ∀ (a b : List Nat) (i : Nat), Wf ts i (a ++ b) = Wf ts i a + Wf ts (i + a.length) b
  | [], b, i => by simp [Wf]
  | c :: a, b, i => by
    rw [List.cons_append, Wf, Wf, Wf_app ts a b (i + 1), List.length_cons, show i + (a.length + 1) = i + 1 + a.length from by first | lia | omega]
    first | lia | omega
theorem Wf_zero (ts : Nat) : ∀ (n i : Nat), Wf ts i (List.replicate n 0) = 0
  | 0, i => rfl
  | n + 1, i => by rw [List.replicate_succ, Wf, Wf_zero ts n (i + 1)]; simp
theorem Wf_set (ts : Nat) : ∀ (l : List Nat) (i b : Nat), b < l.length → Wf ts i (l.set b (l.getD b 0 + 1)) = Wf ts i l + (((i + b) / ts : Nat) : Int)
  | [], i, b, h => by simp at h
  | c :: l, i, 0, _ => by
    show Wf ts i ((c + 1) :: l) = _
    have : (((c + 1 : Nat)) : Int) = (c : Int) + 1 := by first | lia | omega
    rw [Wf, Wf, show i + 0 = i from rfl, this, Int.mul_add]; first | lia | omega
  | c :: l, i, b + 1, h => by
    have ih := Wf_set ts l (i + 1) b (by simp at h; first | lia | omega)
    show Wf ts i (c :: l.set b (l.getD b 0 + 1)) = _
    rw [Wf, Wf, ih, show i + 1 + b = i + (b + 1) from by first | lia | omega]; first | lia | omega
theorem Wf_low (ts : Nat) : ∀ (l : List Nat) (i : Nat), i + l.length ≤ ts → Wf ts i l = 0
  | [], i, _ => rfl
  | c :: l, i, h => by
    rw [Wf, Wf_low ts l (i + 1) (by simp at h; first | lia | omega), Nat.div_eq_of_lt (by simp at h; first | lia | omega)]; simp
theorem ilSum_Wf (l : List Nat) (ts : Nat) (h1 : 1 ≤ ts) : ∀ k, k ≤ l.length - ts → ilSum l ts k = Wf ts ts ((l.drop ts).take k)
  | 0, _ => by simp [ilSum, Wf]
  | k + 1, h => by
    have hk : ts + k < l.length := by first | lia | omega
    have hd : (l.drop ts)[k]? = some (l.getD (ts + k) 0) := by
      rw [List.getElem?_drop, List.getElem?_eq_getElem hk]
      simp [List.getD, List.getElem?_eq_getElem hk]
    rw [ilSum, ilSum_Wf l ts h1 k (by first | lia | omega), take_snoc hd, Wf_app]
    have hl : ((l.drop ts).take k).length = k := by rw [List.length_take, List.length_drop]; first | lia | omega
    rw [hl, Wf, Wf]
    have : ((ts + k : Nat) : Int).fdiv ts = (((ts + k) / ts : Nat) : Int) := by
      rw [Int.fdiv_eq_ediv_of_nonneg _ (by first | lia | omega)]; rfl
    rw [this]; first | lia | omega
theorem ilSum_all (l : List Nat) (ts : Nat) (h1 : 1 ≤ ts) : ilSum l ts (l.length - ts) = Wf ts 0 l := by
  rw [ilSum_Wf l ts h1 _ (Nat.le_refl _)]
  have e : (l.drop ts).take (l.length - ts) = l.drop ts := by rw [← List.length_drop]; exact List.take_length
  rw [e]
  have h2 : Wf ts 0 l = Wf ts 0 (l.take ts) + Wf ts (0 + (l.take ts).length) (l.drop ts) := by rw [← Wf_app, List.take_append_drop]
  rw [h2, Wf_low ts (l.take ts) 0 (by rw [List.length_take]; omega), Int.zero_add, Nat.zero_add, List.length_take]
  by_cases hl : ts ≤ l.length
  · rw [Nat.min_eq_left hl]
  · rw [List.drop_eq_nil_of_le (by omega)]; simp [Wf]
theorem Wf_pad (ts : Nat) (u : WS) : Wf ts 0 u.pad = Wf ts 0 u.count := by
  unfold WS.pad
  split
  · rw [Wf_app, Wf_zero]; first | lia | omega
  · rfl
theorem Wf_tab (ts : Nat) (u : WS) : Wf ts 0 u.tab.count = Wf ts 0 u.count + ((u.b / ts : Nat) : Int) := by
  unfold WS.tab
  show Wf ts 0 (u.pad.set u.b (u.pad.getD u.b 0 + 1)) = _
  rw [Wf_set ts u.pad 0 u.b (WS.pad_len u).1, Wf_pad, Nat.zero_add]
theorem indent_R (ts : Nat) (h1 : 1 ≤ ts) : ∀ (x : List Nat) (u : WS), (∀ c ∈ x, c = 32 ∨ c = 9) → indentOf (WS.run u x) ts = colR ts ((ts : Int) * (Wf ts 0 u.count + (u.nt : Int))) u.b x
  | [], u, _ => by
    unfold WS.run indentOf colR
    rw [ilSum_all _ _ h1]; first | lia | omega
  | c :: r, u, h => by
    have hr : ∀ d ∈ r, d = 32 ∨ d = 9 := fun d hd => h d (List.mem_cons_of_mem _ hd)
    rw [WS.run, colR]
    by_cases h32 : c = 32
    · rw [if_pos h32, if_neg (by first | lia | omega), indent_R ts h1 r _ hr]
    · have h9 : c = 9 := (h c List.mem_cons_self).resolve_left h32
      rw [if_neg h32, if_pos h9, if_pos h9, indent_R ts h1 r _ hr, Wf_tab]
      congr 1
      show (ts : Int) * (Wf ts 0 u.count + ((u.b / ts : Nat) : Int) + ((u.nt + 1 : Nat) : Int)) = stepN ts ((ts : Int) * (Wf ts 0 u.count + (u.nt : Int))) u.b
      unfold stepN
      have hm : ((ts : Int) * (Wf ts 0 u.count + (u.nt : Int)) + (u.b : Int)).fmod ts = ((u.b % ts : Nat) : Int) := by
        rw [Int.fmod_eq_emod_of_nonneg _ (by first | lia | omega), Int.add_comm, Int.add_mul_emod_self_left]; rfl
      rw [hm]
      have hd : (u.b : Int) = (ts : Int) * ((u.b / ts : Nat) : Int) + ((u.b % ts : Nat) : Int) := by
        have := Nat.div_add_mod u.b ts
        rw [← Int.natCast_mul, ← Int.natCast_add, this]
      have e1 : ((u.nt + 1 : Nat) : Int) = (u.nt : Int) + 1 := by first | lia | omega
      rw [e1]
      simp only [Int.mul_add, Int.mul_one]
      first | lia | omega
/-- the column at a tab size is the indent level -/
theorem indent_col (x : List Nat) (ts : Nat) (h1 : 1 ≤ ts) (h : ∀ c ∈ x, c = 32 ∨ c = 9) : indentOf (wsOf x) ts = colAt (splitL x [9]) ts := by
  rw [colAt_R]
  unfold wsOf
  rw [indent_R ts h1 x _ h]
  simp [Wf]
noncomputable def pcs (t : Int) (f : Nat) : List Int := ((digL t (List.replicate 18 5)).drop (3 * f)).take (1 + f / 2)
noncomputable def pieces5 : List (List Nat) := [[9], [32, 9], [32, 32, 9], [32, 32, 32, 9], [32, 32, 32, 32]]
noncomputable def pieceS (d : Nat) : List Nat := pieces5.getD d []
noncomputable def pieceNo (t : Int) (f m i : Nat) : Nat := (((pcs t f).getD i 0 + (m : Int) * ((i : Int) + 1)).fmod 5).toNat
noncomputable def leadRaw (t : Int) (f m : Nat) : List Nat := (List.range (pcs t f).length).foldl (fun a i => a ++ pieceS (pieceNo t f m i)) []
noncomputable def leadFull (t : Int) (f m : Nat) : List Nat := leadRaw t f m ++ S2 (Txt.mul (L2S [32, 32]) ((f : Int).fmod 2))
noncomputable def turnedL (turn : Bool) (runs : List (List Nat)) : List (List Nat) := if turn then runs.dropLast.reverse ++ runs.drop (runs.length - 1) else runs
noncomputable def leadOf (t : Int) (f m : Nat) (turn : Int) : List Nat := joinL [9] (turnedL (turn == 1) (splitL (leadFull t f m) [9]))
theorem sl_mid {α : Type} (l : List α) (a b : Nat) (h1 : a ≤ b) (h2 : b ≤ l.length) : sl l (some (a : Int)) (some (b : Int)) = (l.drop a).take (b - a) := by
  unfold sl kms_lo kms_hi
  have e1 : ¬ ((a : Int) < 0) := by first | lia | omega
  have e2 : ¬ ((b : Int) < 0) := by first | lia | omega
  simp only [e1, e2, if_false, Int.toNat_natCast]
  rw [Nat.min_eq_left h2, Nat.min_eq_left (Nat.le_trans h1 h2)]
theorem pcs_len (t : Int) (f : Nat) (hf : f < 6) : (pcs t f).length = 1 + f / 2 := by
  unfold pcs; rw [List.length_take, List.length_drop, digL_length, List.length_replicate]; first | lia | omega
theorem pieceNo_lt (t : Int) (f m i : Nat) : pieceNo t f m i < 5 := by
  unfold pieceNo
  rw [Int.fmod_eq_emod_of_nonneg _ (by decide)]
  omega
theorem pieceS_len (d : Nat) : (pieceS d).length ≤ 4 := by
  unfold pieceS pieces5
  match d with
  | 0 | 1 | 2 | 3 | 4 => decide
  | n + 5 => simp [List.getD]
theorem fold_len (g : Nat → Nat) : ∀ (l : List Nat) (a : List Nat), (l.foldl (fun a i => a ++ pieceS (g i)) a).length ≤ a.length + 4 * l.length
  | [], a => by simp
  | i :: l, a => by
    have h1 := fold_len g l (a ++ pieceS (g i))
    have h2 := pieceS_len (g i)
    simp only [List.foldl_cons, List.length_cons]
    rw [List.length_append] at h1; first | lia | omega
theorem mul_len (f : Nat) : (S2 (Txt.mul (L2S [32, 32]) ((f : Int).fmod 2))).length ≤ 2 ∧ MulOk (L2S [32, 32]) ((f : Int).fmod 2) := by
  have h : (f : Int).fmod 2 = 0 ∨ (f : Int).fmod 2 = 1 := by
    rw [Int.fmod_eq_emod_of_nonneg _ (by decide)]
    first | lia | omega
  rcases h with h | h <;> rw [h] <;> exact ⟨by decide, by unfold MulOk; decide⟩
theorem leadFull_len (t : Int) (f m : Nat) (hf : f < 6) : (leadFull t f m).length ≤ 14 := by
  unfold leadFull leadRaw
  have h1 := fold_len (pieceNo t f m) (List.range (pcs t f).length) []
  have h2 := (mul_len f).1
  rw [List.length_range, pcs_len t f hf] at h1
  rw [List.length_append]
  simp only [List.length_nil] at h1
  rw [pcs_len t f hf]
  first | lia | omega
theorem turned_mem {turn : Bool} {runs : List (List Nat)} : ∀ p ∈ turnedL turn runs, p ∈ runs := by
  intro p hp
  unfold turnedL at hp
  split at hp
  · rcases List.mem_append.mp hp with h | h
    · exact List.dropLast_subset _ (List.mem_reverse.mp h)
    · exact List.drop_subset _ _ h
  · exact hp
theorem turned_len {turn : Bool} {runs : List (List Nat)} : (turnedL turn runs).length = runs.length := by
  unfold turnedL
  split
  · simp only [List.length_append, List.length_reverse, List.length_dropLast, List.length_drop]; omega
  · rfl
theorem lead_ok {prog : Program} {w : World} {g : Heap} (G : Grd (KK w) g) (t : Int) (f m : Nat) (turn : Int) (hf : f < 6) (hm : m < 2) :
    FnD prog w g (.ref 178) 2 [vInt t, vInt (f : Int), vInt (m : Int), vInt turn] [] (vStr (leadOf t f m turn)) [] := by
  refine FnR.of_vars (K := KK w) G (by walk_at "isfn") [(PySem.Str.ofString "total", vInt t), (PySem.Str.ofString "family", vInt (f : Int)), (PySem.Str.ofString "member", vInt (m : Int)), (PySem.Str.ofString "turn", vInt turn)] rfl (vals4 fun a b c d => rfl) rfl (by with_unfolding_all rfl) fun A F s L rm => ?_
  have hdl : ((digL t (List.replicate 18 5)).map vInt).length = 18 := by rw [List.length_map, digL_length, List.length_replicate]
  have e1 : 3 * (f : Int) = ((3 * f : Nat) : Int) := by first | lia | omega
  have e2 : 3 * (f : Int) + 1 + (f : Int).fdiv 2 = ((3 * f + 1 + f / 2 : Nat) : Int) := by rw [Int.fdiv_eq_ediv_of_nonneg _ (by decide)]; first | lia | omega
  have e3 : sl ((digL t (List.replicate 18 5)).map vInt) (some ((3 * f : Nat) : Int)) (some ((3 * f + 1 + f / 2 : Nat) : Int)) = (pcs t f).map vInt := by
    rw [sl_mid _ _ _ (by first | lia | omega) (by rw [hdl]; first | lia | omega)]
    unfold pcs
    rw [← List.map_drop, ← List.map_take]
    rw [show 3 * f + 1 + f / 2 - 3 * f = 1 + f / 2 from by first | lia | omega]
  have hpl := pcs_len t f hf
  have hps : ((pcs t f).map vInt).length = 1 + f / 2 := by rw [List.length_map, hpl]
  have hds : ((digL t (List.replicate 18 5)).map vInt).length ≤ sizeLine := by rw [hdl, sizeLine_is]; first | lia | omega
  have hmul : List.replicate (18 : Int).toNat (vInt 5) = (List.replicate 18 (5 : Int)).map vInt := rfl
  have hdg := digits_ok (prog := prog) (w := w) G t (List.replicate 18 5) (fun s hs => by rw [(List.mem_replicate.mp hs).2]; decide) (by decide)
  refine Exs.assign (p := vList ((pcs t f).map vInt)) (EvN.ev (EvN.eq (EvN.slice (ps := (digL t (List.replicate 18 5)).map vInt) (x := some ((3 * f : Nat) : Int)) (y := some ((3 * f + 1 + f / 2 : Nat) : Int)) ?zv ?zl ?zh hds) e3)) (As.name (by walk_at "put")) ?_
  case zv =>
    refine Ev.srcL ?_
    refine Ev.callF (K := KK w) (σ₁ := { vars := [(PySem.Str.ofString "total", vInt t), (PySem.Str.ofString "family", vInt (f : Int)), (PySem.Str.ofString "member", vInt (m : Int)), (PySem.Str.ofString "turn", vInt turn)] }) (ps := [vInt t, vListW ((List.replicate 18 (5 : Int)).map vInt)]) G (by walk_at "isfn") (by walk_at "ev") (EvAll.cons (by walk_at "ev") (EvAll.cons ?_ EvAll.nil)) hdg rm.in_ Upd.nil
    exact Ev.listW (EvN.ev (EvN.eq (EvN.mul (n := 18) (p := vInt 5) (Ev.src (EvN.ev (EvN.disp (EvAll.cons (by exact Ev.cInt) EvAll.nil)))) (by exact Ev.cInt) (by decide) (by decide)) hmul))
  case zl => exact EvPt.int (Ev.eq (Ev.mul (by walk_at "ev") (by walk_at "ev") (mulOk (.inl (by decide)))) (congrArg vInt e1))
  case zh => exact EvPt.int (Ev.eq (Ev.add (Ev.add (Ev.mul (by walk_at "ev") (by walk_at "ev") (mulOk (.inl (by decide)))) (by walk_at "ev")) (Ev.fdiv (by walk_at "ev") (by walk_at "ev") (by decide) (by decide))) (congrArg vInt e2))
  have hzp : ((pcs t f).map vInt).length ≤ sizeLine := by rw [hps, sizeLine_is]; first | lia | omega
  refine Exs.assign (p := vStr []) (by exact Ev.cStr rfl) (As.name (by walk_at "put")) ?_
  refine Exs.forI (EvIter.rangeN (a := 0) (b := (pcs t f).length) (by exact Ev.eq (Ev.range1 (by walk_at "ev") (Ev.lenL (ps := (pcs t f).map vInt) (by walk_at "ev") (by walk_at "src") hzp)) (by rw [List.length_map]; rfl)) calm_name (by first | lia | omega) (by first | lia | omega))
    (fun k σ => ∃ acc : List Nat, (acc = (List.range k).foldl (fun a i => a ++ pieceS (pieceNo t f m i)) [] ∧ acc.length ≤ 4 * k) ∧ σ = { vars := [(PySem.Str.ofString "lead", vStr acc), (PySem.Str.ofString "pieces", vList ((pcs t f).map vInt)), (PySem.Str.ofString "total", vInt t), (PySem.Str.ofString "family", vInt (f : Int)), (PySem.Str.ofString "member", vInt (m : Int)), (PySem.Str.ofString "turn", vInt turn)] })
    ⟨_, by walk_at "wk", [], ⟨rfl, Nat.zero_le _⟩, rfl⟩ (fun k p pv σk hp hi => ?_) fun σk hi => ?_
  · obtain ⟨acc, ⟨hacc, hal⟩, rfl⟩ := hi
    obtain ⟨hk, rfl⟩ := rangeN_at hp
    rw [show 0 + k = k from Nat.zero_add k]
    have hkl : k < (pcs t f).length := by first | lia | omega
    have hget : ((pcs t f).map vInt)[k]? = some (vInt ((pcs t f).getD k 0)) := by
      rw [List.getElem?_map, List.getElem?_eq_getElem hkl]
      simp [List.getD, List.getElem?_eq_getElem hkl]
    have hno : ((pcs t f).getD k 0 + (m : Int) * ((k : Int) + 1)).fmod 5 = ((pieceNo t f m k : Nat) : Int) := by
      unfold pieceNo
      rw [Int.fmod_eq_emod_of_nonneg _ (by decide)]
      first | lia | omega
    have h5 := pieceNo_lt t f m k
    have hp5 : [vStr [9], vStr [32, 9], vStr [32, 32, 9], vStr [32, 32, 32, 9], vStr [32, 32, 32, 32]][pieceNo t f m k]? = some (vStr (pieceS (pieceNo t f m k))) := by
      generalize pieceNo t f m k = d at h5
      match d, h5 with
      | 0, _ | 1, _ | 2, _ | 3, _ | 4, _ => rfl
    have hpl5 := pieceS_len (pieceNo t f m k)
    have hz : acc.length + (pieceS (pieceNo t f m k)).length ≤ sizeLine := by rw [sizeLine_is]; first | lia | omega
    refine ⟨_, As.name (by walk_at "put"), ?_⟩
    refine Exs.assign (p := vStr (acc ++ pieceS (pieceNo t f m k))) (Ev.addS (by walk_at "ev") (Ev.atL (ps := [vStr [9], vStr [32, 9], vStr [32, 32, 9], vStr [32, 32, 32, 9], vStr [32, 32, 32, 32]]) (k := pieceNo t f m k) ?zd ?zi hp5 (Nat.le_of_ble_eq_true rfl)) hz) (As.name (by walk_at "put")) ?_
    case zd => exact Ev.srcL (EvN.ev (EvN.disp (EvAll.cons (by exact Ev.cStr rfl) (EvAll.cons (by exact Ev.cStr rfl) (EvAll.cons (by exact Ev.cStr rfl) (EvAll.cons (by exact Ev.cStr rfl) (EvAll.cons (by exact Ev.cStr rfl) EvAll.nil))))) (Nat.le_of_ble_eq_true rfl)))
    case zi => exact Ev.eq (Ev.mod (Ev.add (Ev.atL (ps := (pcs t f).map vInt) (by walk_at "src") (by walk_at "ev") hget hzp) (Ev.mul (by walk_at "ev") (Ev.add (by walk_at "ev") (by walk_at "ev")) (mulOk (.inl (by first | lia | omega))))) (by walk_at "ev") (by decide)) (congrArg vInt hno)
    refine Exs.nil ⟨_, by walk_at "wk", _, ⟨?_, ?_⟩, rfl⟩
    · rw [List.range_succ, List.foldl_append, hacc]; rfl
    · rw [List.length_append]; first | lia | omega
  · obtain ⟨acc, ⟨hacc, hal⟩, rfl⟩ := hi
    rw [List.length_map, List.length_range, Nat.sub_zero] at hacc hal
    have hac : acc = leadRaw t f m := hacc
    subst hac
    clear hacc
    obtain ⟨hm1, hm2⟩ := mul_len f
    have hfl := leadFull_len t f m hf
    have hz : (leadRaw t f m).length + (S2 (Txt.mul (L2S [32, 32]) ((f : Int).fmod 2))).length ≤ sizeLine := by rw [sizeLine_is]; first | lia | omega
    have hz2 : (leadFull t f m).length ≤ sizeLine := by rw [sizeLine_is]; first | lia | omega
    have hsl := spl_len 9 (leadFull t f m)
    rw [← splitL_spl] at hsl
    have hz3 : (splitL (leadFull t f m) [9]).length ≤ sizeLine := by rw [sizeLine_is]; first | lia | omega
    refine Exs.assign (p := vList (vStrs (splitL (leadFull t f m) [9]))) (by exact EvN.ev (EvN.split (x := leadFull t f m) (y := [9]) (Ev.addS (by walk_at "ev") (Ev.mulS (by exact Ev.cStr rfl) (Ev.mod (by walk_at "ev") (by walk_at "ev") (by decide)) hm2) hz) (by exact Ev.cStr rfl) rfl hz2 hz3)) (As.name (by walk_at "put")) ?_
    have hml : ∀ p ∈ splitL (leadFull t f m) [9], p.length ≤ 14 := fun p hp => by
      rw [splitL_spl] at hp
      have := (spl_mem 9 _ p hp).2.2
      first | lia | omega
    have hzv : (vStrs (splitL (leadFull t f m) [9])).length ≤ sizeLine := by unfold vStrs; rw [List.length_map]; exact hz3
    have hj : ∀ b, JoinOk (L2S [9]) ((turnedL b (splitL (leadFull t f m) [9])).map L2S) = true := fun b => joinOk_of 15 14 (by rw [turned_len]; first | lia | omega) (fun p hp => hml p (turned_mem p hp)) (by decide) (by decide)
    have hlo : ∀ q, leadOf t f m turn = joinL [9] (turnedL q (splitL (leadFull t f m) [9])) ∨ (turn == 1) ≠ q := fun q => by
      by_cases h : (turn == 1) = q
      · exact .inl (by unfold leadOf; rw [h])
      · exact .inr h
    generalize hR : splitL (leadFull t f m) [9] = runs at *
    refine Exs.iff (by walk_at "tst") (fun h => ?_) fun h => ?_
    · have hL := (hlo true).resolve_right (fun q => q h)
      rw [hL]
      have hvt : (vStrs runs).dropLast.reverse ++ (vStrs runs).drop ((vStrs runs).length - 1) = vStrs (turnedL true runs) := by
        unfold turnedL vStrs
        rw [if_pos rfl, List.map_append, List.map_reverse, List.map_dropLast, List.map_drop, List.length_map]
      have hzz : (vStrs runs).dropLast.reverse.length + ((vStrs runs).drop ((vStrs runs).length - 1)).length ≤ sizeLine := by
        unfold vStrs
        simp only [List.length_reverse, List.length_dropLast, List.length_drop, List.length_map]; rw [sizeLine_is]; first | lia | omega
      have hzd : (vStrs runs).dropLast.length ≤ sizeLine := by rw [List.length_dropLast]; first | lia | omega
      refine Exs.ret (Ev.join (x := [9]) (ls := turnedL true runs) (by exact Ev.cStr rfl) (Ev.srcL (EvN.ev (EvN.eq (EvN.add ?za ?zb hzz) hvt))) (hj true)) ⟨[], .slnil, rfl, rfl⟩
      case za => exact Ev.src (EvN.ev (EvN.rev (Ev.srcL (EvN.ev (EvN.butlast (by walk_at "src") (by walk_at "ev") hzv))) (EvPt.int (by walk_at "ev")) hzd))
      case zb => exact Ev.src (EvN.ev (EvN.lastOf (by walk_at "src") (by walk_at "ev") hzv))
    · have hL := (hlo false).resolve_right (fun q => q h)
      rw [hL]
      refine Exs.nil (Exs.ret (by exact Ev.join (x := [9]) (ls := runs) (by exact Ev.cStr rfl) (by walk_at "src") (hj false)) ⟨[], .slnil, ?_, rfl⟩)
      rfl
/-! forms and columns -/
noncomputable def can (l : List Nat) : Prop := l = [] ∨ l.getD (l.length - 1) 0 ≠ 0
theorem can_eq {l m : List Nat} (h1 : can l) (h2 : can m) (h : ∀ i, l.getD i 0 = m.getD i 0) : l = m := by
  have len : ∀ {l m : List Nat}, can m → (∀ i, l.getD i 0 = m.getD i 0) → m.length ≤ l.length := fun {l m} hm h => by
    apply Nat.le_of_not_lt
    intro hlt
    rcases hm with rfl | hm
    · simp at hlt
    · apply hm
      rw [← h]
      simp only [List.getD]
      rw [List.getElem?_eq_none (by omega)]; rfl
  have e : l.length = m.length := Nat.le_antisymm (len h1 fun i => (h i).symm) (len h2 h)
  apply List.ext_getElem e
  intro i hi hj
  have := h i
  simp only [List.getD, List.getElem?_eq_getElem hi, List.getElem?_eq_getElem hj, Option.getD_some] at this
  exact this
theorem sum_set : ∀ (l : List Nat) (b : Nat), b < l.length → (l.set b (l.getD b 0 + 1)).sum = l.sum + 1
  | [], b, h => by simp at h
  | c :: l, 0, _ => by show ((c + 1) :: l).sum = _; simp only [List.sum_cons]; first | lia | omega
  | c :: l, b + 1, h => by
    have := sum_set l b (by simp at h; first | lia | omega)
    show (c :: l.set b (l.getD b 0 + 1)).sum = _
    simp only [List.sum_cons]; first | lia | omega
theorem sum_rep (n : Nat) : (List.replicate n 0).sum = 0 := by induction n with | zero => rfl | succ n ih => rw [List.replicate_succ, List.sum_cons, ih]
theorem getD_set (l : List Nat) (b j v : Nat) : (l.set b v).getD j 0 = if b = j ∧ j < l.length then v else l.getD j 0 := by
  simp only [List.getD, List.getElem?_set]
  by_cases h : b = j
  · subst h
    by_cases h2 : b < l.length
    · simp [h2]
    · simp [h2, List.getElem?_eq_none (Nat.le_of_not_lt h2)]
  · simp [h]
theorem tab_inv (u : WS) (h1 : u.nt = u.count.sum) (h2 : can u.count) : u.tab.nt = u.tab.count.sum ∧ can u.tab.count := by
  obtain ⟨p1, p2, _⟩ := WS.pad_len u
  have hs : u.pad.sum = u.count.sum := by
    unfold WS.pad; split
    · rw [List.sum_append, sum_rep]; rfl
    · rfl
  refine ⟨?_, .inr ?_⟩
  · show u.nt + 1 = (u.pad.set u.b (u.pad.getD u.b 0 + 1)).sum
    rw [sum_set _ _ p1, hs, h1]
  · show (u.pad.set u.b (u.pad.getD u.b 0 + 1)).getD ((u.pad.set u.b (u.pad.getD u.b 0 + 1)).length - 1) 0 ≠ 0
    rw [List.length_set, getD_set]
    by_cases hb : u.b = u.pad.length - 1
    · rw [if_pos ⟨hb, by first | lia | omega⟩]; first | lia | omega
    · rw [if_neg fun q => hb q.1]
      have hp : u.pad = u.count := by
        unfold WS.pad at hb ⊢
        split
        · rename_i hle
          exfalso; apply hb
          rw [if_pos hle, List.length_append, List.length_replicate]; first | lia | omega
        · rfl
      rw [hp]
      rcases h2 with h2 | h2
      · rw [hp, h2] at p1; simp at p1
      · exact h2
theorem run_inv : ∀ (x : List Nat) (u : WS), u.nt = u.count.sum → can u.count → (WS.run u x).nt = (WS.run u x).count.sum ∧ can (WS.run u x).count
  | [], u, h1, h2 => ⟨h1, h2⟩
  | c :: r, u, h1, h2 => by
    unfold WS.run
    split
    · exact run_inv r _ h1 h2
    · split
      · exact run_inv r _ (tab_inv u h1 h2).1 (tab_inv u h1 h2).2
      · exact ⟨h1, h2⟩
theorem ws_inv (x : List Nat) : (wsOf x).nt = (wsOf x).count.sum ∧ can (wsOf x).count := run_inv x ⟨[], 0, 0, 0⟩ rfl (.inl rfl)
noncomputable def wsum (ts : Nat) : Nat → Nat → (Nat → Nat) → Int
  | _, 0, _ => 0
  | i, n + 1, f => ((i / ts : Nat) : Int) * (f 0 : Int) + wsum ts (i + 1) n (fun j => f (j + 1))
theorem wsum_z (ts : Nat) : ∀ n i, wsum ts i n (fun _ => 0) = 0
  | 0, i => rfl
  | n + 1, i => by rw [wsum, wsum_z ts n]; simp
theorem Wf_exp (ts : Nat) : ∀ (n i : Nat) (l : List Nat), l.length ≤ n → Wf ts i l = wsum ts i n (fun j => l.getD j 0)
  | n, i, [], _ => by
    rw [Wf, show (fun j => ([] : List Nat).getD j 0) = fun _ => 0 from funext fun j => by simp [List.getD], wsum_z]
  | 0, i, c :: l, h => by simp at h
  | n + 1, i, c :: l, h => by
    rw [Wf, wsum, Wf_exp ts n (i + 1) l (by simp at h; omega)]
    rfl
noncomputable def psum : Nat → (Nat → Nat) → Int
  | 0, _ => 0
  | n + 1, f => (f 0 : Int) + psum n (fun j => f (j + 1))
theorem psum_z : ∀ n, psum n (fun _ => 0) = 0
  | 0 => rfl
  | n + 1 => by rw [psum, psum_z n]; rfl
theorem sum_exp : ∀ (n : Nat) (l : List Nat), l.length ≤ n → ((l.sum : Nat) : Int) = psum n (fun j => l.getD j 0)
  | n, [], _ => by rw [show (fun j => ([] : List Nat).getD j 0) = fun _ => 0 from funext fun j => by simp [List.getD], psum_z]; rfl
  | 0, c :: l, h => by simp at h
  | n + 1, c :: l, h => by
    rw [psum]
    have := sum_exp n l (by simp at h; first | lia | omega)
    show _ = (c : Int) + psum n (fun j => l.getD j 0)
    rw [← this, List.sum_cons]; first | lia | omega
theorem wsum_congr (ts : Nat) : ∀ (n i : Nat) (f g : Nat → Nat), (∀ j, j < n → f j = g j) → wsum ts i n f = wsum ts i n g
  | 0, _, _, _, _ => rfl
  | n + 1, i, f, g, h => by
    rw [wsum, wsum, h 0 (Nat.succ_pos n), wsum_congr ts n (i + 1) (fun j => f (j + 1)) (fun j => g (j + 1)) fun j hj => h (j + 1) (Nat.succ_lt_succ hj)]
theorem psum_congr : ∀ (n : Nat) (f g : Nat → Nat), (∀ j, j < n → f j = g j) → psum n f = psum n g
  | 0, _, _, _ => rfl
  | n + 1, f, g, h => by
    rw [psum, psum, h 0 (Nat.succ_pos n), psum_congr n (fun j => f (j + 1)) (fun j => g (j + 1)) fun j hj => h (j + 1) (Nat.succ_lt_succ hj)]
theorem wsum_at (ts : Nat) (h1 : 1 ≤ ts) : ∀ (n i : Nat) (f g : Nat → Nat), (∀ j, j < n → ts < i + j → f j = g j) → wsum ts i n f = wsum ts i n g → ∀ j, j < n → i + j = ts → f j = g j
  | 0, _, _, _, _, _, _, hj, _ => absurd hj (Nat.not_lt_zero _)
  | n + 1, i, f, g, h, e, j, hj, hij => by
    rw [wsum, wsum] at e
    cases j with
    | zero =>
      have hi : i = ts := hij
      subst hi
      rw [wsum_congr i n (i + 1) (fun j => f (j + 1)) (fun j => g (j + 1)) fun j hj => h (j + 1) (Nat.succ_lt_succ hj) (by first | lia | omega), Nat.div_self h1] at e
      first | lia | omega
    | succ j =>
      rw [Nat.div_eq_of_lt (show i < ts by first | lia | omega)] at e
      refine wsum_at ts h1 n (i + 1) (fun j => f (j + 1)) (fun j => g (j + 1)) (fun k hk hlt => h (k + 1) (Nat.succ_lt_succ hk) (by first | lia | omega)) (by simpa using e) j (Nat.lt_of_succ_lt_succ hj) (by first | lia | omega)
theorem forms_eq {f g : Nat → Nat} (hs : psum 15 f = psum 15 g) (h : ∀ ts, 1 ≤ ts → ts ≤ 14 → wsum ts 0 15 f = wsum ts 0 15 g) : ∀ i, i < 15 → f i = g i := by
  have hd : ∀ d i, 15 - i = d → 1 ≤ i → i < 15 → f i = g i := by
    intro d
    induction d using Nat.strongRecOn with
    | ind d ih =>
      intro i hi h1 h2
      exact wsum_at i h1 15 0 f g (fun j hj hlt => ih (15 - j) (by first | lia | omega) j rfl (by first | lia | omega) hj) (h i h1 (by first | lia | omega)) i h2 (Nat.zero_add i)
  intro i hi
  cases i with
  | succ i => exact hd _ (i + 1) rfl (Nat.succ_pos i) hi
  | zero =>
    have e : (f 0 : Int) + psum 14 (fun j => f (j + 1)) = (g 0 : Int) + psum 14 (fun j => g (j + 1)) := hs
    rw [psum_congr 14 (fun j => f (j + 1)) (fun j => g (j + 1)) fun j hj => hd _ (j + 1) rfl (Nat.succ_pos j) (Nat.succ_lt_succ hj)] at e
    first | lia | omega
noncomputable def blank (x : List Nat) : Prop := ∀ c ∈ x, c = 32 ∨ c = 9
theorem cols_indent (x : List Nat) (h : blank x) : ((List.range 16).map fun i => indentOf (wsOf x) (1 + i)) = colsOf x := by
  unfold colsOf NC
  apply List.map_congr_left
  intro i _
  rw [indent_col x (1 + i) (by first | lia | omega) h]
  congr 1
theorem norm_eq (x y : List Nat) (hx : x.length ≤ 14) (hy : y.length ≤ 14) (bx : blank x) (by_ : blank y) : ((wsOf x).count = (wsOf y).count ∧ (wsOf x).b = (wsOf y).b) ↔ colsOf x = colsOf y := by
  rw [← cols_indent x bx, ← cols_indent y by_]
  obtain ⟨nx, cx⟩ := ws_inv x
  obtain ⟨ny, cy⟩ := ws_inv y
  have lx := (wsOf_small x).len
  have ly := (wsOf_small y).len
  constructor
  · intro ⟨h1, h2⟩
    apply List.map_congr_left
    intro i _
    unfold indentOf
    rw [nx, ny, h1, h2]
  · intro h
    have hi : ∀ ts, 1 ≤ ts → ts ≤ 16 → indentOf (wsOf x) ts = indentOf (wsOf y) ts := fun ts h1 h2 => by
      have := congrArg (fun l : List Int => l[ts - 1]?) h
      simp only [List.getElem?_map, List.getElem?_range (show ts - 1 < 16 by first | lia | omega), Option.map_some] at this
      rw [show 1 + (ts - 1) = ts from by first | lia | omega] at this
      exact Option.some.inj this
    have hw : ∀ (z : List Nat) ts, 1 ≤ ts → indentOf (wsOf z) ts = ((wsOf z).b : Int) + (ts : Int) * (Wf ts 0 (wsOf z).count + ((wsOf z).nt : Int)) := fun z ts h1 => by
      unfold indentOf; rw [ilSum_all _ _ h1]
    have a15 := hi 15 (by decide) (by decide)
    have a16 := hi 16 (by decide) (by decide)
    rw [hw x 15 (by decide), hw y 15 (by decide), Wf_low 15 _ 0 (by first | lia | omega), Wf_low 15 _ 0 (by first | lia | omega)] at a15
    rw [hw x 16 (by decide), hw y 16 (by decide), Wf_low 16 _ 0 (by first | lia | omega), Wf_low 16 _ 0 (by first | lia | omega)] at a16
    have hnt : (wsOf x).nt = (wsOf y).nt := by first | lia | omega
    have hb : (wsOf x).b = (wsOf y).b := by first | lia | omega
    refine ⟨can_eq cx cy fun i => ?_, hb⟩
    by_cases hi15 : i < 15
    · refine forms_eq (f := fun j => (wsOf x).count.getD j 0) (g := fun j => (wsOf y).count.getD j 0) ?_ (fun ts h1 h2 => ?_) i hi15
      · rw [← sum_exp 15 _ (by first | lia | omega), ← sum_exp 15 _ (by first | lia | omega), ← nx, ← ny, hnt]
      · have q := hi ts h1 (by first | lia | omega)
        rw [hw x ts h1, hw y ts h1, hb, hnt] at q
        have q2 : (ts : Int) * (Wf ts 0 (wsOf x).count + ((wsOf y).nt : Int)) = (ts : Int) * (Wf ts 0 (wsOf y).count + ((wsOf y).nt : Int)) := by first | lia | omega
        have q3 := Int.eq_of_mul_eq_mul_left (by first | lia | omega : (ts : Int) ≠ 0) q2
        rw [← Wf_exp ts 15 0 _ (by first | lia | omega), ← Wf_exp ts 15 0 _ (by first | lia | omega)]
        first | lia | omega
    · simp only [List.getD]
      rw [List.getElem?_eq_none (by first | lia | omega), List.getElem?_eq_none (by first | lia | omega)]
/-! the leads -/
theorem fold_flat (g : Nat → List Nat) : ∀ (l : List Nat) (a : List Nat), l.foldl (fun a i => a ++ g i) a = a ++ (l.map g).flatten
  | [], a => by simp
  | i :: l, a => by rw [List.foldl_cons, fold_flat g l]; simp
theorem piece_blank (d : Nat) : blank (pieceS d) := by
  intro c hc
  unfold pieceS pieces5 at hc
  match d with
  | 0 | 1 | 2 | 3 | 4 => simp [List.getD] at hc; first | lia | omega
  | n + 5 => simp [List.getD] at hc
theorem sp_is (f : Nat) : S2 (Txt.mul (L2S [32, 32]) ((f : Int).fmod 2)) = List.replicate (2 * (f % 2)) 32 := by
  have h : (f : Int).fmod 2 = ((f % 2 : Nat) : Int) := by rw [Int.fmod_eq_emod_of_nonneg _ (by decide)]; rfl
  rw [h]
  have : f % 2 = 0 ∨ f % 2 = 1 := by first | lia | omega
  rcases this with h | h <;> rw [h] <;> rfl
theorem leadFull_is (t : Int) (f m : Nat) : leadFull t f m = ((List.range (pcs t f).length).map fun i => pieceS (pieceNo t f m i)).flatten ++ List.replicate (2 * (f % 2)) 32 := by
  unfold leadFull leadRaw
  rw [fold_flat, sp_is]; simp
theorem leadFull_blank (t : Int) (f m : Nat) : blank (leadFull t f m) := by
  rw [leadFull_is]
  intro c hc
  rcases List.mem_append.mp hc with h | h
  · obtain ⟨l, hl, hcl⟩ := List.mem_flatten.mp h
    obtain ⟨i, _, rfl⟩ := List.mem_map.mp hl
    exact piece_blank _ c hcl
  · exact .inl (List.mem_replicate.mp h).2
theorem colR_piece (d : Nat) (hd : d < 5) (c : Int) (b : Nat) (i : Int) (h : c + b = 4 * i) (x : List Nat) : ∃ c' : Int, ∃ b' : Nat, c' + b' = 4 * (i + 1) ∧ colR 4 c b (pieceS d ++ x) = colR 4 c' b' x := by
  have key : ∀ n : Nat, n < 4 → stepN 4 c (b + n) = 4 * (i + 1) := fun n hn => by
    unfold stepN
    have e : c + ((b + n : Nat) : Int) = 4 * i + n := by first | lia | omega
    rw [e, Int.fmod_eq_emod_of_nonneg _ (by decide)]
    first | lia | omega
  match d, hd with
  | 0, _ => exact ⟨stepN 4 c (b + 0), 0, by rw [key 0 (by decide)]; simp, by simp [pieceS, pieces5, colR]⟩
  | 1, _ => exact ⟨stepN 4 c (b + 1), 0, by rw [key 1 (by decide)]; simp, by simp [pieceS, pieces5, colR]⟩
  | 2, _ => exact ⟨stepN 4 c (b + 2), 0, by rw [key 2 (by decide)]; simp, by simp [pieceS, pieces5, colR]⟩
  | 3, _ => exact ⟨stepN 4 c (b + 3), 0, by rw [key 3 (by decide)]; simp, by simp [pieceS, pieces5, colR]⟩
  | 4, _ => exact ⟨c, b + 4, by first | lia | omega, by simp [pieceS, pieces5, colR]⟩
theorem colR_pieces (g : Nat → Nat) (hg : ∀ i, g i < 5) (x : List Nat) : ∀ (l : List Nat) (c : Int) (b : Nat) (i : Int), c + b = 4 * i → ∃ c' : Int, ∃ b' : Nat, c' + b' = 4 * (i + l.length) ∧ colR 4 c b ((l.map fun i => pieceS (g i)).flatten ++ x) = colR 4 c' b' x
  | [], c, b, i, h => ⟨c, b, by simpa using h, rfl⟩
  | j :: l, c, b, i, h => by
    obtain ⟨c1, b1, h1, e1⟩ := colR_piece (g j) (hg j) c b i h ((l.map fun i => pieceS (g i)).flatten ++ x)
    obtain ⟨c2, b2, h2, e2⟩ := colR_pieces g hg x l c1 b1 (i + 1) h1
    refine ⟨c2, b2, by rw [h2]; simp; first | lia | omega, ?_⟩
    rw [List.map_cons, List.flatten_cons, List.append_assoc, e1, e2]
theorem colR_rep (ts c : Int) : ∀ (n b : Nat), colR ts c b (List.replicate n 32) = c + b + n
  | 0, b => by simp [colR]
  | n + 1, b => by
    rw [List.replicate_succ, colR, if_neg (by decide), colR_rep ts c n (b + 1)]; first | lia | omega
theorem full_col4 (t : Int) (f m : Nat) (hf : f < 6) : colAt (splitL (leadFull t f m) [9]) 4 = 4 + 2 * (f : Int) := by
  rw [colAt_R, leadFull_is]
  obtain ⟨c, b, h, e⟩ := colR_pieces (pieceNo t f m) (pieceNo_lt t f m) (List.replicate (2 * (f % 2)) 32) (List.range (pcs t f).length) 0 0 0 rfl
  rw [e, colR_rep]
  rw [List.length_range, pcs_len t f hf] at h
  first | lia | omega
/-! turned round -/
noncomputable def qsum (ts : Nat) (l : List (List Nat)) : Nat := (l.map fun r => r.length / ts + 1).sum
theorem fold_cols (ts : Nat) (h1 : 1 ≤ ts) : ∀ (l : List (List Nat)) (k : Nat), l.foldl (colStep ts) ((ts : Int) * (k : Int)) = (ts : Int) * ((k + qsum ts l : Nat) : Int)
  | [], k => by simp [qsum]
  | r :: l, k => by
    have e : colStep ts ((ts : Int) * (k : Int)) r = (ts : Int) * ((k + (r.length / ts + 1) : Nat) : Int) := by
      unfold colStep
      have hm : ((ts : Int) * (k : Int) + (r.length : Int)).fmod ts = ((r.length % ts : Nat) : Int) := by
        rw [Int.fmod_eq_emod_of_nonneg _ (by first | lia | omega), Int.add_comm, Int.add_mul_emod_self_left]; rfl
      rw [hm]
      have hd : (r.length : Int) = (ts : Int) * ((r.length / ts : Nat) : Int) + ((r.length % ts : Nat) : Int) := by
        have := Nat.div_add_mod r.length ts
        rw [← Int.natCast_mul, ← Int.natCast_add, this]
      rw [show ((k + (r.length / ts + 1) : Nat) : Int) = (k : Int) + (((r.length / ts : Nat) : Int) + 1) from by first | lia | omega]
      simp only [Int.mul_add, Int.mul_one]
      first | lia | omega
    rw [List.foldl_cons, e, fold_cols ts h1 l]
    congr 1
    unfold qsum
    rw [List.map_cons, List.sum_cons]; first | lia | omega
theorem sum_rev : ∀ l : List Nat, l.reverse.sum = l.sum
  | [] => rfl
  | a :: l => by rw [List.reverse_cons, List.sum_append, sum_rev l, List.sum_cons]; simp; first | lia | omega
theorem colAt_turn (turn : Bool) (runs : List (List Nat)) (h0 : runs ≠ []) (ts : Nat) (h1 : 1 ≤ ts) : colAt (turnedL turn runs) ts = colAt runs ts := by
  unfold turnedL
  cases turn with
  | false => rfl
  | true =>
    rw [if_pos rfl]
    obtain ⟨a, z, rfl⟩ : ∃ a z, runs = a ++ [z] := ⟨runs.dropLast, runs.getLast h0, (List.dropLast_concat_getLast h0).symm⟩
    have e1 : (a ++ [z]).drop ((a ++ [z]).length - 1) = [z] := by
      rw [List.length_append, List.length_singleton, Nat.add_sub_cancel, List.drop_left]
    rw [e1]
    unfold colAt
    simp only [List.dropLast_concat, List.getLastD_concat]
    congr 1
    have q1 := fold_cols ts h1 a 0
    have q2 := fold_cols ts h1 a.reverse 0
    rw [show (ts : Int) * ((0 : Nat) : Int) = 0 from by simp] at q1 q2
    rw [q1, q2]
    congr 2
    unfold qsum
    rw [List.map_reverse, sum_rev]
theorem joinL_len (c : Nat) : ∀ (T : List (List Nat)), T ≠ [] → (joinL [c] T).length + 1 = (T.map fun p => p.length + 1).sum
  | [], h => absurd rfl h
  | [p], _ => by rw [joinL_one]; simp
  | p :: q :: r, _ => by
    have ih := joinL_len c (q :: r) (by simp)
    rw [joinL_cons, List.length_append, List.length_append, List.map_cons, List.sum_cons, ← ih]
    simp; first | lia | omega
theorem joinL_mem (c : Nat) : ∀ (T : List (List Nat)) (d : Nat), d ∈ joinL [c] T → d = c ∨ ∃ p ∈ T, d ∈ p
  | [], d, h => by rw [joinL_nil] at h; exact (List.not_mem_nil h).elim
  | [p], d, h => by rw [joinL_one] at h; exact .inr ⟨p, List.mem_cons_self, h⟩
  | p :: q :: r, d, h => by
    rw [joinL_cons] at h
    rcases List.mem_append.mp h with h | h
    · rcases List.mem_append.mp h with h | h
      · exact .inr ⟨p, List.mem_cons_self, h⟩
      · exact .inl (List.mem_singleton.mp h)
    · rcases joinL_mem c (q :: r) d h with h | ⟨z, hz, hd⟩
      · exact .inl h
      · exact .inr ⟨z, List.mem_cons_of_mem _ hz, hd⟩
theorem turned_ne {turn : Bool} {runs : List (List Nat)} (h : runs ≠ []) : turnedL turn runs ≠ [] := fun q => h (List.eq_nil_of_length_eq_zero (by rw [← turned_len (turn := turn), q]; rfl))
theorem turned_sum (turn : Bool) (runs : List (List Nat)) (h0 : runs ≠ []) (g : List Nat → Nat) : ((turnedL turn runs).map g).sum = (runs.map g).sum := by
  unfold turnedL
  cases turn with
  | false => rfl
  | true =>
    rw [if_pos rfl]
    obtain ⟨a, z, rfl⟩ : ∃ a z, runs = a ++ [z] := ⟨runs.dropLast, runs.getLast h0, (List.dropLast_concat_getLast h0).symm⟩
    have e1 : (a ++ [z]).drop ((a ++ [z]).length - 1) = [z] := by
      rw [List.length_append, List.length_singleton, Nat.add_sub_cancel, List.drop_left]
    rw [e1, List.dropLast_concat, List.map_append, List.map_append, List.sum_append, List.sum_append, List.map_reverse, sum_rev]
theorem full_runs (t : Int) (f m : Nat) : splitL (leadFull t f m) [9] ≠ [] := by rw [splitL_spl]; exact spl_ne 9 _
theorem lead_split (t : Int) (f m : Nat) (turn : Int) : splitL (leadOf t f m turn) [9] = turnedL (turn == 1) (splitL (leadFull t f m) [9]) := by
  rw [splitL_spl (leadOf t f m turn)]
  unfold leadOf
  refine spl_join 9 _ (turned_ne (full_runs t f m)) fun p hp => ?_
  have := turned_mem p hp
  rw [splitL_spl] at this
  exact (spl_mem 9 _ p this).1
theorem lead_cols (t : Int) (f m : Nat) (turn : Int) (ts : Nat) (h1 : 1 ≤ ts) : colAt (splitL (leadOf t f m turn) [9]) ts = colAt (splitL (leadFull t f m) [9]) ts := by
  rw [lead_split, colAt_turn _ _ (full_runs t f m) ts h1]
theorem lead_len (t : Int) (f m : Nat) (turn : Int) (hf : f < 6) : (leadOf t f m turn).length ≤ 14 := by
  have h1 := joinL_len 9 _ (turned_ne (turn := turn == 1) (full_runs t f m))
  have h2 := joinL_len 9 _ (full_runs t f m)
  rw [turned_sum _ _ (full_runs t f m), ← h2, join_splitL] at h1
  have := leadFull_len t f m hf
  unfold leadOf; first | lia | omega
theorem lead_blank (t : Int) (f m : Nat) (turn : Int) : blank (leadOf t f m turn) := by
  intro c hc
  unfold leadOf at hc
  rcases joinL_mem 9 _ c hc with h | ⟨p, hp, hcp⟩
  · exact .inr h
  · have hp2 := turned_mem p hp
    rw [splitL_spl] at hp2
    exact leadFull_blank t f m c ((spl_mem 9 _ p hp2).2.1 c hcp)
noncomputable abbrev vCol (c : List Int) : VP := vList (c.map vInt)
noncomputable abbrev dCol (c : List Int) : PyData := .list (c.map fun i : Int => .int i)
noncomputable abbrev cls (p : List (List Int)) : List VP := p.map vCol
theorem vd_col (c : List Int) : VD (vCol c) (dCol c) := vd_list (VDs.map vInt (fun i : Int => PyData.int i) vd_int c)
theorem vds_cls (p : List (List Int)) : VDs (cls p) (p.map dCol) := VDs.map vCol dCol vd_col p
theorem can_col (c : List Int) : (dCol c).canLay0 = true := by
  simp only [PyData.canLay0]
  exact canAll_map fun c _ => by simp [PyData.canLay0]
theorem dk_col : DK dCol 1 := dk_list dk_int
theorem shaped_col (c : List Int) : SeqAt.shaped (dCol c) = true := shaped_of dk_col (by decide) (can_col c)
theorem shaped_cls (p : List (List Int)) : SeqAt.shaped (.list (p.map dCol)) = true := shaped_list dk_col (by decide) fun c _ => can_col c
noncomputable def tollOf (a b : List Int) : Int := if a.getD 3 0 = b.getD 3 0 then (if a = b then 0 else 1) else 2
noncomputable def least : List (List Int) → List (List Int) → Int
  | [], o => 2 * ((o.length : Int))
  | p :: ps, o => if o = [] then 2 * ((p :: ps).length : Int) else (List.range o.length).foldl (fun (l : Int) (k : Nat) => min l (2 * (k : Int) + tollOf p (o.getD k []) + least ps (o.drop (k + 1)))) (2 + least ps o)
theorem get3 {c : List Int} (h : 4 ≤ c.length) : (c.map vInt)[3]? = some (vInt (c.getD 3 0)) := by
  rw [List.getElem?_map, List.getElem?_eq_getElem (by first | lia | omega)]
  simp [List.getD, List.getElem?_eq_getElem (show 3 < c.length by first | lia | omega)]
theorem least_ok {prog : Program} {w : World} {g : Heap} (G : Grd (KK w) g) : ∀ (page other : List (List Int)), page.length ≤ 50 → other.length ≤ 50 → (∀ c ∈ page, 4 ≤ c.length ∧ c.length ≤ 100) → (∀ c ∈ other, 4 ≤ c.length ∧ c.length ≤ 100) →
    FnD prog w g (.ref 185) (page.length + 1) [vList (cls page), vList (cls other)] [] (vInt (least page other)) [] := by
  intro page
  induction page with
  | nil =>
    intro other _ ho _ hco
    refine FnR.of_vars (K := KK w) G (by walk_at "isfn") [(PySem.Str.ofString "page", vList (cls [])), (PySem.Str.ofString "other", vList (cls other))] rfl (vals2 fun a b => rfl) rfl (by with_unfolding_all rfl) fun A F s L rm => ?_
    have hu : A.units + 3 + 64 < 9900 := by have := rm.units; first | lia | omega
    have zo : (cls other).length ≤ sizeLine := by rw [List.length_map, sizeLine_is]; first | lia | omega
    refine Exs.iff (c := true) (by exact Tst.eq (b := true) (Tst.all (TAll.consO (b := true) (c := false) (Tst.eqD (p := vList (cls [])) (q := vList []) (d := .list []) (e := .list []) (by walk_at "ev") (EvN.ev (EvN.disp EvAll.nil)) (vd_list .nil).sd (vd_list .nil).sd (shaped_cls []) (shaped_cls []) hu) fun h => by cases h)) rfl) (fun _ => ?_) fun h => by cases h
    refine Exs.ret (by exact Ev.mul (by walk_at "ev") (Ev.add (Ev.lenL (ps := cls []) (by walk_at "ev") (by walk_at "src") (Nat.zero_le _)) (Ev.lenL (ps := cls other) (by walk_at "ev") (by walk_at "src") zo)) (mulOk (.inl (by decide)))) ⟨[], .slnil, ?_, rfl⟩
    unfold least
    rw [List.length_map]
    congr 1
    simp
  | cons p ps ih =>
    intro other hpl hol hcp hco
    refine FnR.of_vars (K := KK w) G (by walk_at "isfn") [(PySem.Str.ofString "page", vList (cls (p :: ps))), (PySem.Str.ofString "other", vList (cls other))] rfl (vals2 fun a b => rfl) rfl (by with_unfolding_all rfl) fun A F s L rm => ?_
    have hu : A.units + 3 + 64 < 9900 := by have := rm.units; simp at this; first | lia | omega
    have zo : (cls other).length ≤ sizeLine := by rw [List.length_map, sizeLine_is]; first | lia | omega
    have zp : (cls (p :: ps)).length ≤ sizeLine := by rw [List.length_map, sizeLine_is]; first | lia | omega
    refine Exs.iff (c := decide (other = [])) (by exact Tst.eq (Tst.all (TAll.consO (Tst.eqD (p := vList (cls (p :: ps))) (q := vList []) (d := .list ((p :: ps).map dCol)) (e := .list []) (by walk_at "ev") (EvN.ev (EvN.disp EvAll.nil)) (vd_list (vds_cls _)).sd (vd_list .nil).sd (shaped_cls _) (shaped_cls []) hu) fun h => TAll.consO (Tst.eqD (p := vList (cls other)) (q := vList []) (d := .list (other.map dCol)) (e := .list ([].map dCol)) (by walk_at "ev") (EvN.ev (EvN.disp EvAll.nil)) (vd_list (vds_cls _)).sd (vd_list .nil).sd (shaped_cls _) (shaped_cls []) hu) fun h => TAll.nilO)) (by
        have e1 : PyData.eqv (.list ((p :: ps).map dCol)) (.list ([].map dCol)) = decide (p :: ps = []) := (dk_list dk_col).inj _ _
        have e2 : PyData.eqv (.list (other.map dCol)) (.list ([].map dCol)) = decide (other = []) := (dk_list dk_col).inj _ _
        have e1' : PyData.eqv (.list ((p :: ps).map dCol)) (.list []) = decide (p :: ps = []) := e1
        rw [e1', e2]; simp)) (fun h => ?_) fun h => ?_
    · have ho : other = [] := by simpa using h
      refine Exs.ret (by exact Ev.mul (by walk_at "ev") (Ev.add (Ev.lenL (ps := cls (p :: ps)) (by walk_at "ev") (by walk_at "src") zp) (Ev.lenL (ps := cls other) (by walk_at "ev") (by walk_at "src") zo)) (mulOk (.inl (by decide)))) ⟨[], .slnil, ?_, rfl⟩
      unfold least
      rw [if_pos ho, ho]
      congr 1
      simp
    have ho : ¬ other = [] := by simpa using h
    have hps : ps.length ≤ 50 := by simp at hpl; first | lia | omega
    have hcps : ∀ c ∈ ps, 4 ≤ c.length ∧ c.length ≤ 100 := fun c hc => hcp c (List.mem_cons_of_mem _ hc)
    have htail : (cls (p :: ps)).drop 1 = cls ps := rfl
    have hpc := hcp p List.mem_cons_self
    have zpc : (p.map vInt).length ≤ sizeLine := by rw [List.length_map, sizeLine_is]; first | lia | omega
    refine Exs.nil (Exs.assign (p := vInt (2 + least ps other)) (by exact Ev.add (by walk_at "ev") (Ev.callF (K := KK w) G (by walk_at "isfn") (by walk_at "ev") (EvAll.cons (EvN.ev (EvN.eq (EvN.from_ (k := 1) (by walk_at "src") (by exact Ev.cInt) zp) htail)) (EvAll.cons (by walk_at "ev") EvAll.nil)) (ih other hps hol hcps hco) rm.in_ Upd.nil)) (As.name (by walk_at "put")) ?_)
    refine Exs.forI (EvIter.rangeN (a := 0) (b := other.length) (by exact Ev.eq (Ev.range1 (by walk_at "ev") (Ev.lenL (ps := cls other) (by walk_at "ev") (by walk_at "src") zo)) (by rw [List.length_map]; rfl)) calm_name (by first | lia | omega) (by first | lia | omega))
      (fun k σ => ∃ l : Int, l = (List.range k).foldl (fun (l : Int) (k : Nat) => min l (2 * (k : Int) + tollOf p (other.getD k []) + least ps (other.drop (k + 1)))) (2 + least ps other) ∧ σ = { vars := [(PySem.Str.ofString "least", vInt l), (PySem.Str.ofString "page", vList (cls (p :: ps))), (PySem.Str.ofString "other", vList (cls other))] })
      ⟨_, by walk_at "wk", _, rfl, rfl⟩ (fun k q pv σk hp hi => ?_) fun σk hi => ?_
    · obtain ⟨l, hl, rfl⟩ := hi
      obtain ⟨hk, rfl⟩ := rangeN_at hp
      rw [show 0 + k = k from Nat.zero_add k]
      have hko : k < other.length := by first | lia | omega
      have hget : (cls other)[k]? = some (vCol (other.getD k [])) := by
        rw [List.getElem?_map, List.getElem?_eq_getElem hko]
        simp [List.getD, List.getElem?_eq_getElem hko]
      have hoc := hco (other.getD k []) (by simp [List.getD, List.getElem?_eq_getElem hko])
      have zoc : ((other.getD k []).map vInt).length ≤ sizeLine := by rw [List.length_map, sizeLine_is]; first | lia | omega
      have hih := ih (other.drop (k + 1)) hps (by rw [List.length_drop]; first | lia | omega) hcps (fun c hc => hco c (List.drop_subset _ _ hc))
      have hdrop : (cls other).drop (k + 1) = cls (other.drop (k + 1)) := by rw [← List.map_drop]
      generalize hoq : other.getD k [] = oc at *
      refine ⟨_, As.name (by walk_at "put"), ?_⟩
      refine Exs.assign (p := vInt 2) (by exact Ev.cInt) (As.name (by walk_at "put")) ?_
      refine Exs.iffM (fun σ => σ = { vars := [(PySem.Str.ofString "toll", vInt (tollOf p oc)), (PySem.Str.ofString "place", vInt (k : Int)), (PySem.Str.ofString "least", vInt l), (PySem.Str.ofString "page", vList (cls (p :: ps))), (PySem.Str.ofString "other", vList (cls other))] }) (by exact Tst.eqI (Ev.atL (k := 3) (Ev.srcL (Ev.atL (k := 0) (p := vCol p) (by walk_at "src") (by exact Ev.cInt) rfl zp)) (by exact Ev.cInt) (get3 hpc.1) zpc) (Ev.atL (k := 3) (Ev.srcL (Ev.atL (k := k) (p := vCol oc) (by walk_at "src") (by walk_at "ev") hget zo)) (by exact Ev.cInt) (get3 hoc.1) zoc)) (fun h => ?_) (fun h => ?_) fun σ' h => ?_
      · have h3 : p.getD 3 0 = oc.getD 3 0 := by simpa using h
        have ht : tollOf p oc = if p = oc then 0 else 1 := by unfold tollOf; rw [if_pos h3]
        rw [ht]
        have hu2 : A.units + 3 + 64 < 9900 := hu
        refine Exs.assign (p := vInt (if p = oc then 0 else 1)) (by exact Ev.ifx (c := PyData.eqv (dCol p) (dCol oc)) (Tst.eqD (Ev.atL (k := 0) (p := vCol p) (by walk_at "src") (by exact Ev.cInt) rfl zp) (Ev.atL (k := k) (p := vCol oc) (by walk_at "src") (by walk_at "ev") hget zo) (vd_col p).sd (vd_col oc).sd (shaped_col p) (shaped_col oc) hu2) (fun h4 => Ev.eq Ev.cInt (by rw [dk_col.inj] at h4; rw [if_pos (of_decide_eq_true h4)])) (fun h4 => Ev.eq Ev.cInt (by rw [dk_col.inj] at h4; rw [if_neg (of_decide_eq_false h4)]))) (As.name (by walk_at "put")) ?_
        exact Exs.nil ⟨_, by walk_at "wk", rfl⟩
      · have h3 : ¬ p.getD 3 0 = oc.getD 3 0 := by simpa using h
        have ht : tollOf p oc = 2 := by unfold tollOf; rw [if_neg h3]
        rw [ht]
        exact Exs.nil ⟨_, by walk_at "wk", rfl⟩
      subst h
      refine Exs.assign (p := vInt (min l (2 * (k : Int) + tollOf p oc + least ps (other.drop (k + 1))))) (Ev.eq (Ev.min2 (σ₁ := { vars := [(PySem.Str.ofString "toll", vInt (tollOf p oc)), (PySem.Str.ofString "place", vInt (k : Int)), (PySem.Str.ofString "least", vInt l), (PySem.Str.ofString "page", vList (cls (p :: ps))), (PySem.Str.ofString "other", vList (cls other))] }) (f := .Name (PySem.Str.ofString "x") ⟨0, 0, 0, 0⟩) (i := l) (j := 2 * (k : Int) + tollOf p oc + least ps (other.drop (k + 1))) (by walk_at "ev") (EvAll.cons (by walk_at "ev") (EvAll.cons (Ev.add (Ev.add (Ev.mul (by walk_at "ev") (by walk_at "ev") (mulOk (.inl (by decide)))) (by walk_at "ev")) ?zc) EvAll.nil))) (by rw [getD_min])) (As.name (by walk_at "put")) ?_
      case zc =>
        refine Ev.callF (K := KK w) (σ₁ := { vars := [(PySem.Str.ofString "toll", vInt (tollOf p oc)), (PySem.Str.ofString "place", vInt (k : Int)), (PySem.Str.ofString "least", vInt l), (PySem.Str.ofString "page", vList (cls (p :: ps))), (PySem.Str.ofString "other", vList (cls other))] }) G (by walk_at "isfn") (by walk_at "ev") (EvAll.cons (EvN.ev (EvN.eq (EvN.from_ (k := 1) (by walk_at "src") (by exact Ev.cInt) zp) htail)) (EvAll.cons (EvN.ev (EvN.eq (EvN.from_ (k := k + 1) (by walk_at "src") (by exact Ev.eq (p := vInt ((k : Int) + 1)) (Ev.add (by walk_at "ev") (by walk_at "ev")) (congrArg vInt (show (k : Int) + 1 = ((k + 1 : Nat) : Int) from by first | lia | omega))) zo) hdrop)) EvAll.nil)) hih rm.in_ Upd.nil
      refine Exs.nil ⟨_, by walk_at "wk", _, ?_, rfl⟩
      rw [List.range_succ, List.foldl_append, ← hl]
      show _ = min l (2 * (k : Int) + tollOf p (other.getD k []) + least ps (other.drop (k + 1)))
      rw [hoq]
    · obtain ⟨l, hl, rfl⟩ := hi
      rw [List.length_map, List.length_range, Nat.sub_zero] at hl
      refine Exs.ret (by walk_at "ev") ⟨[], .slnil, ?_, rfl⟩
      rw [hl, least, if_neg ho]
structure IsLaw (K : Frag) (a : Addr) (fd : FuncData) (body : List Stmt) : Prop where
  obj : ∃ o, K.lookup a = some o ∧ o.data = .func fd
  body : fd.body = .stmts body
structure LawFn (K : Frag) (a : Addr) where
  fd : FuncData
  body : List Stmt
  is : IsLaw K a fd body
noncomputable def lawFn (w : World) : LawFn (KK w) 190 := { fd := _, body := _, is := ⟨⟨_, rfl, rfl⟩, rfl⟩ }
noncomputable def lawCx (prog : Program) (w : World) (A : Around) (g : Heap) (fd : FuncData) (L fa : Addr) (cd : Value) (F : FH) (s : Shared) : Cx :=
  { prog := prog, w := w, A := A.deeper (envX (PySem.Str.ofString "law") fd.scope L fa cd (cellsFrom (L + 1) fd.scope.names [])), env := envX (PySem.Str.ofString "law") fd.scope L fa cd (cellsFrom (L + 1) fd.scope.names []), g := g, F0 := F, s0 := s, W := fun a => a = 159, own := true, priv := [] }
noncomputable abbrev Row := List Nat × List Int × List Nat
noncomputable abbrev vRow (r : Row) : VP := vTup [vStr r.1, vCol r.2.1, vStr r.2.2]
noncomputable def dg (cell : Int) (i : Nat) : Int := (digL cell [6, 2, 2, 4, 4]).getD i 0
noncomputable def rowOf (t cell : Int) : Row :=
  (leadOf t (dg cell 0).toNat (dg cell 1).toNat (dg cell 2), colsOf (leadOf t (dg cell 0).toNat (dg cell 1).toNat (dg cell 2)),
    written (leadOf t (dg cell 0).toNat (dg cell 1).toNat (dg cell 2)) (dg cell 3) [[10, 13, 32, 9].getD (dg cell 4).toNat 0])
noncomputable def cellsOf (script : List Int) : List Int := [56, 44] ++ script.take 6
noncomputable def rowsOf (script : List Int) : List Row := (cellsOf script).map (rowOf script.sum)
noncomputable def pageOf (rows : List Row) : List Nat := (rows.map fun r => r.2.2).flatten
noncomputable def restOf (rows : List Row) (k : Nat) : List Nat := ((rows.drop k).map fun r => r.2.2).flatten
theorem dg_is (cell : Int) : digL cell [6, 2, 2, 4, 4] = [dg cell 0, dg cell 1, dg cell 2, dg cell 3, dg cell 4] := rfl
theorem dg_lt (cell : Int) : (0 ≤ dg cell 0 ∧ dg cell 0 < 6) ∧ (0 ≤ dg cell 1 ∧ dg cell 1 < 2) ∧ (0 ≤ dg cell 4 ∧ dg cell 4 < 4) := by
  have h : ∀ (x m : Int), 0 < m → 0 ≤ x.fmod m ∧ x.fmod m < m := fun x m hm => by
    rw [Int.fmod_eq_emod_of_nonneg _ (by first | lia | omega)]
    exact ⟨Int.emod_nonneg _ (by first | lia | omega), Int.emod_lt_of_pos _ hm⟩
  exact ⟨h _ _ (by decide), h _ _ (by decide), h _ _ (by decide)⟩
noncomputable abbrev lineT (a d pb cl sg : Addr) (co : Cell) (fo : Obj) (fa : Addr) (ps : List VP) (n : Int) (l : List Nat) (tb : Cell) : Res :=
  [(pb, .lst ps), (d, .inst a CN (lexF n (vInst CN (feedF fa fo)) pb)), (cl, co), (sg, .lst (sgs l)), (159, tb)]
/-- what the law reads off its rows -/
structure RowsOK (rows : List Row) : Prop where
  len : 2 ≤ rows.length ∧ rows.length ≤ 8
  lead : ∀ r ∈ rows, r.1.length ≤ 100
  text : ∀ r ∈ rows, r.2.2.length ≤ 300
theorem lead_size (t : Int) (f m : Nat) (turn : Int) (hf : f < 6) : (leadOf t f m turn).length ≤ 100 := by have := lead_len t f m turn hf; first | lia | omega
theorem law1 {prog : Program} {w : World} {A : Around} {g : Heap} {L fa : Addr} {cd : Value} {F : FH} {s : Shared} (G : Grd (KK w) g) (LG : LamG g 163 159) (rm : Room (lawCx prog w A g (lawFn w).fd L fa cd F s).A 60) (script : List Int) (hs : script.length ≤ 63) (P : Out → Prop)
    (hk : Exs (lawCx prog w A g (lawFn w).fd L fa cd F s) { vars := [(PySem.Str.ofString "rows", vList ((rowsOf script).map vRow)), (PySem.Str.ofString "script", vListW (script.map vInt))], res := [(159, .raw (tabObj #[]) [])] } ((lawFn w).body.drop 2) P) :
    Exs (lawCx prog w A g (lawFn w).fd L fa cd F s) { vars := [(PySem.Str.ofString "script", vListW (script.map vInt))], res := [(159, .raw (tabObj #[]) [])] } (lawFn w).body P := by
  have zs : (script.map vInt).length ≤ sizeLine := by rw [List.length_map, sizeLine_is]; first | lia | omega
  refine Exs.asOwn (EvN.disp .nil) fun aR haR => ⟨_, by walk_at "put", ?_⟩
  have hcl : [vInt 56, vInt 44] ++ (script.map vInt).take 6 = (cellsOf script).map vInt := by unfold cellsOf; rw [List.map_append, List.map_take]; rfl
  have hzz : [vInt 56, vInt 44].length + ((script.map vInt).take 6).length ≤ sizeLine := by rw [sizeLine_is, List.length_take, List.length_map]; simp; first | lia | omega
  have hcn : (cellsOf script).length ≤ 8 := by unfold cellsOf; simp; first | lia | omega
  refine Exs.forI (EvIter.list (ps := (cellsOf script).map vInt) (Ev.listW (EvN.ev (EvN.eq (EvN.addL (ps := [vInt 56, vInt 44]) (qs := (script.map vInt).take 6) ?za ?zb hzz) hcl))) (.inl calm_name))
    (fun k σ => ∃ rows : List Row, rows = ((cellsOf script).take k).map (rowOf script.sum) ∧ σ = { vars := [(PySem.Str.ofString "rows", vVal (.ref aR)), (PySem.Str.ofString "script", vListW (script.map vInt))], res := [(aR, .lst (rows.map vRow)), (159, .raw (tabObj #[]) [])] })
    ⟨_, by walk_at "wk", [], rfl, rfl⟩ (fun k p pv σk hp hi => ?_) fun σk hi => ?_
  case za => exact Ev.src (EvN.ev (EvN.disp (EvAll.cons (by exact Ev.cInt) (EvAll.cons (by exact Ev.cInt) EvAll.nil)) (Nat.le_of_ble_eq_true rfl)))
  case zb => exact EvN.upto (k := 6) (by walk_at "src") (by exact Ev.cInt) zs
  · obtain ⟨rows, hrows, rfl⟩ := hi
    rw [List.getElem?_map] at hp
    obtain ⟨cell, hc, rfl⟩ := Option.map_eq_some_iff.mp hp
    have hk : k < (cellsOf script).length := (List.getElem?_eq_some_iff.mp hc).1
    have hrl : rows.length ≤ 8 := by rw [hrows]; simp; first | lia | omega
    have hrz : (rows.map vRow).length ≤ sizeLine := by rw [List.length_map, sizeLine_is]; first | lia | omega
    obtain ⟨⟨d00, d01⟩, ⟨d10, d11⟩, ⟨d40, d41⟩⟩ := dg_lt cell
    have f0 : dg cell 0 = (((dg cell 0).toNat : Nat) : Int) := by first | lia | omega
    have f1 : dg cell 1 = (((dg cell 1).toNat : Nat) : Int) := by first | lia | omega
    have f4 : dg cell 4 = (((dg cell 4).toNat : Nat) : Int) := by first | lia | omega
    have hdd : (digL cell [6, 2, 2, 4, 4]).map vInt = [vInt (((dg cell 0).toNat : Nat) : Int), vInt (((dg cell 1).toNat : Nat) : Int), vInt (dg cell 2), vInt (dg cell 3), vInt (((dg cell 4).toNat : Nat) : Int)] := by
      rw [← f0, ← f1, ← f4, dg_is]; rfl
    have hrow : rowOf script.sum cell = (leadOf script.sum (dg cell 0).toNat (dg cell 1).toNat (dg cell 2), colsOf (leadOf script.sum (dg cell 0).toNat (dg cell 1).toNat (dg cell 2)), written (leadOf script.sum (dg cell 0).toNat (dg cell 1).toNat (dg cell 2)) (dg cell 3) [[10, 13, 32, 9].getD (dg cell 4).toNat 0]) := rfl
    have hdg := digits_ok (prog := prog) (w := w) G cell [6, 2, 2, 4, 4] (by decide) (by decide)
    generalize hf : (dg cell 0).toNat = f at *
    generalize hm : (dg cell 1).toNat = m at *
    generalize ht : dg cell 2 = tn at *
    generalize hma : dg cell 3 = ma at *
    generalize he : (dg cell 4).toNat = e at *
    have hf6 : f < 6 := by first | lia | omega
    have hm2 : m < 2 := by first | lia | omega
    have he4 : e < 4 := by first | lia | omega
    refine ⟨_, As.name (by walk_at "put"), ?_⟩
    refine Exs.assign (p := vListW [vInt (f : Int), vInt (m : Int), vInt tn, vInt ma, vInt (e : Int)]) (by exact Ev.eq (Ev.listW (Ev.callP (K := KK w) G (by walk_at "isfn") (by walk_at "ev") (EvAll.cons (by walk_at "ev") (EvAll.cons (Ev.listW (EvN.ev (EvN.disp (EvAll.cons (by exact Ev.cInt) (EvAll.cons (by exact Ev.cInt) (EvAll.cons (by exact Ev.cInt) (EvAll.cons (by exact Ev.cInt) (EvAll.cons (by exact Ev.cInt) EvAll.nil))))) (Nat.le_of_ble_eq_true rfl)))) EvAll.nil)) hdg (rm.le (by decide)))) (by rw [hdd])) (As.tupL (AsAll.cons (As.name (by walk_at "put")) (AsAll.cons (As.name (by walk_at "put")) (AsAll.cons (As.name (by walk_at "put")) (AsAll.cons (As.name (by walk_at "put")) (AsAll.cons (As.name (by walk_at "put")) AsAll.nil)))))) ?_
    have hlead := lead_ok (prog := prog) (w := w) G script.sum f m tn hf6 hm2
    have hls := lead_size script.sum f m tn hf6
    generalize leadOf script.sum f m tn = lead at *
    have hcols := columns_ok (prog := prog) (w := w) G lead (by first | lia | omega) (fun r hr => by rw [splitL_spl] at hr; have := (spl_mem 9 _ r hr).2.2; first | lia | omega)
    have hwr := written_ok (prog := prog) (w := w) G lead ma [[10, 13, 32, 9].getD e 0] (by first | lia | omega) (by simp)
    have hge : ([10, 13, 32, 9] : List Nat)[e]? = some ([10, 13, 32, 9].getD e 0) := by
      match e, he4 with
      | 0, _ | 1, _ | 2, _ | 3, _ => rfl
    generalize ([10, 13, 32, 9] : List Nat).getD e 0 = ec at *
    refine Exs.assign (p := vStr lead) (by exact Ev.callP (K := KK w) G (by walk_at "isfn") (by walk_at "ev") (EvAll.cons (Ev.sumL (by walk_at "ev") (by walk_at "src")) (EvAll.cons (by walk_at "ev") (EvAll.cons (by walk_at "ev") (EvAll.cons (by walk_at "ev") EvAll.nil)))) hlead (rm.le (by decide))) (As.name (by walk_at "put")) ?_
    refine Exs.exp (Ev.app ((rows ++ [(lead, colsOf lead, written lead ma [ec])]).map vRow) (by walk_at "ev") ?zt (by walk_at "rset") (by rw [List.map_append]; rfl) hrz) ?_
    case zt =>
      refine Ev.tup (EvAll.cons (by walk_at "ev") (EvAll.cons (by exact Ev.callP (K := KK w) (p := vCol (colsOf lead)) G (by walk_at "isfn") (by walk_at "ev") (EvAll.cons (by walk_at "ev") EvAll.nil) hcols (rm.le (by decide))) (EvAll.cons ?_ EvAll.nil))) (Nat.le_of_ble_eq_true rfl)
      exact Ev.callP (K := KK w) G (by walk_at "isfn") (by walk_at "ev") (EvAll.cons (by walk_at "ev") (EvAll.cons (by walk_at "ev") (EvAll.cons (Ev.atS (x := [10, 13, 32, 9]) (by exact Ev.cStr rfl) (by walk_at "ev") hge (Nat.le_of_ble_eq_true rfl)) EvAll.nil))) hwr (rm.le (by decide))
    refine Exs.nil ⟨_, by walk_at "wk", _, ?_, rfl⟩
    rw [take_snoc hc, List.map_append, ← hrows]
    rw [show [cell].map (rowOf script.sum) = [rowOf script.sum cell] from rfl, hrow]
  · obtain ⟨rows, hrows, rfl⟩ := hi
    rw [List.length_map, List.take_length] at hrows
    have hrw : rows = rowsOf script := hrows
    subst hrw
    clear hrows
    refine Exs.freeze (a := aR) (ps := (rowsOf script).map vRow) (At.mem (by walk_at "mem")) (by walk_at "rdel") (by walk_at "rep") haR ?_
    exact hk
theorem filter_all {α : Type} (l : List α) : l.filter (fun _ => true) = l := by simp
theorem law2 {prog : Program} {w : World} {A : Around} {g : Heap} {L fa : Addr} {cd : Value} {F : FH} {s : Shared} (G : Grd (KK w) g) (LG : LamG g 163 159) (rm : Room (lawCx prog w A g (lawFn w).fd L fa cd F s).A 60) (script : List Int) (rows : List Row) (hr : RowsOK rows) (P : Out → Prop)
    (hk : ∀ (sg a d pb cl : Addr) (co : Cell) (fo : Obj) (fc : Addr) (fd : FuncData) (ts : Array Value) (fz : List (Addr × Obj)), fo.data = .func fd → ReadOK prog w g fc cl sg co →
      Exs (lawCx prog w A g (lawFn w).fd L fa cd F s) { vars := [(PySem.Str.ofString "lexer", vVal (.ref a)), (PySem.Str.ofString "signs", vVal (.ref sg)), (PySem.Str.ofString "page", vStr (pageOf rows)), (PySem.Str.ofString "rows", vList (rows.map vRow)), (PySem.Str.ofString "script", vListW (script.map vInt))], res := lineT a d pb cl sg co fo fc [] 1 (pageOf rows) (.raw (tabObj ts) fz) } ((lawFn w).body.drop 5) P) :
    Exs (lawCx prog w A g (lawFn w).fd L fa cd F s) { vars := [(PySem.Str.ofString "rows", vList (rows.map vRow)), (PySem.Str.ofString "script", vListW (script.map vInt))], res := [(159, .raw (tabObj #[]) [])] } ((lawFn w).body.drop 2) P := by
  have hrl := hr.len
  have hj : JoinOk (L2S []) ((rows.map fun r => r.2.2).map L2S) = true := joinOk_of 8 300 (by rw [List.length_map]; first | lia | omega) (fun l hl => by obtain ⟨r, hr', rfl⟩ := List.mem_map.mp hl; exact hr.text r hr') (by decide) (by decide)
  have hcomp : ((rows.filter fun _ => true).map fun r => vStr r.2.2) = vStrs (rows.map fun r => r.2.2) := by rw [filter_all]; unfold vStrs; rw [List.map_map]; rfl
  have hrz : rows.length ≤ sizeLine := by rw [sizeLine_is]; first | lia | omega
  refine Exs.assign (p := vStr (pageOf rows)) (Ev.eq (Ev.join (x := []) (ls := rows.map fun r => r.2.2) (by exact Ev.cStr rfl) (Ev.srcL (Ev.eq (Ev.compP (cl := []) (cv := []) (R0 := []) rows vRow (fun _ => true) (fun r => vStr r.2.2) ?zi ?zs hrz ?zt) (by rw [hcomp]))) hj) (by rw [joinL_flat]; rfl)) (As.name (by walk_at "put")) ?_
  case zi => exact EvIter.listL (by walk_at "ev") calm_name
  case zs => exact Seen.none (by decide) rfl (by decide) (by decide)
  case zt =>
    intro C F0 s0 W pv r hr'
    refine ⟨_, As.name (Put.newL rfl rfl), rfl, .nil _, fun _ => ?_⟩
    exact Ev.atT (k := 2) (by walk_at "ev") (by exact Ev.cInt) rfl (Nat.le_of_ble_eq_true rfl)
  have hpl : (pageOf rows).length ≤ 10000 := by
    have := flat_len 300 (rows.map fun r => r.2.2) (fun l hl => by obtain ⟨r, hr', rfl⟩ := List.mem_map.mp hl; exact hr.text r hr')
    rw [List.length_map] at this
    unfold pageOf; first | lia | omega
  refine Exs.asOwn (EvN.listS (by walk_at "ev") (by walk_at "ev") (by rw [sizeLine_is]; first | lia | omega)) fun sg hsg => ⟨_, by walk_at "put", ?_⟩
  refine Exs.assignE (EvE.callF (K := KK w) (R := [(sg, .lst (sgs (pageOf rows))), (159, .raw (tabObj #[]) [])]) (L := []) G ⟨_, _, rfl, rfl⟩ (by walk_at "ev") (EvAll.cons (by walk_at "ev") EvAll.nil) (open_ok G LG (pageOf rows) sg) (rm.le (by decide)) (.left (.left .nil))) fun p σ' h => ?_
  obtain ⟨R', ⟨a, d, pb, cl, co, fo, fc, fd, ts, fz, rfl, hfo, hro, rfl⟩, hn, rfl⟩ := h
  refine ⟨_, As.name (by walk_at "put"), ?_⟩
  refine Exs.perm (R' := lineT a d pb cl sg co fo fc [] 1 (pageOf rows) (.raw (tabObj ts) fz)) ?_ (hk sg a d pb cl co fo fc fd ts fz hfo hro)
  exact ((List.Perm.swap _ _ _).cons _).trans (List.Perm.swap _ _ _)
noncomputable abbrev vKind (r : Row) : VP := vTup [vInst CW (wsFields r.1), vCol r.2.1]
noncomputable def abc : List Nat := [97, 98, 99, 100, 101, 102, 103, 104]
noncomputable def swapc (l : List Nat) : List Nat := S2 (Txt.swapcase (L2S l))
noncomputable def sameOf (prev : List Row) (r : Row) : List Bool := prev.map fun q => decide (q.2.1 = r.2.1)
noncomputable def nearOf (prev : List Row) (r : Row) : List Bool := prev.map fun q => indentOf (wsOf q.1) 4 == indentOf (wsOf r.1) 4
noncomputable def fitsOf (bs : List Bool) (ls : List (List Nat)) : List (List Nat) := ((bs.zip ls).filter (·.1)).map (·.2)
noncomputable def letFits (prev : List Row) (letters : List (List Nat)) (r : Row) : List (List Nat) :=
  if fitsOf (sameOf prev r) letters = [] then (fitsOf (nearOf prev r) letters).map swapc else fitsOf (sameOf prev r) letters
noncomputable def letStep (prev : List Row) (letters : List (List Nat)) (r : Row) : List (List Nat) := letters ++ (letFits prev letters r ++ [[abc.getD letters.length 0]]).take 1
noncomputable def letAt (rows : List Row) : Nat → List (List Nat)
  | 0 => []
  | k + 1 => match rows[k]? with | some r => letStep (rows.take k) (letAt rows k) r | none => letAt rows k
structure LawFacts (rows : List Row) : Prop where
  tok : ∀ r ∈ rows, ∀ rest, tok (r.2.2 ++ rest) = some (r.1, rest)
  cols : ∀ r ∈ rows, ((List.range 16).map fun i => indentOf (wsOf r.1) (1 + i)) = r.2.1
  eq : ∀ q ∈ rows, ∀ r ∈ rows, decide ((wsOf q.1).count = (wsOf r.1).count ∧ (wsOf q.1).b = (wsOf r.1).b) = decide (q.2.1 = r.2.1)
  letters : ∀ k, k ≤ rows.length → (letAt rows k).length = k ∧ ∀ l ∈ letAt rows k, ∃ c, l = [c] ∧ c < 128
theorem Seen.one {cx : Cx} {σ : St} {scope : Scope} {x : PySem.Str} {c : Addr} {p : VP} (hclos : closureFor scope cx.env = pure [(x, c)]) (hk : scope.kind = .function) (hn : ∀ x ∈ scope.names, x.2 = .local → scope.names.lookup x.1 = some .local) (hnc : ∀ x ∈ scope.names, x.2 ≠ .cell)
    (hc : cx.env.cells.lookup x = some c) (hv : At x p σ.vars) (hkc : cx.env.kindOf x = some .cell) (hr : (relabel scope cx.env).names.lookup x = some .cell) : Seen cx σ scope [(x, c)] [(x, p)] :=
  ⟨hclos, hk, hn, hnc, fun y d hm => by cases List.mem_singleton.mp hm; exact mem_of_lookup hc, List.pairwise_singleton _ _, fun y q hm => by
    cases List.mem_singleton.mp hm
    exact ⟨hv.mem, by rw [hkc]; decide, by rw [hc]; simp [List.lookup], .inl hr⟩, List.nodup_cons.mpr ⟨List.not_mem_nil, List.nodup_nil⟩⟩
theorem restOf_cons {rows : List Row} {k : Nat} {r : Row} (h : rows[k]? = some r) : restOf rows k = r.2.2 ++ restOf rows (k + 1) := by
  unfold restOf
  rw [drop_at h, List.map_cons, List.flatten_cons]
theorem zip_vt : ∀ (bs : List Bool) (ls : List (List Nat)), List.zipWith (fun p q => vTupW [p, q]) (bs.map vBool) (vStrs ls) = (bs.zip ls).map fun x => vTupW [vBool x.1, vStr x.2]
  | [], _ => by simp
  | _ :: _, [] => by simp [vStrs]
  | b :: bs, l :: ls => by
    have := zip_vt bs ls
    simp only [vStrs, List.map_cons, List.zipWith_cons_cons, List.zip_cons_cons] at this ⊢
    rw [this]
theorem fits_v (bs : List Bool) (ls : List (List Nat)) : (((bs.zip ls).filter (·.1)).map fun x => vStr x.2) = vStrs (fitsOf bs ls) := by
  unfold fitsOf vStrs; rw [List.map_map]; rfl
theorem fits_vs (bs : List Bool) (ls : List (List Nat)) : (((bs.zip ls).filter (·.1)).map fun x => vStr (swapc x.2)) = vStrs ((fitsOf bs ls).map swapc) := by
  unfold fitsOf vStrs; rw [List.map_map, List.map_map]; rfl
noncomputable abbrev dStrs (ls : List (List Nat)) : PyData := .list (ls.map fun l => .str (L2S l))
theorem vd_strs (ls : List (List Nat)) : VD (vList (vStrs ls)) (dStrs ls) := vd_list (VDs.map vStr (fun l => PyData.str (L2S l)) vd_str ls)
theorem shaped_strs (ls : List (List Nat)) (h : ∀ l ∈ ls, okS l) : SeqAt.shaped (dStrs ls) = true := shaped_list dk_str (by decide) fun l hl => can_str (h l hl)
noncomputable abbrev dBools (ls : List Bool) : PyData := .list (ls.map fun b => .bool b)
theorem vd_bools (ls : List Bool) : VD (vList (ls.map vBool)) (dBools ls) := vd_list (VDs.map vBool (fun b => PyData.bool b) vd_bool ls)
theorem shaped_bools (ls : List Bool) : SeqAt.shaped (dBools ls) = true := shaped_list dk_bool (by decide) fun b _ => by simp [PyData.canLay0]
theorem fits_mem {bs : List Bool} {ls : List (List Nat)} {l : List Nat} (h : l ∈ fitsOf bs ls) : l ∈ ls := by
  unfold fitsOf at h
  obtain ⟨x, hx, rfl⟩ := List.mem_map.mp h
  exact (List.of_mem_zip (List.mem_filter.mp hx).1).2
theorem fits_len (bs : List Bool) (ls : List (List Nat)) : (fitsOf bs ls).length ≤ ls.length := by
  unfold fitsOf
  rw [List.length_map]
  have h1 := List.length_filter_le (·.1) (bs.zip ls)
  have h2 : (bs.zip ls).length ≤ ls.length := by rw [List.length_zip]; first | lia | omega
  first | lia | omega
theorem law3 {prog : Program} {w : World} {A : Around} {g : Heap} {L fa : Addr} {cd : Value} {F : FH} {s : Shared} (G : Grd (KK w) g) (rm : Room (lawCx prog w A g (lawFn w).fd L fa cd F s).A 60) (script : List Int) (rows : List Row) (hr : RowsOK rows) (hf : LawFacts rows)
    {sg a d pb cl : Addr} {co : Cell} {fo : Obj} {fc : Addr} {fd : FuncData} {ts : Array Value} {fz : List (Addr × Obj)} (hfo : fo.data = .func fd) (hro : ReadOK prog w g fc cl sg co) (P : Out → Prop)
    (hk : ∀ kA, Exs (lawCx prog w A g (lawFn w).fd L fa cd F s) { vars := [(PySem.Str.ofString "kinds", vVal (.ref kA)), (PySem.Str.ofString "letters", vList (vStrs (letAt rows rows.length))), (PySem.Str.ofString "lexer", vVal (.ref a)), (PySem.Str.ofString "signs", vVal (.ref sg)), (PySem.Str.ofString "page", vStr (pageOf rows))], res := (kA, .lst (rows.map vKind)) :: lineT a d pb cl sg co fo fc [] (1 + nls (pageOf rows)) [] (.raw (tabObj ts) fz) } ((lawFn w).body.drop 8) P) :
    Exs (lawCx prog w A g (lawFn w).fd L fa cd F s) { vars := [(PySem.Str.ofString "lexer", vVal (.ref a)), (PySem.Str.ofString "signs", vVal (.ref sg)), (PySem.Str.ofString "page", vStr (pageOf rows)), (PySem.Str.ofString "rows", vList (rows.map vRow)), (PySem.Str.ofString "script", vListW (script.map vInt))], res := lineT a d pb cl sg co fo fc [] 1 (pageOf rows) (.raw (tabObj ts) fz) } ((lawFn w).body.drop 5) P := by
  have hrl := hr.len
  refine Exs.asOwn (EvN.disp .nil) fun kA hkA => ⟨_, by walk_at "put", ?_⟩
  refine Exs.assign (p := vList (vStrs [])) (by exact EvN.ev (EvN.disp .nil)) (As.name (by walk_at "put")) ?_
  refine Exs.forI (EvIter.listT (ps := rows.map vRow) (by walk_at "ev") (fun q hq => by obtain ⟨r, _, rfl⟩ := List.mem_map.mp hq; exact ⟨_, rfl⟩))
    (fun k σ => ∃ (ls : List (List Nat)) (n : Int), (ls = letAt rows k ∧ n = 1 + nls (pageOf rows) - nls (restOf rows k)) ∧ σ = { vars := [(PySem.Str.ofString "kinds", vVal (.ref kA)), (PySem.Str.ofString "letters", vList (vStrs ls)), (PySem.Str.ofString "lexer", vVal (.ref a)), (PySem.Str.ofString "signs", vVal (.ref sg)), (PySem.Str.ofString "page", vStr (pageOf rows))], res := (kA, .lst ((rows.take k).map vKind)) :: lineT a d pb cl sg co fo fc [] n (restOf rows k) (.raw (tabObj ts) fz) })
    ⟨_, by walk_at "wk", [], 1, ⟨rfl, by unfold restOf pageOf; simp⟩, rfl⟩ (fun k p pv σk hp hi => ?_) fun σk hi => ?_
  · obtain ⟨ls, n, ⟨hls, hn⟩, rfl⟩ := hi
    rw [List.getElem?_map] at hp
    obtain ⟨r, hrk, rfl⟩ := Option.map_eq_some_iff.mp hp
    have hmem := List.mem_of_getElem? hrk
    have hkl : k < rows.length := (List.getElem?_eq_some_iff.mp hrk).1
    have hlead := hr.lead r hmem
    rw [restOf_cons hrk]
    have hpl : (r.2.2 ++ restOf rows (k + 1)).length < 1000000 := by
      rw [← restOf_cons hrk]
      have := flat_len 300 ((rows.drop k).map fun r => r.2.2) (fun l hl => by obtain ⟨r, hr', rfl⟩ := List.mem_map.mp hl; exact hr.text r (List.drop_subset _ _ hr'))
      rw [List.length_map, List.length_drop] at this
      unfold restOf; first | lia | omega
    have hget := get_read (prog := prog) (w := w) (x := r.1) (r := restOf rows (k + 1)) G hfo hro (r.2.2 ++ restOf rows (k + 1)) hpl (hf.tok r hmem _) n a d pb
    have hn1 : n + nls (r.2.2 ++ restOf rows (k + 1)) - nls (restOf rows (k + 1)) = 1 + nls (pageOf rows) - nls (restOf rows (k + 1)) := by rw [hn, restOf_cons hrk]; first | lia | omega
    rw [hn1] at hget
    generalize hl1 : r.2.2 ++ restOf rows (k + 1) = l1 at *
    generalize hl2 : restOf rows (k + 1) = l2 at *
    generalize hn2 : 1 + nls (pageOf rows) - nls l2 = n2 at *
    generalize hpg : pageOf rows = page at *
    refine ⟨_, As.tup (AsAll.cons (As.name (by walk_at "put")) (AsAll.cons (As.name (by walk_at "put")) (AsAll.cons (As.name (by walk_at "put")) AsAll.nil))), ?_⟩
    refine Exs.assign (p := vInst CW (wsFields r.1)) (by exact Ev.callCP (K := KK w) G rfl (by walk_at "ev") (EvAll.cons (Ev.callM0 (K := KK w) (f := 115) G ⟨_, _, rfl, rfl⟩ (by walk_at "ev") (HasMeth.owned (C := CN) (x := a) (d := d) G ⟨rfl, rfl, rfl⟩ (by walk_at "rmem") rfl) hget (rm.le (by decide)) (.skip (.take (.take (.take (.take (.skip .nil))))))) EvAll.nil) (ws_ok G r.1 (by first | lia | omega)) (rm.le (by decide))) (As.name (by walk_at "put")) ?_
    have hu : (lawCx prog w A g (lawFn w).fd L fa cd F s).A.units + 64 < cLine := by have := rm.units; show _ < 9900; first | lia | omega
    have hcol := hf.cols r hmem
    have hrow1 : ((List.range (17 - 1)).filter fun _ => true).map (fun i => vInt (indentOf (wsOf r.1) (1 + i))) = ((List.range 16).map fun i => indentOf (wsOf r.1) (1 + i)).map vInt := by rw [filter_all, List.map_map]; rfl
    refine Exs.iff (c := false) (Tst.eq (Tst.neD (p := vCol ((List.range 16).map fun i => indentOf (wsOf r.1) (1 + i))) (q := vCol r.2.1) ?zc (by walk_at "ev") (vd_col _).sd (vd_col _).sd (shaped_col _) (shaped_col _) hu) ?ze) (fun h => by cases h) fun _ => ?_
    case ze => rw [hcol, dk_col.inj]; simp
    case zc =>
      refine Ev.eq (Ev.compP (cl := [(PySem.Str.ofString "here", L + 1 + 1)]) (cv := [(PySem.Str.ofString "here", vInst CW (wsFields r.1))]) (R0 := []) (List.range (17 - 1)) (fun i : Nat => vInt ((1 + i : Nat) : Int)) (fun _ => true) (fun i => vInt (indentOf (wsOf r.1) (1 + i))) ?yi ?ys (Nat.le_of_ble_eq_true rfl) ?yt) (by rw [hrow1])
      case yi => exact EvIter.rangeN (a := 1) (b := 17) (by exact Ev.range2 (by walk_at "ev") (EvAll.cons (by exact Ev.cInt) (EvAll.cons (by exact Ev.cInt) EvAll.nil))) calm_name (Nat.le_of_ble_eq_true rfl) (Nat.le_of_ble_eq_true rfl)
      case ys => exact Seen.one (by with_unfolding_all rfl) rfl (by decide) (by decide) rfl (by walk_at "mem") rfl (by with_unfolding_all rfl)
      case yt =>
        intro C F0 s0 W pv i hi
        have hi16 : i < 16 := by simpa using hi
        refine ⟨_, As.name (Put.newL rfl rfl), rfl, .nil _, fun _ => ?_⟩
        exact Ev.callMP (K := KK w) (f := 52) G ⟨_, _, rfl, rfl⟩ (by walk_at "ev") (HasMeth.frozen G ⟨rfl, rfl, rfl⟩ rfl) (EvAll.cons (by walk_at "ev") EvAll.nil) (indent_ok G r.1 (by first | lia | omega) (1 + i) (by first | lia | omega) (by first | lia | omega)) (rm.le (by decide))
    refine Exs.nil ?_
    have hkz : (rows.take k).length ≤ sizeLine := by rw [List.length_take, sizeLine_is]; first | lia | omega
    have hsame : (((rows.take k).filter fun _ => true).map fun q => vBool (decide (q.2.1 = r.2.1))) = (sameOf (rows.take k) r).map vBool := by rw [filter_all]; unfold sameOf; rw [List.map_map]; rfl
    refine Exs.assignCompP (cl := [(PySem.Str.ofString "here", L + 1 + 1)]) (cv := [(PySem.Str.ofString "here", vInst CW (wsFields r.1))]) (rows.take k) vKind (fun _ => true) (fun q => vBool (decide (q.2.1 = r.2.1))) (EvIter.own (by walk_at "ev") (RAt.mem (by walk_at "rmem")) (.inl calm_name)) (Seen.one (by with_unfolding_all rfl) rfl (by decide) (by decide) rfl (by walk_at "mem") rfl (by with_unfolding_all rfl)) hkz ?yt (by walk_at "put") ?_
    case yt =>
      intro C F0 s0 W pv q hq
      have hqm := List.take_subset _ _ hq
      have hqe := hf.eq q hqm r hmem
      have heq := equal_ok (prog := prog) (w := w) G q.1 r.1 (by have := hr.lead q hqm; first | lia | omega) (by first | lia | omega)
      rw [hqe] at heq
      refine ⟨_, As.name (Put.newL rfl rfl), rfl, .nil _, fun _ => ?_⟩
      exact Ev.callMP (K := KK w) (f := 59) G ⟨_, _, rfl, rfl⟩ (Ev.atT (k := 0) (p := vInst CW (wsFields q.1)) (by walk_at "ev") (by exact Ev.cInt) rfl (Nat.le_of_ble_eq_true rfl)) (HasMeth.frozen G ⟨rfl, rfl, rfl⟩ rfl) (EvAll.cons (by walk_at "ev") EvAll.nil) heq (rm.le (by decide))
    rw [hsame]
    refine Exs.iff (c := false) (Tst.eq (Tst.neD (p := vList ((sameOf (rows.take k) r).map vBool)) (q := vList ((sameOf (rows.take k) r).map vBool)) (by walk_at "ev") ?zc (vd_bools _).sd (vd_bools _).sd (shaped_bools _) (shaped_bools _) hu) ?ze) (fun h => by cases h) fun _ => ?_
    case ze => rw [(dk_list dk_bool).inj]; simp
    case zc =>
      refine Ev.eq (Ev.compP (cl := [(PySem.Str.ofString "columns", L + 1)]) (cv := [(PySem.Str.ofString "columns", vCol r.2.1)]) (rows.take k) vKind (fun _ => true) (fun q => vBool (decide (q.2.1 = r.2.1))) (EvIter.own (by walk_at "ev") (RAt.mem (by walk_at "rmem")) (.inl calm_name)) (Seen.one (by with_unfolding_all rfl) rfl (by decide) (by decide) rfl (by walk_at "mem") rfl (by with_unfolding_all rfl)) hkz ?yt) (by rw [hsame])
      case yt =>
        intro C F0 s0 W pv q hq
        refine ⟨_, As.name (Put.newL rfl rfl), rfl, .nil _, fun _ => ?_⟩
        exact Ev.eq (Ev.eqD (p := vCol q.2.1) (q := vCol r.2.1) (Ev.atT (k := 1) (by walk_at "ev") (by exact Ev.cInt) rfl (Nat.le_of_ble_eq_true rfl)) (by walk_at "ev") (vd_col _).sd (vd_col _).sd (shaped_col _) (shaped_col _) hu) (by rw [dk_col.inj])
    refine Exs.nil ?_
    obtain ⟨hll, hlc⟩ := hf.letters k (by first | lia | omega)
    rw [← hls] at hll hlc
    have hl1c : ∀ l ∈ ls, l.length = 1 ∧ okS l := fun l hl => by
      obtain ⟨c, rfl, hc⟩ := hlc l hl
      exact ⟨rfl, fun d hd => by cases List.mem_singleton.mp hd; first | lia | omega⟩
    have hzl : ((sameOf (rows.take k) r).zip ls).length ≤ sizeLine := by rw [List.length_zip, sizeLine_is]; first | lia | omega
    refine Exs.assignCompP (cl := []) (cv := []) (R0 := []) ((sameOf (rows.take k) r).zip ls) (fun x => vTupW [vBool x.1, vStr x.2]) (·.1) (fun x => vStr x.2) (by rw [← zip_vt]; exact EvIter.zip (by walk_at "ev") (EvAll.cons (by walk_at "ev") (EvAll.cons (by walk_at "ev") EvAll.nil))) (Seen.none (by decide) rfl (by decide) (by decide)) hzl ?yt (by walk_at "put") ?_
    case yt =>
      intro C F0 s0 W pv x hx
      refine ⟨_, As.tupW (AsAll.cons (As.name (Put.newL rfl rfl)) (AsAll.cons (As.name (Put.newL rfl rfl)) AsAll.nil)), rfl, .one (Tst.bool (by walk_at "ev") (fun _ => rfl)), fun _ => by walk_at "ev"⟩
    rw [fits_v]
    have hfl := fits_len (sameOf (rows.take k) r) ls
    refine Exs.iffM (fun σ => σ = { vars := [(PySem.Str.ofString "fits", vList (vStrs (letFits (rows.take k) ls r))), (PySem.Str.ofString "here", vInst CW (wsFields r.1)), (PySem.Str.ofString "columns", vCol r.2.1), (PySem.Str.ofString "kinds", vVal (.ref kA)), (PySem.Str.ofString "letters", vList (vStrs ls)), (PySem.Str.ofString "lexer", vVal (.ref a)), (PySem.Str.ofString "signs", vVal (.ref sg)), (PySem.Str.ofString "page", vStr page)], res := (kA, .lst ((rows.take k).map vKind)) :: lineT a d pb cl sg co fo fc [] n2 l2 (.raw (tabObj ts) fz) }) (Tst.eq (Tst.eqD (p := vList (vStrs (fitsOf (sameOf (rows.take k) r) ls))) (q := vList (vStrs [])) (d := dStrs _) (e := dStrs []) (by walk_at "ev") (EvN.ev (EvN.disp EvAll.nil)) (vd_strs _).sd (vd_strs []).sd (shaped_strs _ fun l hl => (hl1c l (fits_mem hl)).2) (shaped_strs [] fun l hl => (List.not_mem_nil hl).elim) hu) ((dk_list dk_str).inj _ _)) (fun h => ?_) (fun h => ?_) fun σ' h => ?_
    · have hnil : fitsOf (sameOf (rows.take k) r) ls = [] := of_decide_eq_true h
      have hL : letFits (rows.take k) ls r = (fitsOf (nearOf (rows.take k) r) ls).map swapc := by unfold letFits; rw [if_pos hnil]
      rw [hL]
      have hnear : (((rows.take k).filter fun _ => true).map fun q => vBool (indentOf (wsOf q.1) 4 == indentOf (wsOf r.1) 4)) = (nearOf (rows.take k) r).map vBool := by rw [filter_all]; unfold nearOf; rw [List.map_map]; rfl
      have hzl2 : ((nearOf (rows.take k) r).zip ls).length ≤ sizeLine := by rw [List.length_zip, sizeLine_is]; first | lia | omega
      refine Exs.assignCompP (cl := [(PySem.Str.ofString "here", L + 1 + 1)]) (cv := [(PySem.Str.ofString "here", vInst CW (wsFields r.1))]) (rows.take k) vKind (fun _ => true) (fun q => vBool (indentOf (wsOf q.1) 4 == indentOf (wsOf r.1) 4)) (EvIter.own (by walk_at "ev") (RAt.mem (by walk_at "rmem")) (.inl calm_name)) (Seen.one (by with_unfolding_all rfl) rfl (by decide) (by decide) rfl (by walk_at "mem") rfl (by with_unfolding_all rfl)) hkz ?xt (by walk_at "put") ?_
      case xt =>
        intro C F0 s0 W pv q hq
        have hqm := List.take_subset _ _ hq
        have hq5 := hr.lead q hqm
        refine ⟨_, As.name (Put.newL rfl rfl), rfl, .nil _, fun _ => ?_⟩
        exact Ev.eqI (Ev.callMP (K := KK w) (f := 52) G ⟨_, _, rfl, rfl⟩ (Ev.atT (k := 0) (p := vInst CW (wsFields q.1)) (by walk_at "ev") (by exact Ev.cInt) rfl (Nat.le_of_ble_eq_true rfl)) (HasMeth.frozen G ⟨rfl, rfl, rfl⟩ rfl) (EvAll.cons (p := vInt ((4 : Nat) : Int)) (by exact Ev.cInt) EvAll.nil) (indent_ok G q.1 (by first | lia | omega) 4 (by decide) (by decide)) (rm.le (by decide))) (Ev.callMP (K := KK w) (f := 52) G ⟨_, _, rfl, rfl⟩ (by walk_at "ev") (HasMeth.frozen G ⟨rfl, rfl, rfl⟩ rfl) (EvAll.cons (p := vInt ((4 : Nat) : Int)) (by exact Ev.cInt) EvAll.nil) (indent_ok G r.1 (by first | lia | omega) 4 (by decide) (by decide)) (rm.le (by decide)))
      rw [hnear]
      refine Exs.assignCompP (cl := []) (cv := []) (R0 := []) ((nearOf (rows.take k) r).zip ls) (fun x => vTupW [vBool x.1, vStr x.2]) (·.1) (fun x => vStr (swapc x.2)) (by rw [← zip_vt]; exact EvIter.zip (by walk_at "ev") (EvAll.cons (by walk_at "ev") (EvAll.cons (by walk_at "ev") EvAll.nil))) (Seen.none (by decide) rfl (by decide) (by decide)) hzl2 ?xu (by walk_at "put") ?_
      case xu =>
        intro C F0 s0 W pv x hx
        have hx2 := hl1c x.2 (List.of_mem_zip hx).2
        have hsw : (Txt.swapcase (L2S x.2)).length ≤ sizeLine := by
          have := len_swapcase (L2S x.2)
          rw [L2S_len] at this
          rw [sizeLine_is]; first | lia | omega
        refine ⟨_, As.tupW (AsAll.cons (As.name (Put.newL rfl rfl)) (AsAll.cons (As.name (Put.newL rfl rfl)) AsAll.nil)), rfl, .one (Tst.bool (by walk_at "ev") (fun _ => rfl)), fun _ => ?_⟩
        exact Ev.swapcase (by walk_at "ev") hsw
      rw [fits_vs]
      exact Exs.nil ⟨_, by walk_at "wk", rfl⟩
    · have hnil : ¬ fitsOf (sameOf (rows.take k) r) ls = [] := of_decide_eq_false h
      have hL : letFits (rows.take k) ls r = fitsOf (sameOf (rows.take k) r) ls := by unfold letFits; rw [if_neg hnil]
      rw [hL]
      exact Exs.nil ⟨_, by walk_at "wk", rfl⟩
    subst h
    have hll8 : ls.length < 8 := by first | lia | omega
    have hFl : (letFits (rows.take k) ls r).length ≤ ls.length := by
      unfold letFits
      split
      · rw [List.length_map]; exact fits_len _ _
      · exact fits_len _ _
    generalize hFF : letFits (rows.take k) ls r = FF at *
    have hvl : (vStrs ls).length = ls.length := by unfold vStrs; rw [List.length_map]
    have hvf : (vStrs FF).length = FF.length := by unfold vStrs; rw [List.length_map]
    have hstep : vStrs ls ++ (vStrs FF ++ [vStr [abc.getD ls.length 0]]).take 1 = vStrs (letStep (rows.take k) ls r) := by
      unfold letStep
      rw [hFF]
      unfold vStrs
      rw [List.map_append, List.map_take, List.map_append]; rfl
    have habc : abc[ls.length]? = some (abc.getD ls.length 0) := by
      have : ∀ n : Nat, n < 8 → abc[n]? = some (abc.getD n 0) := by decide
      exact this _ hll8
    have z1 : (vStrs FF).length + [vStr [abc.getD ls.length 0]].length ≤ sizeLine := by rw [hvf, sizeLine_is]; simp; first | lia | omega
    have z2 : (vStrs FF ++ [vStr [abc.getD ls.length 0]]).length ≤ sizeLine := by rw [List.length_append]; exact z1
    have z3 : (vStrs ls).length + ((vStrs FF ++ [vStr [abc.getD ls.length 0]]).take 1).length ≤ sizeLine := by rw [hvl, List.length_take, sizeLine_is]; first | lia | omega
    have z4 : (vStrs ls).length ≤ sizeLine := by rw [hvl, sizeLine_is]; first | lia | omega
    refine Exs.assign (p := vList (vStrs (letStep (rows.take k) ls r))) (EvN.ev (EvN.eq (EvN.add (Ev.src (by walk_at "ev")) (Ev.src (EvN.ev (EvN.upto (k := 1) (Ev.srcL (EvN.ev (EvN.add (ps := vStrs FF) (qs := [vStr [abc.getD ls.length 0]]) (Ev.src (by walk_at "ev")) (Ev.src (EvN.ev (EvN.disp (EvAll.cons ?zc EvAll.nil) (Nat.le_of_ble_eq_true rfl)))) z1))) (by exact Ev.cInt) z2))) z3) hstep)) (As.name (by walk_at "put")) ?_
    case zc => exact Ev.atS (x := abc) (k := ls.length) (by exact Ev.cStr rfl) (Ev.eq (Ev.lenL (by walk_at "ev") (by walk_at "src") z4) (by rw [hvl])) habc (Nat.le_of_ble_eq_true rfl)
    have hkq : (rows.take k).map vKind ++ [vKind r] = (rows.take (k + 1)).map vKind := by rw [take_snoc hrk, List.map_append]; rfl
    refine Exs.exp (Ev.app ((rows.take (k + 1)).map vKind) (by walk_at "ev") (Ev.tup (EvAll.cons (by walk_at "ev") (EvAll.cons (by walk_at "ev") EvAll.nil)) (Nat.le_of_ble_eq_true rfl)) (by walk_at "rset") hkq (by rw [List.length_map]; exact hkz)) ?_
    subst hn2 hl2 hpg
    refine Exs.nil ⟨_, by walk_at "wk", _, _, ⟨?_, rfl⟩, rfl⟩
    rw [hls]
    show _ = (match rows[k]? with | some r => letStep (rows.take k) (letAt rows k) r | none => letAt rows k)
    rw [hrk]
  · obtain ⟨ls, n, ⟨rfl, rfl⟩, rfl⟩ := hi
    rw [List.length_map, List.take_length]
    have h0 : restOf rows rows.length = [] := by unfold restOf; rw [List.drop_length]; rfl
    rw [h0, show 1 + nls (pageOf rows) - nls [] = 1 + nls (pageOf rows) from by unfold nls; simp]
    exact hk kA
theorem count_nls (x : List Nat) : Txt.count (L2S x) (L2S [10]) = nls x := count_ten x
noncomputable abbrev oneOf (rows : List Row) : List Nat := (sl2 (letAt rows rows.length) 0).flatten
noncomputable abbrev twoOf (rows : List Row) : List Nat := (sl2 (letAt rows rows.length) 1).flatten
noncomputable abbrev someOf (rows : List Row) : List (List Int) := (sl2 rows 0).map (·.2.1)
noncomputable abbrev othersOf (rows : List Row) : List (List Int) := (sl2 rows 1).map (·.2.1)
noncomputable def pairsOf (m n : Nat) : List (Nat × Nat) := [(m, n), (m - 1, n), (m, n - 1)]
structure EndFacts (rows : List Row) : Prop where
  cols : ∀ r ∈ rows, r.2.1.length = 16
  one : 1 ≤ (oneOf rows).length ∧ (oneOf rows).length ≤ 8
  two : 1 ≤ (twoOf rows).length ∧ (twoOf rows).length ≤ 8
  lev : ∀ i j, (i, j) ∈ pairsOf (oneOf rows).length (twoOf rows).length →
    lev ((oneOf rows).take i) ((twoOf rows).take j) (least ((someOf rows).take i) ((othersOf rows).take j)) = least ((someOf rows).take i) ((othersOf rows).take j) ∧
    lev ((oneOf rows).take i) ((twoOf rows).take j) 99 = least ((someOf rows).take i) ((othersOf rows).take j) ∧
    lev ((twoOf rows).take j) ((oneOf rows).take i) (least ((someOf rows).take i) ((othersOf rows).take j) - 1) = least ((someOf rows).take i) ((othersOf rows).take j)
theorem sl2_mem {α : Type} {l : List α} {k : Nat} {x : α} (h : x ∈ sl2 l k) : x ∈ l := by
  unfold sl2 at h
  obtain ⟨i, _, hi⟩ := List.mem_filterMap.mp h
  exact List.mem_of_getElem? hi
theorem sl2_len {α : Type} (l : List α) (k : Nat) : (sl2 l k).length ≤ l.length + 1 := by
  unfold sl2
  have := List.length_filterMap_le (fun i => l[k + 2 * i]?) (List.range ((l.length + 1 - k) / 2))
  rw [List.length_range] at this
  omega
theorem law4 {prog : Program} {w : World} {A : Around} {g : Heap} {L fa : Addr} {cd : Value} {F : FH} {s : Shared} (G : Grd (KK w) g) (rm : Room (lawCx prog w A g (lawFn w).fd L fa cd F s).A 60) (rows : List Row) (hr : RowsOK rows) (hf : LawFacts rows) (he : EndFacts rows)
    {sg a d pb cl : Addr} {co : Cell} {fo : Obj} {fc : Addr} {fd : FuncData} {ts : Array Value} {fz : List (Addr × Obj)} (hfo : fo.data = .func fd) (hro : ReadOK prog w g fc cl sg co) (P : Out → Prop) (hP : ∀ R, RAt 159 (.raw (tabObj ts) fz) R → P (.rt (vBool true) R)) (kA : Addr) :
    Exs (lawCx prog w A g (lawFn w).fd L fa cd F s) { vars := [(PySem.Str.ofString "kinds", vVal (.ref kA)), (PySem.Str.ofString "letters", vList (vStrs (letAt rows rows.length))), (PySem.Str.ofString "lexer", vVal (.ref a)), (PySem.Str.ofString "signs", vVal (.ref sg)), (PySem.Str.ofString "page", vStr (pageOf rows))], res := (kA, .lst (rows.map vKind)) :: lineT a d pb cl sg co fo fc [] (1 + nls (pageOf rows)) [] (.raw (tabObj ts) fz) } ((lawFn w).body.drop 8) P := by
  have hrl := hr.len
  have hu : (lawCx prog w A g (lawFn w).fd L fa cd F s).A.units + 64 < cLine := by have := rm.units; show _ < 9900; first | lia | omega
  have hget := get_read (prog := prog) (w := w) (x := []) (r := []) G hfo hro [] (by decide) rfl (1 + nls (pageOf rows)) a d pb
  rw [show 1 + nls (pageOf rows) + nls [] - nls [] = 1 + nls (pageOf rows) from by first | lia | omega] at hget
  refine Exs.iff (c := false) (Tst.eq (b := (false || (false || (false || false)))) (Tst.all (TAll.consO ?za fun _ => TAll.consO ?zb fun _ => TAll.consO ?zc fun _ => TAll.nilO)) rfl) (fun h => by cases h) fun _ => ?_
  case za =>
    refine Tst.eq (Tst.neD (q := vList []) (d := .list ([].map dCol)) (e := .list ([].map dCol)) (Ev.srcO (ps := sgs []) (by walk_at "ev") (by walk_at "rmem")) (EvN.ev (EvN.disp EvAll.nil)) (sd_src .nil) (vd_list .nil).sd (shaped_cls []) (shaped_cls []) hu) (by rw [(dk_list dk_col).inj]; rfl)
  case zb =>
    exact Tst.eq (Tst.neI (Ev.attrO (K := KK w) (C := CN) G (by walk_at "own") (by walk_at "ev") (by walk_at "rmem") (by walk_at "mem") handed_int) (Ev.add (by walk_at "ev") (Ev.countS (by walk_at "ev") (Ev.cStr (l := [10]) rfl)))) (by rw [count_nls]; simp)
  case zc =>
    exact Tst.eq (Tst.neS (Ev.callM0 (K := KK w) (f := 115) G ⟨_, _, rfl, rfl⟩ (by walk_at "ev") (HasMeth.owned (C := CN) (x := a) (d := d) G ⟨rfl, rfl, rfl⟩ (by walk_at "rmem") rfl) hget (rm.le (by decide)) (.skip (.take (.take (.take (.take (.skip .nil))))))) (Ev.cStr (l := []) rfl)) rfl
  refine Exs.nil ?_
  obtain ⟨hll, hlc⟩ := hf.letters rows.length (Nat.le_refl _)
  have hlv : ∀ k, (vStrs (sl2 (letAt rows rows.length) k)) = sl2 (vStrs (letAt rows rows.length)) k := fun k => (sl2_map vStr _ k).symm
  have hvz : (vStrs (letAt rows rows.length)).length ≤ sizeLine := by unfold vStrs; rw [List.length_map, hll, sizeLine_is]; first | lia | omega
  have hv1 : 1 ≤ (vStrs (letAt rows rows.length)).length := by unfold vStrs; rw [List.length_map, hll]; first | lia | omega
  have hj : ∀ k, JoinOk (L2S []) ((sl2 (letAt rows rows.length) k).map L2S) = true := fun k => joinOk_of 9 1 (by have := sl2_len (letAt rows rows.length) k; first | lia | omega) (fun l hl => by obtain ⟨c, rfl, _⟩ := hlc l (sl2_mem hl); exact Nat.le_refl _) (by decide) (by decide)
  refine Exs.swap (σ₁ := { vars := [(PySem.Str.ofString "kinds", vVal (.ref kA)), (PySem.Str.ofString "letters", vList (vStrs (letAt rows rows.length))), (PySem.Str.ofString "lexer", vVal (.ref a)), (PySem.Str.ofString "signs", vVal (.ref sg)), (PySem.Str.ofString "page", vStr (pageOf rows))], res := (kA, .lst (rows.map vKind)) :: lineT a d pb cl sg co fo fc [] (1 + nls (pageOf rows)) [] (.raw (tabObj ts) fz) }) (x := PySem.Str.ofString "one") (y := PySem.Str.ofString "two") (p := vStr (oneOf rows)) (q := vStr (twoOf rows)) (by
    refine Ev.tup (EvAll.cons (σ₁ := { vars := [(PySem.Str.ofString "kinds", vVal (.ref kA)), (PySem.Str.ofString "letters", vList (vStrs (letAt rows rows.length))), (PySem.Str.ofString "lexer", vVal (.ref a)), (PySem.Str.ofString "signs", vVal (.ref sg)), (PySem.Str.ofString "page", vStr (pageOf rows))], res := (kA, .lst (rows.map vKind)) :: lineT a d pb cl sg co fo fc [] (1 + nls (pageOf rows)) [] (.raw (tabObj ts) fz) }) ?_ (EvAll.cons ?_ EvAll.nil)) (Nat.le_of_ble_eq_true rfl)
    · exact Ev.eq (Ev.join (x := []) (ls := sl2 (letAt rows rows.length) 0) (by exact Ev.cStr rfl) (Ev.srcL (EvN.ev (EvN.eq (EvN.slStep (k := 0) (by walk_at "src") (EvPt.int (by exact Ev.cInt)) (EvPt.int (by exact Ev.cInt)) (Nat.zero_le _) hvz) (hlv 0).symm))) (hj 0)) (by rw [joinL_flat])
    · exact Ev.eq (Ev.join (x := []) (ls := sl2 (letAt rows rows.length) 1) (by exact Ev.cStr rfl) (Ev.srcL (EvN.ev (EvN.eq (EvN.slStep (k := 1) (by walk_at "src") (EvPt.int (by exact Ev.cInt)) (EvPt.int (by exact Ev.cInt)) hv1 hvz) (hlv 1).symm))) (hj 1)) (by rw [joinL_flat])) (by walk_at "put") (by walk_at "put") ?_
  have hkz : (rows.map vKind).length ≤ sizeLine := by rw [List.length_map, sizeLine_is]; first | lia | omega
  have hk1 : 1 ≤ (rows.map vKind).length := by rw [List.length_map]; first | lia | omega
  have hsz : ∀ k, (sl2 rows k).length ≤ sizeLine := fun k => by have := sl2_len rows k; rw [sizeLine_is]; first | lia | omega
  have hcm : ∀ k, (((sl2 rows k).filter fun _ => true).map fun q : Row => vCol q.2.1) = cls ((sl2 rows k).map (·.2.1)) := fun k => by rw [filter_all]; show _ = List.map vCol (List.map _ _); rw [List.map_map]; rfl
  refine Exs.swap (σ₁ := { vars := (PySem.Str.ofString "one", vStr (oneOf rows)) :: (PySem.Str.ofString "two", vStr (twoOf rows)) :: [(PySem.Str.ofString "kinds", vVal (.ref kA)), (PySem.Str.ofString "letters", vList (vStrs (letAt rows rows.length))), (PySem.Str.ofString "lexer", vVal (.ref a)), (PySem.Str.ofString "signs", vVal (.ref sg)), (PySem.Str.ofString "page", vStr (pageOf rows))], res := (kA, .lst (rows.map vKind)) :: lineT a d pb cl sg co fo fc [] (1 + nls (pageOf rows)) [] (.raw (tabObj ts) fz) }) (x := PySem.Str.ofString "some") (y := PySem.Str.ofString "others") (p := vList (cls (someOf rows))) (q := vList (cls (othersOf rows))) (by
    refine Ev.tup (EvAll.cons (σ₁ := { vars := (PySem.Str.ofString "one", vStr (oneOf rows)) :: (PySem.Str.ofString "two", vStr (twoOf rows)) :: [(PySem.Str.ofString "kinds", vVal (.ref kA)), (PySem.Str.ofString "letters", vList (vStrs (letAt rows rows.length))), (PySem.Str.ofString "lexer", vVal (.ref a)), (PySem.Str.ofString "signs", vVal (.ref sg)), (PySem.Str.ofString "page", vStr (pageOf rows))], res := (kA, .lst (rows.map vKind)) :: lineT a d pb cl sg co fo fc [] (1 + nls (pageOf rows)) [] (.raw (tabObj ts) fz) }) ?_ (EvAll.cons ?_ EvAll.nil)) (Nat.le_of_ble_eq_true rfl)
    · refine Ev.eq (Ev.compP (cl := []) (cv := []) (R0 := []) (sl2 rows 0) vKind (fun _ => true) (fun q => vCol q.2.1) (by rw [← sl2_map]; exact EvIter.list (Ev.listW (EvN.ev (EvN.slStep (k := 0) (by walk_at "src") (EvPt.int (by exact Ev.cInt)) (EvPt.int (by exact Ev.cInt)) (Nat.zero_le _) hkz))) (.inl calm_name)) (Seen.none (by decide) rfl (by decide) (by decide)) (hsz 0) ?yt) (by rw [hcm])
      case yt =>
        intro C F0 s0 W pv q hq
        refine ⟨_, As.name (Put.newL rfl rfl), rfl, .nil _, fun _ => ?_⟩
        exact Ev.atT (k := 1) (by walk_at "ev") (by exact Ev.cInt) rfl (Nat.le_of_ble_eq_true rfl)
    · refine Ev.eq (Ev.compP (cl := []) (cv := []) (R0 := []) (sl2 rows 1) vKind (fun _ => true) (fun q => vCol q.2.1) (by rw [← sl2_map]; exact EvIter.list (Ev.listW (EvN.ev (EvN.slStep (k := 1) (by walk_at "src") (EvPt.int (by exact Ev.cInt)) (EvPt.int (by exact Ev.cInt)) hk1 hkz))) (.inl calm_name)) (Seen.none (by decide) rfl (by decide) (by decide)) (hsz 1) ?yt) (by rw [hcm])
      case yt =>
        intro C F0 s0 W pv q hq
        refine ⟨_, As.name (Put.newL rfl rfl), rfl, .nil _, fun _ => ?_⟩
        exact Ev.atT (k := 1) (by walk_at "ev") (by exact Ev.cInt) rfl (Nat.le_of_ble_eq_true rfl)) (by walk_at "put") (by walk_at "put") ?_
  have hso : (someOf rows).length ≤ 9 := by rw [List.length_map]; have := sl2_len rows 0; first | lia | omega
  have hot : (othersOf rows).length ≤ 9 := by rw [List.length_map]; have := sl2_len rows 1; first | lia | omega
  have hsc : ∀ c ∈ someOf rows, 4 ≤ c.length ∧ c.length ≤ 100 := fun c hc => by
    obtain ⟨r, hr', rfl⟩ := List.mem_map.mp hc
    rw [he.cols r (sl2_mem hr')]; first | lia | omega
  have hoc : ∀ c ∈ othersOf rows, 4 ≤ c.length ∧ c.length ≤ 100 := fun c hc => by
    obtain ⟨r, hr', rfl⟩ := List.mem_map.mp hc
    rw [he.cols r (sl2_mem hr')]; first | lia | omega
  have hon := he.one
  have htw := he.two
  have hlev := he.lev
  generalize someOf rows = so at *
  generalize othersOf rows = ot at *
  generalize oneOf rows = on at *
  generalize twoOf rows = tw at *
  have z1 : on.length ≤ sizeLine := by rw [sizeLine_is]; first | lia | omega
  have z2 : tw.length ≤ sizeLine := by rw [sizeLine_is]; first | lia | omega
  have z3 : (cls so).length ≤ sizeLine := by rw [List.length_map, sizeLine_is]; first | lia | omega
  have z4 : (cls ot).length ≤ sizeLine := by rw [List.length_map, sizeLine_is]; first | lia | omega
  have c1 : (on.length : Int) - 1 = ((on.length - 1 : Nat) : Int) := by first | lia | omega
  have c2 : (tw.length : Int) - 1 = ((tw.length - 1 : Nat) : Int) := by first | lia | omega
  refine Exs.forI (EvIter.listT (ps := (pairsOf on.length tw.length).map fun q => vTup [vInt (q.1 : Int), vInt (q.2 : Int)]) (by
      exact EvN.ev (EvN.eq (EvN.disp (EvAll.cons (Ev.tup (EvAll.cons (Ev.lenS (by walk_at "ev") (by walk_at "ev") z1) (EvAll.cons (Ev.lenS (by walk_at "ev") (by walk_at "ev") z2) EvAll.nil)) (Nat.le_of_ble_eq_true rfl)) (EvAll.cons (Ev.tup (EvAll.cons (Ev.eq (Ev.sub (Ev.lenS (by walk_at "ev") (by walk_at "ev") z1) (by walk_at "ev")) (congrArg vInt c1)) (EvAll.cons (Ev.lenS (by walk_at "ev") (by walk_at "ev") z2) EvAll.nil)) (Nat.le_of_ble_eq_true rfl)) (EvAll.cons (Ev.tup (EvAll.cons (Ev.lenS (by walk_at "ev") (by walk_at "ev") z1) (EvAll.cons (Ev.eq (Ev.sub (Ev.lenS (by walk_at "ev") (by walk_at "ev") z2) (by walk_at "ev")) (congrArg vInt c2)) EvAll.nil)) (Nat.le_of_ble_eq_true rfl)) EvAll.nil))) (Nat.le_of_ble_eq_true rfl)) rfl))
      (fun q hq => by obtain ⟨r, _, rfl⟩ := List.mem_map.mp hq; exact ⟨_, rfl⟩))
    (fun k σ => σ = { vars := [(PySem.Str.ofString "others", vList (cls ot)), (PySem.Str.ofString "some", vList (cls so)), (PySem.Str.ofString "two", vStr tw), (PySem.Str.ofString "one", vStr on)], res := (kA, .lst (rows.map vKind)) :: lineT a d pb cl sg co fo fc [] (1 + nls (pageOf rows)) [] (.raw (tabObj ts) fz) }) ⟨_, by walk_at "wk", rfl⟩ (fun k p pv σk hp hi => ?_) fun σk hi => ?_
  · subst hi
    rw [List.getElem?_map] at hp
    obtain ⟨⟨i, j⟩, hij, rfl⟩ := Option.map_eq_some_iff.mp hp
    obtain ⟨l1, l2, l3⟩ := hlev i j (List.mem_of_getElem? hij)
    have hle := least_ok (prog := prog) (w := w) G (so.take i) (ot.take j) (by rw [List.length_take]; first | lia | omega) (by rw [List.length_take]; first | lia | omega) (fun c hc => hsc c (List.take_subset _ _ hc)) (fun c hc => hoc c (List.take_subset _ _ hc))
    have t1 : (cls so).take i = cls (so.take i) := by rw [← List.map_take]
    have t2 : (cls ot).take j = cls (ot.take j) := by rw [← List.map_take]
    have hlen : (so.take i).length + 1 ≤ 60 := by rw [List.length_take]; first | lia | omega
    generalize least (so.take i) (ot.take j) = cost at *
    have v1 := lev_ok (prog := prog) (w := w) G (on.take i) (tw.take j) cost (by rw [List.length_take]; first | lia | omega) (by rw [List.length_take]; first | lia | omega)
    have v2 := lev_ok (prog := prog) (w := w) G (on.take i) (tw.take j) 99 (by rw [List.length_take]; first | lia | omega) (by rw [List.length_take]; first | lia | omega)
    have v3 := lev_ok (prog := prog) (w := w) G (tw.take j) (on.take i) (cost - 1) (by rw [List.length_take]; first | lia | omega) (by rw [List.length_take]; first | lia | omega)
    rw [l1] at v1
    rw [l2] at v2
    rw [l3] at v3
    refine ⟨_, As.tup (AsAll.cons (As.name (by walk_at "put")) (AsAll.cons (As.name (by walk_at "put")) AsAll.nil)), ?_⟩
    refine Exs.assign (p := vInt cost) (by exact Ev.callP (K := KK w) G (by walk_at "isfn") (by walk_at "ev") (EvAll.cons (EvN.ev (EvN.eq (EvN.upto (k := i) (by walk_at "src") (by walk_at "ev") z3) t1)) (EvAll.cons (EvN.ev (EvN.eq (EvN.upto (k := j) (by walk_at "src") (by walk_at "ev") z4) t2)) EvAll.nil)) hle (rm.le hlen)) (As.name (by walk_at "put")) ?_
    refine Exs.iff (c := false) (Tst.eq (b := (false || (false || false))) (Tst.all (TAll.consO ?za fun _ => TAll.consO ?zb fun _ => TAll.nilO)) rfl) (fun h => by cases h) fun _ => ?_
    case za => exact Tst.eq (Tst.neI (Ev.callP (K := KK w) (p := vInt cost) G (by walk_at "isfn") (by walk_at "ev") (EvAll.cons (Ev.eq (Ev.slS (by walk_at "ev") .no (EvPt.int (by walk_at "ev")) z1) (by rw [sl_upto])) (EvAll.cons (Ev.eq (Ev.slS (by walk_at "ev") .no (EvPt.int (by walk_at "ev")) z2) (by rw [sl_upto])) (EvAll.cons (by walk_at "ev") EvAll.nil))) v1 (rm.le (by decide))) (by walk_at "ev")) (by simp)
    case zb => exact Tst.eq (Tst.neI (Ev.callP (K := KK w) (p := vInt cost) G (by walk_at "isfn") (by walk_at "ev") (EvAll.cons (Ev.eq (Ev.slS (by walk_at "ev") .no (EvPt.int (by walk_at "ev")) z1) (by rw [sl_upto])) (EvAll.cons (Ev.eq (Ev.slS (by walk_at "ev") .no (EvPt.int (by walk_at "ev")) z2) (by rw [sl_upto])) (EvAll.cons (by exact Ev.cInt) EvAll.nil))) v2 (rm.le (by decide))) (by walk_at "ev")) (by simp)
    refine Exs.nil (Exs.iff (c := false) (by exact Tst.eq (b := (cost != cost)) (Tst.neI (Ev.callP (K := KK w) (p := vInt cost) G (by walk_at "isfn") (by walk_at "ev") (EvAll.cons (Ev.eq (Ev.slS (by walk_at "ev") .no (EvPt.int (by walk_at "ev")) z2) (by rw [sl_upto])) (EvAll.cons (Ev.eq (Ev.slS (by walk_at "ev") .no (EvPt.int (by walk_at "ev")) z1) (by rw [sl_upto])) (EvAll.cons (by walk_at "ev") EvAll.nil))) v3 (rm.le (by decide))) (by walk_at "ev")) (by simp)) (fun h => by cases h) fun _ => ?_)
    exact Exs.nil (Exs.nil ⟨_, by walk_at "wk", rfl⟩)
  · subst hi
    exact Exs.ret Ev.cBool (hP _ (.there (.there (.there (.there (.there .here))))))
/-! the rows -/
noncomputable def colsF (t : Int) (f m : Nat) : List Int := (List.range 16).map fun (i : Nat) => colAt (splitL (leadFull t f m) [9]) (1 + (i : Int))
noncomputable def key (r : Row) : Int := r.2.1.getD 3 0
structure RowP (t : Int) (r : Row) : Prop where
  len : r.1.length ≤ 14
  blank : blank r.1
  cols : r.2.1 = colsOf r.1
  text : r.2.2.length ≤ 300
  tok : ∀ rest, tok (r.2.2 ++ rest) = some (r.1, rest)
  four : indentOf (wsOf r.1) 4 = key r
  fam : ∃ f m, m < 2 ∧ r.2.1 = colsF t f m ∧ key r = 4 + 2 * (f : Int)
theorem ws_end (e : Nat) (h : e < 4) : isWs (([10, 13, 32, 9] : List Nat).getD e 0) = true := by
  match e, h with
  | 0, _ | 1, _ | 2, _ | 3, _ => rfl
theorem cols_F (t : Int) (f m : Nat) (turn : Int) : colsOf (leadOf t f m turn) = colsF t f m := by
  unfold colsOf colsF NC
  apply List.map_congr_left
  intro i _
  have := lead_cols t f m turn (1 + i) (by first | lia | omega)
  rw [show ((1 + i : Nat) : Int) = 1 + (i : Int) from by first | lia | omega] at this
  exact this
theorem row_p (t cell : Int) : RowP t (rowOf t cell) := by
  obtain ⟨⟨d00, d01⟩, ⟨d10, d11⟩, ⟨d40, d41⟩⟩ := dg_lt cell
  have hf : (dg cell 0).toNat < 6 := by first | lia | omega
  have hm : (dg cell 1).toNat < 2 := by first | lia | omega
  have he : (dg cell 4).toNat < 4 := by first | lia | omega
  have hl := lead_len t (dg cell 0).toNat (dg cell 1).toNat (dg cell 2) hf
  have hb := lead_blank t (dg cell 0).toNat (dg cell 1).toNat (dg cell 2)
  have h4 : colAt (splitL (leadOf t (dg cell 0).toNat (dg cell 1).toNat (dg cell 2)) [9]) 4 = 4 + 2 * ((dg cell 0).toNat : Int) := by
    have := lead_cols t (dg cell 0).toNat (dg cell 1).toNat (dg cell 2) 4 (by decide)
    exact this.trans (full_col4 t _ _ hf)
  refine ⟨hl, hb, rfl, ?_, fun rest => tok_written _ _ _ (ws_end _ he) rest, ?_, (dg cell 0).toNat, (dg cell 1).toNat, hm, cols_F t _ _ _, h4⟩
  · show (written _ _ _).length ≤ 300
    unfold written
    have := wBody_len (wQuo (dg cell 3) (leadOf t (dg cell 0).toNat (dg cell 1).toNat (dg cell 2))) (wOdd (dg cell 3)) (leadOf t (dg cell 0).toNat (dg cell 1).toNat (dg cell 2))
    split <;> simp <;> first | lia | omega
  · have := indent_col (leadOf t (dg cell 0).toNat (dg cell 1).toNat (dg cell 2)) 4 (by decide) hb
    exact this
theorem rows_p (script : List Int) : ∀ r ∈ rowsOf script, RowP script.sum r := fun r hr => by
  obtain ⟨cell, _, rfl⟩ := List.mem_map.mp hr; exact row_p _ cell
theorem rows_ok (script : List Int) : RowsOK (rowsOf script) := by
  refine ⟨?_, fun r hr => by have := (rows_p script r hr).len; first | lia | omega, fun r hr => (rows_p script r hr).text⟩
  unfold rowsOf cellsOf
  simp; first | lia | omega
/-! the letters -/
noncomputable def chr (x : Nat × Bool) : Nat := if x.2 then 65 + x.1 else 97 + x.1
structure LetInv (Z : List ((Nat × Bool) × Row)) : Prop where
  lt : ∀ z ∈ Z, z.1.1 < Z.length
  rel : ∀ z ∈ Z, ∀ w ∈ Z, (z.1 = w.1 ↔ z.2.2.1 = w.2.2.1) ∧ (z.1.1 = w.1.1 ↔ key z.2 = key w.2)
theorem fits_filter {α : Type} (f : α → Bool) (g : α → List Nat) : ∀ Z : List α, fitsOf (Z.map f) (Z.map g) = (Z.filter f).map g
  | [] => rfl
  | z :: Z => by
    have ih := fits_filter f g Z
    unfold fitsOf at ih ⊢
    rw [List.map_cons, List.map_cons, List.zip_cons_cons, List.filter_cons, List.filter_cons]
    by_cases h : f z = true
    · simp only [h, if_true, List.map_cons]; rw [ih]
    · simp only [h]; simpa using ih
theorem swap_chr : ∀ x : Nat × Bool, x.1 < 8 → swapc [chr x] = [chr (x.1, !x.2)] := by
  have : ∀ n : Fin 8, ∀ b : Bool, swapc [chr (n.val, b)] = [chr (n.val, !b)] := by decide +kernel
  intro ⟨n, b⟩ h
  exact this ⟨n, h⟩ b
theorem inv_snoc {Z : List ((Nat × Bool) × Row)} (hZ : LetInv Z) {x : Nat × Bool} {r : Row} (h1 : x.1 < Z.length + 1) (h2 : ∀ w ∈ Z, (x = w.1 ↔ r.2.1 = w.2.2.1) ∧ (x.1 = w.1.1 ↔ key r = key w.2)) : LetInv (Z ++ [(x, r)]) := by
  refine ⟨fun z hz => ?_, fun z hz w hw => ?_⟩
  · rw [List.length_append]
    rcases List.mem_append.mp hz with h | h
    · have := hZ.lt z h; simp; first | lia | omega
    · cases List.mem_singleton.mp h; exact h1
  · rcases List.mem_append.mp hz with a | a <;> rcases List.mem_append.mp hw with b | b
    · exact hZ.rel z a w b
    · cases List.mem_singleton.mp b
      obtain ⟨p, q⟩ := h2 z a
      exact ⟨⟨fun e => (p.mp e.symm).symm, fun e => (p.mpr e.symm).symm⟩, ⟨fun e => (q.mp e.symm).symm, fun e => (q.mpr e.symm).symm⟩⟩
    · cases List.mem_singleton.mp a
      exact h2 w b
    · cases List.mem_singleton.mp a
      cases List.mem_singleton.mp b
      exact ⟨⟨fun _ => rfl, fun _ => rfl⟩, ⟨fun _ => rfl, fun _ => rfl⟩⟩
theorem let_step {Z : List ((Nat × Bool) × Row)} (hZ : LetInv Z) (r : Row) (hk : Z.length < 8) (hnear : ∀ z ∈ Z, (indentOf (wsOf z.2.1) 4 == indentOf (wsOf r.1) 4) = decide (key z.2 = key r))
    (hkey : ∀ z ∈ Z, z.2.2.1 = r.2.1 → key z.2 = key r)
    (hpig : ∀ z ∈ Z, ∀ w ∈ Z, key z.2 = key r → key w.2 = key r → z.2.2.1 = w.2.2.1 ∨ z.2.2.1 = r.2.1 ∨ w.2.2.1 = r.2.1) :
    ∃ x, letStep (Z.map (·.2)) (Z.map fun z => [chr z.1]) r = (Z ++ [(x, r)]).map (fun z => [chr z.1]) ∧ LetInv (Z ++ [(x, r)]) := by
  have hs : sameOf (Z.map (·.2)) r = Z.map fun z => decide (z.2.2.1 = r.2.1) := by unfold sameOf; rw [List.map_map]; rfl
  have hn : nearOf (Z.map (·.2)) r = Z.map fun z => decide (key z.2 = key r) := by
    unfold nearOf; rw [List.map_map]
    exact List.map_congr_left fun z hz => hnear z hz
  unfold letStep letFits
  rw [hs, hn, fits_filter, fits_filter]
  cases hA : Z.filter fun z => decide (z.2.2.1 = r.2.1) with
  | cons z rest =>
    have hz := List.mem_filter.mp (hA ▸ List.mem_cons_self : z ∈ Z.filter fun z => decide (z.2.2.1 = r.2.1))
    have hzr : z.2.2.1 = r.2.1 := of_decide_eq_true hz.2
    refine ⟨z.1, by simp, inv_snoc hZ (by have := hZ.lt z hz.1; first | lia | omega) fun w hw => ?_⟩
    obtain ⟨p, q⟩ := hZ.rel z hz.1 w hw
    rw [← hzr, ← hkey z hz.1 hzr]
    exact ⟨p, q⟩
  | nil =>
    have hno : ∀ w ∈ Z, w.2.2.1 ≠ r.2.1 := fun w hw e => by
      have : w ∈ Z.filter fun z => decide (z.2.2.1 = r.2.1) := List.mem_filter.mpr ⟨hw, decide_eq_true e⟩
      rw [hA] at this; exact List.not_mem_nil this
    rw [if_pos (by rfl)]
    cases hB : Z.filter fun z => decide (key z.2 = key r) with
    | cons z rest =>
      have hz := List.mem_filter.mp (hB ▸ List.mem_cons_self : z ∈ Z.filter fun z => decide (key z.2 = key r))
      have hzr : key z.2 = key r := of_decide_eq_true hz.2
      have hz8 : z.1.1 < 8 := by have := hZ.lt z hz.1; first | lia | omega
      refine ⟨(z.1.1, !z.1.2), by simp [swap_chr z.1 hz8], inv_snoc hZ (by have := hZ.lt z hz.1; show z.1.1 < _; first | lia | omega) fun w hw => ?_⟩
      obtain ⟨p, q⟩ := hZ.rel z hz.1 w hw
      refine ⟨⟨fun e => ?_, fun e => absurd e.symm (hno w hw)⟩, ?_⟩
      · exfalso
        have e1 : z.1.1 = w.1.1 := by rw [← e]
        have e2 : w.1.2 = !z.1.2 := by rw [← e]
        have hne : ¬ z.2.2.1 = w.2.2.1 := fun h => by
          have := p.mpr h
          rw [this] at e2
          cases hb : w.1.2 <;> rw [hb] at e2 <;> cases e2
        have hwr : key w.2 = key r := by rw [← q.mp e1]; exact hzr
        rcases hpig z hz.1 w hw hzr hwr with h | h | h
        · exact hne h
        · exact hno z hz.1 h
        · exact hno w hw h
      · rw [← hzr]; exact q
    | nil =>
      have hno2 : ∀ w ∈ Z, key w.2 ≠ key r := fun w hw e => by
        have : w ∈ Z.filter fun z => decide (key z.2 = key r) := List.mem_filter.mpr ⟨hw, decide_eq_true e⟩
        rw [hB] at this; exact List.not_mem_nil this
      have habc : abc.getD Z.length 0 = chr (Z.length, false) := by
        have : ∀ n : Fin 8, abc.getD n.val 0 = chr (n.val, false) := by decide
        exact this ⟨Z.length, hk⟩
      refine ⟨(Z.length, false), by simp only [List.map_nil, List.nil_append, List.length_map, habc, List.map_append, List.map_cons]; rfl, inv_snoc hZ (Nat.lt_succ_self _) fun w hw => ?_⟩
      have hlt := hZ.lt w hw
      refine ⟨⟨fun e => ?_, fun e => absurd e.symm (hno w hw)⟩, ⟨fun e => ?_, fun e => absurd e.symm (hno2 w hw)⟩⟩
      · rw [← e] at hlt; exact absurd hlt (Nat.lt_irrefl _)
      · rw [← e] at hlt; exact absurd hlt (Nat.lt_irrefl _)
/-! the least cost as a distance -/
noncomputable def dist {α β : Type} (c : α → β → Int) : List α → List β → Int
  | [], ys => 2 * (ys.length : Int)
  | x :: xs, [] => 2 * ((x :: xs).length : Int)
  | x :: xs, y :: ys => min (min (2 + dist c xs (y :: ys)) (2 + dist c (x :: xs) ys)) (c x y + dist c xs ys)
termination_by x y => x.length + y.length
theorem dist_nil {α β : Type} (c : α → β → Int) (ys : List β) : dist c [] ys = 2 * (ys.length : Int) := by rw [dist]
theorem dist_nil' {α β : Type} (c : α → β → Int) (xs : List α) : dist c xs [] = 2 * (xs.length : Int) := by cases xs <;> rw [dist]; simp
theorem dist_cons {α β : Type} (c : α → β → Int) (x : α) (xs : List α) (y : β) (ys : List β) : dist c (x :: xs) (y :: ys) = min (min (2 + dist c xs (y :: ys)) (2 + dist c (x :: xs) ys)) (c x y + dist c xs ys) := by rw [dist]
theorem dist_map {α β γ δ : Type} (c : γ → δ → Int) (f : α → γ) (g : β → δ) : ∀ (xs : List α) (ys : List β), dist c (xs.map f) (ys.map g) = dist (fun x y => c (f x) (g y)) xs ys
  | [], ys => by rw [List.map_nil, dist_nil, dist_nil, List.length_map]
  | x :: xs, [] => by rw [List.map_nil, dist_nil', dist_nil', List.length_map]
  | x :: xs, y :: ys => by
    rw [List.map_cons, List.map_cons, dist_cons, dist_cons, ← dist_map c f g xs ys, ← dist_map c f g xs (y :: ys), ← dist_map c f g (x :: xs) ys]; rfl
termination_by xs ys => xs.length + ys.length
theorem dist_congr {α β : Type} {c d : α → β → Int} : ∀ (xs : List α) (ys : List β), (∀ x ∈ xs, ∀ y ∈ ys, c x y = d x y) → dist c xs ys = dist d xs ys
  | [], ys, _ => by rw [dist_nil, dist_nil]
  | x :: xs, [], _ => by rw [dist_nil', dist_nil']
  | x :: xs, y :: ys, h => by
    rw [dist_cons, dist_cons, dist_congr xs ys fun a ha b hb => h a (List.mem_cons_of_mem _ ha) b (List.mem_cons_of_mem _ hb), dist_congr xs (y :: ys) fun a ha b hb => h a (List.mem_cons_of_mem _ ha) b hb,
      dist_congr (x :: xs) ys fun a ha b hb => h a ha b (List.mem_cons_of_mem _ hb), h x List.mem_cons_self y List.mem_cons_self]
termination_by xs ys => xs.length + ys.length
theorem dist_ins {α β : Type} (c : α → β → Int) (xs : List α) (y : β) (ys : List β) : dist c xs (y :: ys) ≤ 2 + dist c xs ys := by
  cases xs with
  | nil => rw [dist_nil, dist_nil]; simp; omega
  | cons x xs => rw [dist_cons]; omega
theorem dist_del {α β : Type} (c : α → β → Int) (x : α) (xs : List α) (ys : List β) : dist c (x :: xs) ys ≤ 2 + dist c xs ys := by
  cases ys with
  | nil => rw [dist_nil', dist_nil']; simp; omega
  | cons y ys => rw [dist_cons]; omega
/-! alignments -/
inductive Al {α β : Type} (c : α → β → Int) : List α → List β → Int → Prop
  | nil : Al c [] [] 0
  | del {xs ys n} (x : α) : Al c xs ys n → Al c (x :: xs) ys (2 + n)
  | ins {xs ys n} (y : β) : Al c xs ys n → Al c xs (y :: ys) (2 + n)
  | sub {xs ys n} (x : α) (y : β) : Al c xs ys n → Al c (x :: xs) (y :: ys) (c x y + n)
theorem Al.eq {α β : Type} {c : α → β → Int} {xs : List α} {ys : List β} {n m : Int} (h : Al c xs ys n) (e : n = m) : Al c xs ys m := e ▸ h
theorem al_ins {α β : Type} (c : α → β → Int) : ∀ ys : List β, Al c ([] : List α) ys (2 * (ys.length : Int))
  | [] => .nil
  | y :: ys => (al_ins c ys).ins y |>.eq (by simp; first | lia | omega)
theorem al_del {α β : Type} (c : α → β → Int) : ∀ xs : List α, Al c xs ([] : List β) (2 * (xs.length : Int))
  | [] => .nil
  | x :: xs => (al_del c xs).del x |>.eq (by simp; first | lia | omega)
theorem al_dist {α β : Type} (c : α → β → Int) : ∀ (xs : List α) (ys : List β), Al c xs ys (dist c xs ys)
  | [], ys => by rw [dist_nil]; exact al_ins c ys
  | x :: xs, [] => by rw [dist_nil']; exact al_del c (x :: xs)
  | x :: xs, y :: ys => by
    have h1 := (al_dist c xs (y :: ys)).del x
    have h2 := (al_dist c (x :: xs) ys).ins y
    have h3 := (al_dist c xs ys).sub x y
    rw [dist_cons]
    have : (min (min (2 + dist c xs (y :: ys)) (2 + dist c (x :: xs) ys)) (c x y + dist c xs ys) = 2 + dist c xs (y :: ys)) ∨ (min (min (2 + dist c xs (y :: ys)) (2 + dist c (x :: xs) ys)) (c x y + dist c xs ys) = 2 + dist c (x :: xs) ys) ∨ (min (min (2 + dist c xs (y :: ys)) (2 + dist c (x :: xs) ys)) (c x y + dist c xs ys) = c x y + dist c xs ys) := by first | lia | omega
    rcases this with h | h | h <;> rw [h]
    · exact h1
    · exact h2
    · exact h3
termination_by xs ys => xs.length + ys.length
theorem dist_al {α β : Type} {c : α → β → Int} {xs : List α} {ys : List β} {n : Int} (h : Al c xs ys n) : dist c xs ys ≤ n := by
  induction h with
  | nil => rw [dist_nil]; simp
  | @del xs ys n x _ ih => have := dist_del c x xs ys; first | lia | omega
  | @ins xs ys n y _ ih => have := dist_ins c xs y ys; first | lia | omega
  | sub x y _ ih => rw [dist_cons]; first | lia | omega
theorem al_app {α β : Type} {c : α → β → Int} {xs : List α} {ys : List β} {n : Int} (h : Al c xs ys n) {xs' : List α} {ys' : List β} {m : Int} (h' : Al c xs' ys' m) : Al c (xs ++ xs') (ys ++ ys') (n + m) := by
  induction h with
  | nil => exact h'.eq (by first | lia | omega)
  | del x _ ih => exact (ih.del x).eq (by first | lia | omega)
  | ins y _ ih => exact (ih.ins y).eq (by first | lia | omega)
  | sub x y _ ih => exact (ih.sub x y).eq (by first | lia | omega)
theorem al_rev {α β : Type} {c : α → β → Int} {xs : List α} {ys : List β} {n : Int} (h : Al c xs ys n) : Al c xs.reverse ys.reverse n := by
  induction h with
  | nil => exact .nil
  | del x _ ih => rw [List.reverse_cons]; have := al_app ih (Al.nil.del (c := c) x); rw [List.append_nil] at this; exact this.eq (by first | lia | omega)
  | ins y _ ih => rw [List.reverse_cons]; have := al_app ih (Al.nil.ins (c := c) y); rw [List.append_nil] at this; exact this.eq (by first | lia | omega)
  | sub x y _ ih => rw [List.reverse_cons, List.reverse_cons]; exact (al_app ih (Al.nil.sub (c := c) x y)).eq (by first | lia | omega)
theorem al_sym {α β : Type} {c : α → β → Int} {xs : List α} {ys : List β} {n : Int} (h : Al c xs ys n) : Al (fun y x => c x y) ys xs n := by
  induction h with
  | nil => exact .nil
  | del x _ ih => exact ih.ins x
  | ins y _ ih => exact ih.del y
  | sub x y _ ih => exact ih.sub y x
theorem dist_rev {α β : Type} (c : α → β → Int) (xs : List α) (ys : List β) : dist c xs.reverse ys.reverse = dist c xs ys := by
  apply Int.le_antisymm
  · exact dist_al (al_rev (al_dist c xs ys))
  · have := dist_al (al_rev (al_dist c xs.reverse ys.reverse))
    rw [List.reverse_reverse, List.reverse_reverse] at this; exact this
theorem dist_sym {α β : Type} (c : α → β → Int) (xs : List α) (ys : List β) : dist (fun y x => c x y) ys xs = dist c xs ys := by
  apply Int.le_antisymm
  · exact dist_al (al_sym (al_dist c xs ys))
  · exact dist_al (al_sym (al_dist (fun y x => c x y) ys xs))
theorem al_rem {α β : Type} {c : α → β → Int} (h0 : ∀ x y, 0 ≤ c x y) {xs : List α} {zs : List β} {n : Int} (h : Al c xs zs n) : ∀ y ys, zs = y :: ys → ∃ m, m ≤ 2 + n ∧ Al c xs ys m := by
  induction h with
  | nil => intro y ys e; cases e
  | del x _ ih => intro y ys e; obtain ⟨m, hm, ha⟩ := ih y ys e; exact ⟨2 + m, by first | lia | omega, ha.del x⟩
  | ins z h ih => intro y ys e; cases e; exact ⟨_, by first | lia | omega, h⟩
  | sub x z h ih => intro y ys e; cases e; exact ⟨_, by have := h0 x z; first | lia | omega, h.del x⟩
theorem dist_rem {α β : Type} {c : α → β → Int} (h0 : ∀ x y, 0 ≤ c x y) (xs : List α) (y : β) (ys : List β) : dist c xs ys ≤ 2 + dist c xs (y :: ys) := by
  obtain ⟨m, hm, ha⟩ := al_rem h0 (al_dist c xs (y :: ys)) y ys rfl
  have := dist_al ha; first | lia | omega
theorem dist_rem' {α β : Type} {c : α → β → Int} (h0 : ∀ x y, 0 ≤ c x y) (x : α) (xs : List α) (ys : List β) : dist c xs ys ≤ 2 + dist c (x :: xs) ys := by
  have := dist_rem (c := fun y x => c x y) (fun y x => h0 x y) ys x xs
  rw [dist_sym c xs ys, dist_sym c (x :: xs) ys] at this; exact this
theorem al_low {α β : Type} {c : α → β → Int} (h0 : ∀ x y, 0 ≤ c x y) {xs : List α} {ys : List β} {n : Int} (h : Al c xs ys n) : 2 * ((ys.length : Int) - (xs.length : Int)) ≤ n := by
  induction h with
  | nil => simp
  | del x _ ih => simp; first | lia | omega
  | ins y _ ih => simp; first | lia | omega
  | sub x y _ ih => have := h0 x y; simp; first | lia | omega
theorem dist_low {α β : Type} {c : α → β → Int} (h0 : ∀ x y, 0 ≤ c x y) (xs : List α) (ys : List β) : 2 * ((ys.length : Int) - (xs.length : Int)) ≤ dist c xs ys := al_low h0 (al_dist c xs ys)
theorem dist_head {α : Type} {c : α → α → Int} (h0 : ∀ x y, 0 ≤ c x y) (x : α) (hx : c x x = 0) (xs ys : List α) : dist c (x :: xs) (x :: ys) = dist c xs ys := by
  have h1 := dist_rem h0 xs x ys
  have h2 := dist_rem' h0 x xs ys
  rw [dist_cons, hx]; first | lia | omega
theorem pig {t : Int} {z w r : Row} (hz : RowP t z) (hw : RowP t w) (hr : RowP t r) (h1 : key z = key r) (h2 : key w = key r) : z.2.1 = w.2.1 ∨ z.2.1 = r.2.1 ∨ w.2.1 = r.2.1 := by
  obtain ⟨f1, m1, b1, c1, k1⟩ := hz.fam
  obtain ⟨f2, m2, b2, c2, k2⟩ := hw.fam
  obtain ⟨f3, m3, b3, c3, k3⟩ := hr.fam
  have e1 : f1 = f3 := by first | lia | omega
  have e2 : f2 = f3 := by first | lia | omega
  subst e1 e2
  have : m1 = m2 ∨ m1 = m3 ∨ m2 = m3 := by first | lia | omega
  rcases this with h | h | h <;> subst h
  · exact .inl (c1.trans c2.symm)
  · exact .inr (.inl (c1.trans c3.symm))
  · exact .inr (.inr (c2.trans c3.symm))
theorem letters_all (script : List Int) : ∀ k, k ≤ (rowsOf script).length → ∃ Z : List ((Nat × Bool) × Row), Z.map (·.2) = (rowsOf script).take k ∧ letAt (rowsOf script) k = Z.map (fun z => [chr z.1]) ∧ LetInv Z
  | 0, _ => ⟨[], rfl, rfl, fun z hz => (List.not_mem_nil hz).elim, fun z hz => (List.not_mem_nil hz).elim⟩
  | k + 1, hk => by
    obtain ⟨Z, hZr, hZl, hZ⟩ := letters_all script k (by first | lia | omega)
    have hlen := (rows_ok script).len
    have hk' : k < (rowsOf script).length := by first | lia | omega
    obtain ⟨r, hr⟩ : ∃ r, (rowsOf script)[k]? = some r := ⟨_, List.getElem?_eq_getElem hk'⟩
    have hrm := List.mem_of_getElem? hr
    have hrp := rows_p script r hrm
    have hzp : ∀ z ∈ Z, RowP script.sum z.2 := fun z hz => rows_p script z.2 (List.take_subset _ _ (hZr ▸ List.mem_map.mpr ⟨z, hz, rfl⟩))
    have hZn : Z.length = k := by have := congrArg List.length hZr; rw [List.length_map, List.length_take] at this; first | lia | omega
    obtain ⟨x, hx, hinv⟩ := let_step hZ r (by first | lia | omega) (fun z hz => by
        rw [(hzp z hz).four, hrp.four, Bool.eq_iff_iff]; simp) (fun z hz e => by unfold key; rw [e]) (fun z hz w hw h1 h2 => pig (hzp z hz) (hzp w hw) hrp h1 h2)
    refine ⟨Z ++ [(x, r)], ?_, ?_, hinv⟩
    · rw [List.map_append, hZr, take_snoc hr]; rfl
    · show (match (rowsOf script)[k]? with | some r => letStep ((rowsOf script).take k) (letAt (rowsOf script) k) r | none => letAt (rowsOf script) k) = _
      rw [hr]
      show letStep _ _ r = _
      rw [← hZr, hZl, hx]
theorem chr_lt (x : Nat × Bool) (h : x.1 < 8) : chr x < 128 := by unfold chr; split <;> first | lia | omega
theorem law_facts (script : List Int) : LawFacts (rowsOf script) := by
  have hp := rows_p script
  refine ⟨fun r hr => (hp r hr).tok, fun r hr => ?_, fun q hq r hr => ?_, fun k hk => ?_⟩
  · rw [(hp r hr).cols]; exact cols_indent r.1 (hp r hr).blank
  · rw [(hp q hq).cols, (hp r hr).cols]
    have := norm_eq q.1 r.1 (hp q hq).len (hp r hr).len (hp q hq).blank (hp r hr).blank
    rw [decide_eq_decide]; exact this
  · obtain ⟨Z, hZr, hZl, hZ⟩ := letters_all script k hk
    have hZn : Z.length = k := by have := congrArg List.length hZr; rw [List.length_map, List.length_take] at this; first | lia | omega
    have hlen := (rows_ok script).len
    rw [hZl]
    refine ⟨by rw [List.length_map, hZn], fun l hl => ?_⟩
    obtain ⟨z, hz, rfl⟩ := List.mem_map.mp hl
    exact ⟨_, rfl, chr_lt z.1 (by have := hZ.lt z hz; first | lia | omega)⟩
theorem fold_min (g : Nat → Int) : ∀ (l : List Nat) (a b : Int), l.foldl (fun l k => min l (g k)) (min a b) = min a (l.foldl (fun l k => min l (g k)) b)
  | [], a, b => rfl
  | k :: l, a, b => by rw [List.foldl_cons, List.foldl_cons, Int.min_assoc, fold_min g l]
theorem fold_add (g : Nat → Int) (c : Int) : ∀ (l : List Nat) (a : Int), l.foldl (fun l k => min l (c + g k)) (c + a) = c + l.foldl (fun l k => min l (g k)) a
  | [], a => rfl
  | k :: l, a => by
    rw [List.foldl_cons, List.foldl_cons, ← fold_add g c l]
    congr 1
    first | lia | omega
theorem least_dist : ∀ (p o : List (List Int)), least p o = dist tollOf p o
  | [], o => by rw [least, dist_nil]
  | p :: ps, [] => by rw [least, if_pos rfl, dist_nil']
  | p :: ps, q :: o => by
    have e1 := least_dist ps (q :: o)
    have e2 := least_dist ps o
    have e3 := least_dist (p :: ps) o
    have hA : least ps (q :: o) ≤ 2 + least ps o := by rw [e1, e2]; exact dist_ins _ _ _ _
    rw [least, if_neg (by simp), dist_cons, ← e1, ← e2, ← e3, List.length_cons, List.range_succ_eq_map, List.foldl_cons, List.foldl_map]
    show (List.range o.length).foldl (fun l k => min l (2 * ((k + 1 : Nat) : Int) + tollOf p (o.getD k []) + least ps (o.drop (k + 1)))) (min (2 + least ps (q :: o)) (2 * ((0 : Nat) : Int) + tollOf p q + least ps o)) = _
    have hg : (fun (l : Int) (k : Nat) => min l (2 * ((k + 1 : Nat) : Int) + tollOf p (o.getD k []) + least ps (o.drop (k + 1)))) = fun (l : Int) (k : Nat) => min l (2 + (2 * (k : Int) + tollOf p (o.getD k []) + least ps (o.drop (k + 1)))) := by
      funext l k; congr 1; first | lia | omega
    rw [hg]
    cases o with
    | nil =>
      have : dist tollOf ps [] = 2 * (ps.length : Int) := dist_nil' _ _
      rw [least, if_pos rfl]
      simp only [List.length_nil, List.range_zero, List.foldl_nil, List.length_cons]
      rw [e2] at hA
      rw [this] at hA
      first | lia | omega
    | cons q2 o =>
      rw [least, if_neg (by simp)]
      have h1 := fold_add (fun k : Nat => 2 * (k : Int) + tollOf p ((q2 :: o).getD k []) + least ps ((q2 :: o).drop (k + 1))) 2 (List.range (q2 :: o).length) (2 + least ps (q2 :: o))
      rw [← h1]
      generalize hF : (fun (l : Int) (k : Nat) => min l (2 + (2 * (k : Int) + tollOf p ((q2 :: o).getD k []) + least ps ((q2 :: o).drop (k + 1))))) = F at *
      have h2 := fold_min (fun k : Nat => 2 + (2 * (k : Int) + tollOf p ((q2 :: o).getD k []) + least ps ((q2 :: o).drop (k + 1)))) (List.range (q2 :: o).length) (min (2 + least ps (q :: q2 :: o)) (2 * ((0 : Nat) : Int) + tollOf p q + least ps (q2 :: o))) (2 + (2 + least ps (q2 :: o)))
      rw [hF] at h2
      have h3 : min (min (2 + least ps (q :: q2 :: o)) (2 * ((0 : Nat) : Int) + tollOf p q + least ps (q2 :: o))) (2 + (2 + least ps (q2 :: o))) = min (2 + least ps (q :: q2 :: o)) (2 * ((0 : Nat) : Int) + tollOf p q + least ps (q2 :: o)) := by first | lia | omega
      rw [h3] at h2
      rw [h2]
      first | lia | omega
termination_by p o => p.length + o.length
/-! _levenshtein_distance gives the distance -/
noncomputable def sc (a b : Nat) : Int := subc [a] [b]
theorem sc_range (a b : Nat) : 0 ≤ sc a b ∧ sc a b ≤ 2 := by unfold sc subc; split <;> (try split) <;> first | lia | omega
theorem sc_self (a : Nat) : sc a a = 0 := by unfold sc subc; rw [if_pos (by simp)]
theorem sc_sym (a b : Nat) : sc a b = sc b a := by
  unfold sc subc
  have h : ∀ x y : List Nat, (x == y) = (y == x) := fun x y => by
    rw [Bool.eq_iff_iff, beq_iff_eq, beq_iff_eq]; exact ⟨Eq.symm, Eq.symm⟩
  rw [h [a] [b], h (S2 (Txt.lower (L2S [a])))]
theorem dist_pre : ∀ (a b : List Nat), dist sc (a.drop (comPre a b)) (b.drop (comPre a b)) = dist sc a b
  | [], b => by simp [comPre]
  | x :: a, [] => by simp [comPre]
  | x :: a, y :: b => by
    unfold comPre
    by_cases h : x = y
    · subst h
      rw [if_pos rfl, List.drop_succ_cons, List.drop_succ_cons, dist_pre a b, dist_head (fun x y => (sc_range x y).1) x (sc_self x)]
    · rw [if_neg h]; rfl
theorem dist_post (a b : List Nat) : dist sc (cutPost a (comPre a.reverse b.reverse)) (cutPost b (comPre a.reverse b.reverse)) = dist sc a b := by
  unfold cutPost
  rw [dist_rev, dist_pre, dist_rev]
section dp
variable (a b : List Nat)
noncomputable def EE (i j : Nat) : Int := dist sc ((b.take i).reverse) ((a.take j).reverse)
theorem EE_left (j : Nat) (h : j ≤ a.length) : EE a b 0 j = 2 * (j : Int) := by
  unfold EE; rw [List.take_zero, List.reverse_nil, dist_nil, List.length_reverse, List.length_take, Nat.min_eq_left h]
theorem EE_right (i : Nat) (h : i ≤ b.length) : EE a b i 0 = 2 * (i : Int) := by
  unfold EE; rw [List.take_zero, List.reverse_nil, dist_nil', List.length_reverse, List.length_take, Nat.min_eq_left h]
theorem EE_succ {i j y x : Nat} (hy : b[i]? = some y) (hx : a[j]? = some x) : EE a b (i + 1) (j + 1) = min (min (2 + EE a b i (j + 1)) (2 + EE a b (i + 1) j)) (sc y x + EE a b i j) := by
  unfold EE
  rw [take_snoc hy, take_snoc hx, List.reverse_append, List.reverse_append]
  show dist sc (y :: (b.take i).reverse) (x :: (a.take j).reverse) = _
  rw [dist_cons]; rfl
noncomputable def rowE (i j : Nat) : List Int := (List.range (a.length - j)).map fun (k : Nat) => EE a b i (j + k + 1)
theorem rowE_cons (i j : Nat) (h : j < a.length) : rowE a b i j = EE a b i (j + 1) :: rowE a b i (j + 1) := by
  unfold rowE
  rw [show a.length - j = (a.length - (j + 1)) + 1 from by first | lia | omega, List.range_succ_eq_map, List.map_cons, List.map_map]
  congr 1
  apply List.map_congr_left
  intro k _
  show EE a b i (j + (k + 1) + 1) = EE a b i (j + 1 + k + 1)
  congr 1; first | lia | omega
theorem lvRow_E {i y : Nat} (hy : b[i]? = some y) : ∀ (d j : Nat), a.length - j = d → lvRow y (EE a b i j) (EE a b (i + 1) j) (a.drop j) (rowE a b i j) = rowE a b (i + 1) j
  | 0, j, h => by
    have e : a.drop j = [] := List.drop_eq_nil_of_le (by first | lia | omega)
    unfold rowE
    rw [e, h]; simp [lvRow]
  | d + 1, j, h => by
    have hj : j < a.length := by first | lia | omega
    have hx : a[j]? = some a[j] := List.getElem?_eq_getElem hj
    rw [drop_at hx, rowE_cons a b i j hj, rowE_cons a b (i + 1) j hj, lvRow]
    have e : min (min (EE a b (i + 1) j) (EE a b i (j + 1)) + 2) (EE a b i j + subc [y] [a[j]]) = EE a b (i + 1) (j + 1) := by
      rw [EE_succ a b hy hx]; unfold sc; first | lia | omega
    rw [e, lvRow_E hy d (j + 1) (by first | lia | omega)]
theorem lvRow_0 {i y : Nat} (hy : b[i]? = some y) (ha : a ≠ []) : lvRow y (2 * (i : Int)) (2 * (i : Int)) a (rowE a b i 0) = rowE a b (i + 1) 0 := by
  have hi : i < b.length := (List.getElem?_eq_some_iff.mp hy).1
  cases a with
  | nil => exact absurd rfl ha
  | cons x a' =>
    have h0 : 0 < (x :: a').length := Nat.succ_pos _
    have h1 := EE_right (x :: a') b i (by omega)
    have h2 := EE_right (x :: a') b (i + 1) (by omega)
    have hs := sc_range y x
    have hr := lvRow_E (x :: a') b hy ((x :: a').length - 1) 1 rfl
    rw [List.drop_succ_cons, List.drop_zero] at hr
    rw [rowE_cons (x :: a') b i 0 h0, rowE_cons (x :: a') b (i + 1) 0 h0]
    have hE := EE_succ (x :: a') b (j := 0) hy (show (x :: a')[0]? = some x from rfl)
    rw [Nat.zero_add] at hE ⊢
    rw [lvRow]
    have e2 : min (min (2 * (i : Int)) (EE (x :: a') b i 1) + 2) (2 * (i : Int) + subc [y] [x]) = EE (x :: a') b (i + 1) 1 := by
      rw [hE, h1, h2]; unfold sc at *; omega
    rw [e2, hr]
theorem minOf_le : ∀ (l : List Int) (m : Int), minOf m l ≤ m ∧ ∀ x ∈ l, minOf m l ≤ x
  | [], m => ⟨Int.le_refl _, fun x h => (List.not_mem_nil h).elim⟩
  | y :: l, m => by
    obtain ⟨h1, h2⟩ := minOf_le l (min m y)
    have e : minOf m (y :: l) = minOf (min m y) l := rfl
    rw [e]
    refine ⟨by first | lia | omega, fun x hx => ?_⟩
    rcases List.mem_cons.mp hx with h | h
    · subst h; first | lia | omega
    · exact h2 x h
theorem gt_cut {i : Nat} {mx : Int} (hi : i < b.length) (ha : a ≠ []) (h : mx < minOf 9223372036854775807 (rowE a b (i + 1) 0)) : ∀ j, j ≤ a.length → mx < EE a b (i + 1) j := by
  have h0 : 0 < a.length := List.length_pos_iff.mpr ha
  have hpos : ∀ j, j < a.length → mx < EE a b (i + 1) (j + 1) := fun j hj => by
    have := (minOf_le (rowE a b (i + 1) 0) 9223372036854775807).2 (EE a b (i + 1) (0 + j + 1)) (List.mem_map.mpr ⟨j, by simpa using hj, rfl⟩)
    rw [Nat.zero_add] at this; first | lia | omega
  intro j hj
  cases j with
  | succ j => exact hpos j (by first | lia | omega)
  | zero =>
    have hx : a[0]? = some a[0] := List.getElem?_eq_getElem h0
    have hy : b[i]? = some b[i] := List.getElem?_eq_getElem hi
    have h1 := EE_right a b i (by first | lia | omega)
    have h2 := EE_right a b (i + 1) (by first | lia | omega)
    have hE := EE_succ a b hy hx
    have hs := sc_range b[i] a[0]
    have := hpos 0 h0
    rw [hE, h1, h2] at this
    rw [h2]; first | lia | omega
theorem gt_step {i : Nat} {mx : Int} (hi : i < b.length) (h : ∀ j, j ≤ a.length → mx < EE a b i j) : ∀ j, j ≤ a.length → mx < EE a b (i + 1) j
  | 0, _ => by
    have := h 0 (Nat.zero_le _)
    rw [EE_right a b i (by first | lia | omega)] at this
    rw [EE_right a b (i + 1) (by first | lia | omega)]; first | lia | omega
  | j + 1, hj => by
    have hx : a[j]? = some a[j] := List.getElem?_eq_getElem (by first | lia | omega)
    have hy : b[i]? = some b[i] := List.getElem?_eq_getElem hi
    have ih := gt_step hi h j (by first | lia | omega)
    have h1 := h j (by first | lia | omega)
    have h2 := h (j + 1) hj
    have hs := sc_range b[i] a[j]
    rw [EE_succ a b hy hx]; first | lia | omega
theorem gt_end {mx : Int} : ∀ (d i : Nat), b.length - i = d → i ≤ b.length → (∀ j, j ≤ a.length → mx < EE a b i j) → mx < EE a b b.length a.length
  | 0, i, hd, hi, h => by
    have : i = b.length := by omega
    subst this; exact h a.length (Nat.le_refl _)
  | d + 1, i, hd, hi, h => gt_end d (i + 1) (by omega) (by omega) (gt_step a b (by omega) h)
theorem lvGo_E {mx : Int} (ha : a ≠ []) : ∀ (d i : Nat), b.length - i = d → i ≤ b.length →
    lvGo a mx i (b.drop i) (rowE a b i 0) = some (rowE a b b.length 0) ∨ (lvGo a mx i (b.drop i) (rowE a b i 0) = none ∧ mx < EE a b b.length a.length)
  | 0, i, hd, hi => by
    have : i = b.length := by first | lia | omega
    subst this
    rw [List.drop_length, lvGo]; exact .inl rfl
  | d + 1, i, hd, hi => by
    have hib : i < b.length := by first | lia | omega
    have hy : b[i]? = some b[i] := List.getElem?_eq_getElem hib
    rw [drop_at hy, lvGo, lvRow_0 a b hy ha]
    by_cases hc : mx < minOf 9223372036854775807 (rowE a b (i + 1) 0)
    · rw [if_pos hc]
      exact .inr ⟨rfl, gt_end a b _ (i + 1) rfl (by first | lia | omega) (gt_cut a b hib ha hc)⟩
    · rw [if_neg hc]
      exact lvGo_E ha d (i + 1) (by first | lia | omega) (by first | lia | omega)
theorem EE_end : EE a b b.length a.length = dist sc a b := by
  unfold EE
  rw [List.take_length, List.take_length, dist_rev, ← dist_sym sc a b]
  exact dist_congr _ _ fun x _ y _ => sc_sym x y
theorem row0_E : row0 a.length = rowE a b 0 0 := by
  unfold row0 rowE
  rw [Nat.sub_zero]
  apply List.map_congr_left
  intro k hk
  have hk' : k < a.length := by simpa using hk
  rw [EE_left a b (0 + k + 1) (by first | lia | omega)]; first | lia | omega
theorem rowE_last (ha : a ≠ []) (i : Nat) : (rowE a b i 0).getLastD 0 = EE a b i a.length := by
  have h0 : 0 < a.length := List.length_pos_iff.mpr ha
  unfold rowE
  rw [show a.length - 0 = (a.length - 1) + 1 from by first | lia | omega, List.range_succ, List.map_append]
  rw [show [a.length - 1].map (fun (k : Nat) => EE a b i (0 + k + 1)) = [EE a b i a.length] from by
    show [EE a b i (0 + (a.length - 1) + 1)] = _
    rw [show 0 + (a.length - 1) + 1 = a.length from by first | lia | omega]]
  exact getLastD_snoc _ _ _
end dp
theorem lev2_dist (a b : List Nat) (mx : Int) (ha : a ≠ []) : lev2 a b mx = dist sc a b ∨ (mx < dist sc a b ∧ lev2 a b mx = mx + 1) := by
  unfold lev2
  by_cases h : mx < ((b.length : Int) - (a.length : Int)) * 2
  · rw [if_pos h]
    have := dist_low (c := sc) (fun x y => (sc_range x y).1) a b
    exact .inr ⟨by first | lia | omega, rfl⟩
  · rw [if_neg h, row0_E a b]
    have hE := EE_end a b
    rcases lvGo_E a b (mx := mx) ha b.length 0 (Nat.sub_zero _) (Nat.zero_le _) with e | ⟨e, hg⟩
    · rw [List.drop_zero] at e
      rw [e]
      exact .inl (by show (rowE a b b.length 0).getLastD 0 = _; rw [rowE_last a b ha, hE])
    · rw [List.drop_zero] at e
      rw [e]
      exact .inr ⟨by rw [← hE]; exact hg, rfl⟩
theorem lev3_dist (a b : List Nat) (mx : Int) (ha : a.length ≤ 40) (hb : b.length ≤ 40) : lev3 a b mx = dist sc a b ∨ (mx < dist sc a b ∧ lev3 a b mx = mx + 1) := by
  unfold lev3
  by_cases h : a = [] ∨ b = []
  · rw [if_pos h]
    left
    rcases h with h | h
    · subst h; rw [dist_nil]; simp
    · subst h; rw [dist_nil']; simp
  · rw [if_neg h, if_neg (by first | lia | omega)]
    by_cases hl : b.length < a.length
    · rw [if_pos hl]
      have e : dist sc b a = dist sc a b := by rw [← dist_sym sc a b]; exact dist_congr _ _ fun x _ y _ => sc_sym x y
      rw [← e]
      exact lev2_dist b a mx fun q => h (.inr q)
    · rw [if_neg hl]; exact lev2_dist a b mx fun q => h (.inl q)
theorem lev_dist (a b : List Nat) (mx : Int) (ha : a.length ≤ 40) (hb : b.length ≤ 40) : lev a b mx = dist sc a b ∨ (mx < dist sc a b ∧ lev a b mx = mx + 1) := by
  unfold lev
  by_cases h : a = b
  · rw [if_pos h]
    left
    subst h
    have : ∀ a : List Nat, dist sc a a = 0 := fun a => by
      induction a with
      | nil => rw [dist_nil]; rfl
      | cons x a ih => rw [dist_head (fun x y => (sc_range x y).1) x (sc_self x), ih]
    rw [this]
  · rw [if_neg h]
    have h1 := dist_pre a b
    have hla : (cutPre a (comPre a b)).length ≤ 40 := by unfold cutPre; rw [List.length_drop]; omega
    have hlb : (cutPre b (comPre a b)).length ≤ 40 := by unfold cutPre; rw [List.length_drop]; omega
    have h2 := dist_post (cutPre a (comPre a b)) (cutPre b (comPre a b))
    have h3 : dist sc (cutPre a (comPre a b)) (cutPre b (comPre a b)) = dist sc a b := h1
    rw [← h3, ← h2]
    refine lev3_dist _ _ mx ?_ ?_
    · rw [cutPost_take, List.length_take]; omega
    · rw [cutPost_take, List.length_take]; omega
theorem sl2_length {α : Type} (l : List α) (k : Nat) : (sl2 l k).length = (l.length + 1 - k) / 2 := by
  unfold sl2
  have : ∀ n, (∀ i, i < n → k + 2 * i < l.length) → ((List.range n).filterMap fun i => l[k + 2 * i]?).length = n := by
    intro n
    induction n with
    | zero => intro _; rfl
    | succ n ih =>
      intro h
      rw [List.range_succ, List.filterMap_append, List.length_append, ih fun i hi => h i (by omega)]
      rw [List.filterMap_cons, List.getElem?_eq_getElem (h n (by omega))]
      simp
  exact this _ fun i hi => by omega
theorem flat_one {α : Type} (f : α → Nat) : ∀ l : List α, (l.map fun z => [f z]).flatten = l.map f
  | [] => rfl
  | z :: l => by rw [List.map_cons, List.flatten_cons, flat_one f l]; rfl
theorem dist_up {α β : Type} (c : α → β → Int) (xs : List α) (ys : List β) : dist c xs ys ≤ 2 * (xs.length : Int) + 2 * (ys.length : Int) := by
  have := dist_al (al_app (al_del c xs) (al_ins c ys))
  rw [List.append_nil, List.nil_append] at this; exact this
theorem sc_chr (x y : Nat × Bool) (hx : x.1 < 8) (hy : y.1 < 8) : sc (chr x) (chr y) = if x = y then 0 else if x.1 = y.1 then 1 else 2 := by
  have : ∀ n : Fin 8, ∀ b : Bool, ∀ m : Fin 8, ∀ d : Bool, sc (chr (n.val, b)) (chr (m.val, d)) = if (n.val, b) = (m.val, d) then 0 else if n.val = m.val then 1 else 2 := by decide +kernel
  obtain ⟨n, b⟩ := x
  obtain ⟨m, d⟩ := y
  exact this ⟨n, hx⟩ b ⟨m, hy⟩ d
theorem end_facts (script : List Int) : EndFacts (rowsOf script) := by
  obtain ⟨Z, hZr, hZl, hZ⟩ := letters_all script _ (Nat.le_refl _)
  rw [List.take_length] at hZr
  have hlen := (rows_ok script).len
  have hZn : Z.length = (rowsOf script).length := by rw [← hZr, List.length_map]
  have h8 : ∀ z ∈ Z, z.1.1 < 8 := fun z hz => by have := hZ.lt z hz; first | lia | omega
  have hone : oneOf (rowsOf script) = (sl2 Z 0).map fun z => chr z.1 := by
    show (sl2 (letAt _ _) 0).flatten = _
    rw [hZl, sl2_map, flat_one]
  have htwo : twoOf (rowsOf script) = (sl2 Z 1).map fun z => chr z.1 := by
    show (sl2 (letAt _ _) 1).flatten = _
    rw [hZl, sl2_map, flat_one]
  have hso : someOf (rowsOf script) = (sl2 Z 0).map fun z => z.2.2.1 := by
    show (sl2 (rowsOf script) 0).map _ = _
    rw [← hZr, sl2_map, List.map_map]; rfl
  have hot : othersOf (rowsOf script) = (sl2 Z 1).map fun z => z.2.2.1 := by
    show (sl2 (rowsOf script) 1).map _ = _
    rw [← hZr, sl2_map, List.map_map]; rfl
  have l0 := sl2_length Z 0
  have l1 := sl2_length Z 1
  refine ⟨fun r hr => ?_, by rw [hone, List.length_map, l0]; first | lia | omega, by rw [htwo, List.length_map, l1]; first | lia | omega, fun i j _ => ?_⟩
  · rw [(rows_p script r hr).cols]; unfold colsOf NC; simp
  · have hcost : ∀ z ∈ (sl2 Z 0).take i, ∀ w ∈ (sl2 Z 1).take j, sc (chr z.1) (chr w.1) = tollOf z.2.2.1 w.2.2.1 := fun z hz w hw => by
      have hz' := sl2_mem (List.take_subset _ _ hz)
      have hw' := sl2_mem (List.take_subset _ _ hw)
      obtain ⟨p, q⟩ := hZ.rel z hz' w hw'
      rw [sc_chr _ _ (h8 z hz') (h8 w hw')]
      unfold tollOf
      have hk : (z.1.1 = w.1.1) ↔ (z.2.2.1.getD 3 0 = w.2.2.1.getD 3 0) := q
      by_cases hx : z.1 = w.1
      · rw [if_pos hx, if_pos (hk.mp (by rw [hx])), if_pos (p.mp hx)]
      · rw [if_neg hx]
        by_cases hy : z.1.1 = w.1.1
        · rw [if_pos hy, if_pos (hk.mp hy), if_neg fun e => hx (p.mpr e)]
        · rw [if_neg hy, if_neg fun e => hy (hk.mpr e)]
    have hD : dist sc ((oneOf (rowsOf script)).take i) ((twoOf (rowsOf script)).take j) = least ((someOf (rowsOf script)).take i) ((othersOf (rowsOf script)).take j) := by
      rw [hone, htwo, hso, hot, least_dist, ← List.map_take, ← List.map_take, ← List.map_take, ← List.map_take, dist_map, dist_map]
      exact dist_congr _ _ hcost
    have hla : ((oneOf (rowsOf script)).take i).length ≤ 8 := by rw [hone, List.length_take, List.length_map, l0]; first | lia | omega
    have hlb : ((twoOf (rowsOf script)).take j).length ≤ 8 := by rw [htwo, List.length_take, List.length_map, l1]; first | lia | omega
    have hup := dist_up sc ((oneOf (rowsOf script)).take i) ((twoOf (rowsOf script)).take j)
    have hS : dist sc ((twoOf (rowsOf script)).take j) ((oneOf (rowsOf script)).take i) = dist sc ((oneOf (rowsOf script)).take i) ((twoOf (rowsOf script)).take j) := by
      rw [← dist_sym sc ((oneOf (rowsOf script)).take i)]; exact dist_congr _ _ fun x _ y _ => sc_sym x y
    rw [← hD]
    generalize (oneOf (rowsOf script)).take i = u at *
    generalize (twoOf (rowsOf script)).take j = v at *
    refine ⟨?_, ?_, ?_⟩
    · rcases lev_dist u v (dist sc u v) (by first | lia | omega) (by first | lia | omega) with h | ⟨h, _⟩
      · exact h
      · first | lia | omega
    · rcases lev_dist u v 99 (by first | lia | omega) (by first | lia | omega) with h | ⟨h, _⟩
      · exact h
      · first | lia | omega
    · rcases lev_dist v u (dist sc u v - 1) (by first | lia | omega) (by first | lia | omega) with h | ⟨_, h⟩
      · rw [h, hS]
      · rw [h]; first | lia | omega
theorem law_runs {prog : Program} {w : World} {A : Around} {g : Heap} {L fa : Addr} {cd : Value} {F : FH} {s : Shared} (G : Grd (KK w) g) (LG : LamG g 163 159) (rm : Room (lawCx prog w A g (lawFn w).fd L fa cd F s).A 60) (script : List Int) (hs : script.length ≤ 63) (P : Out → Prop) (hP : ∀ R ts fz, RAt 159 (.raw (tabObj ts) fz) R → P (.rt (vBool true) R)) :
    Exs (lawCx prog w A g (lawFn w).fd L fa cd F s) { vars := [(PySem.Str.ofString "script", vListW (script.map vInt))], res := [(159, .raw (tabObj #[]) [])] } (lawFn w).body P :=
  law1 G LG rm script hs P (law2 G LG rm script (rowsOf script) (rows_ok script) P fun sg a d pb cl co fo fc fd ts fz hfo hro =>
    law3 G rm script (rowsOf script) (rows_ok script) (law_facts script) hfo hro P fun kA =>
      law4 G rm (rowsOf script) (rows_ok script) (law_facts script) (end_facts script) hfo hro P (fun R h => hP R ts fz h) kA)
theorem rds_intsAre {F : FH} : ∀ {vs : List Value} {ns : List Int}, IntsAre vs ns → Rds F (ns.map vInt) vs
  | _, _, .nil => .nil
  | _, _, .cons n t h => .cons ⟨t, rfl⟩ (rds_intsAre h)
theorem law_fin {prog : Program} {w : World} {s₁ : Shared} {h₁ : Heap} {tk : Tok} {fa : Addr} {cd : Value} {m mg mb : PySem.Str → Option Value} {mean : ExcName → Option Value} {p : Program} {loose : List PySem.Str} {a : Addr} {o1 o2 : Obj} {v1 v2 : Option Value} {vs : List Value} {ns : List Int}
    (X : (KK w).In (ghostOf s₁.heap [(163, 159)])) (T : Top p loose mean mg mb (ghostOf s₁.heap [(163, 159)])) (Fr₁ : Fr (ghostOf s₁.heap [(163, 159)]) s₁.heap.objs.size h₁ m) (hm : m (PySem.Str.ofString "script") = some (.ref a))
    (N : News (ghostOf s₁.heap [(163, 159)]) s₁.heap.objs.size h₁ [(s₁.heap.objs.size + 1 + 1, o1), (s₁.heap.objs.size + 1, o2), (159, tabObj #[])]) (d1 : o1.data = .cell v1) (d2 : o2.data = .cell v2)
    (hl : (ghostOf s₁.heap [(163, 159)]).IsList a vs.toArray) (hI : IntsAre vs ns) (hn : ns.length ≤ 63) (C : CodeHd (ghostOf s₁.heap [(163, 159)]) 163 159) (l0 : 159 < s₁.heap.objs.size)
    {Q : Flow → Shared → Prop} {E : Value → Shared → Prop} (hQ : ∀ s', (∀ b o, (ghostOf s₁.heap [(163, 159)]).get? b = some o → s'.heap.get? b = some o) → s'.os = s₁.os → s'.gens = s₁.gens → GrownAll [(163, 159)] s'.heap → Q (.ret (.bool true)) s') :
    wpAny (model prog w) (callerA.deeper (envX (PySem.Str.ofString "law") (lawFn w).fd.scope s₁.heap.objs.size fa cd (cellsFrom (s₁.heap.objs.size + 1) (lawFn w).fd.scope.names [])))
      (execs (lawFn w).body (envX (PySem.Str.ofString "law") (lawFn w).fd.scope s₁.heap.objs.size fa cd (cellsFrom (s₁.heap.objs.size + 1) (lawFn w).fd.scope.names []))) Q E { s₁ with heap := h₁, toks := tk } := by
  generalize hg : ghostOf s₁.heap [(163, 159)] = g at *
  generalize hL : s₁.heap.objs.size = L at *
  have G : Grd (KK w) g := ⟨X, _, _, _, _, topRead_of T⟩
  have LG : LamG g 163 159 := ⟨C, by
    obtain ⟨bm, ob, b1, b2, b3, b4, b5, b6⟩ := T.bmain
    exact ⟨mg, bm, ob, T.g, b1, b2, b3, b4, b5, b6⟩⟩
  have n1 := N _ List.mem_cons_self
  have n2 := N _ (List.mem_cons_of_mem _ List.mem_cons_self)
  have n3 := N _ (List.mem_cons_of_mem _ (List.mem_cons_of_mem _ List.mem_cons_self))
  have gL : g.get? L = none := get_ge Fr₁.above
  have hcells : cellsFrom (L + 1) (lawFn w).fd.scope.names [] = [(PySem.Str.ofString "here", L + 1 + 1), (PySem.Str.ofString "columns", L + 1)] := rfl
  have ok : StOK (lawCx prog w callerA g (lawFn w).fd L fa cd (fun b => g.get? b) { s₁ with heap := g }) (fun b => g.get? b) { s₁ with heap := h₁, toks := tk } { vars := [(PySem.Str.ofString "script", vListW (ns.map vInt))], res := [(159, .raw (tabObj #[]) [])] } := by
    refine { base := ⟨Sub.refl _, fun b o e => Fr₁.keep b o e, fun b o e n => n, fun b o _ e => Fr₁.keep b o e, fun b o e => ⟨o, Fr₁.keep b o e⟩, rfl, rfl⟩, gF := fun b o e => e, hh := rfl, kind := rfl, glob := rfl, bltn := rfl, ns := ⟨m, Fr₁.ns⟩, newL := gL, locF := gL, locR := fun q => ?_, cells := fun x c hm => ?_, apart := ?_, newC := fun _ x c hm => ?_, vars := fun x q hm' => ?_, res := ⟨fun b c hm => ?_, fun b c hm => ?_, List.nodup_cons.mpr ⟨List.not_mem_nil, List.nodup_nil⟩⟩, resW := fun b hb => .inl (List.mem_singleton.mp hb), locW := ?_, cellW := fun x c hm => ?_, nd := List.nodup_cons.mpr ⟨List.not_mem_nil, List.nodup_nil⟩, priv := fun _ _ hm => (List.not_mem_nil hm).elim }
    · exact n3.2.1 (List.mem_singleton.mp q).symm
    · have hm' : (x, c) ∈ cellsFrom (L + 1) (lawFn w).fd.scope.names [] := hm
      rw [hcells] at hm'
      rcases List.mem_cons.mp hm' with e | hm'
      · cases e; exact ⟨⟨_, _, n1.1, d1⟩, n1.2.2, fun q => by have : L + 1 + 1 = 159 := List.mem_singleton.mp q; first | lia | omega⟩
      · cases List.mem_singleton.mp hm'; exact ⟨⟨_, _, n2.1, d2⟩, n2.2.2, fun q => by have : L + 1 = 159 := List.mem_singleton.mp q; first | lia | omega⟩
    · show (cellsFrom (L + 1) (lawFn w).fd.scope.names []).Pairwise _
      rw [hcells]
      refine List.pairwise_cons.mpr ⟨fun y hy => ?_, List.pairwise_singleton _ _⟩
      cases List.mem_singleton.mp hy
      show L + 1 + 1 ≠ L + 1; first | lia | omega
    · have hm' : (x, c) ∈ cellsFrom (L + 1) (lawFn w).fd.scope.names [] := hm
      rw [hcells] at hm'
      rcases List.mem_cons.mp hm' with e | hm'
      · cases e; exact n1.2.2
      · cases List.mem_singleton.mp hm'; exact n2.2.2
    · cases List.mem_singleton.mp hm'
      obtain ⟨o, ho, hc, n, hd⟩ := hl
      exact ⟨.ref a, .inl ⟨rfl, m, Fr₁.ns, hm⟩, a, o, vs, n, rfl, ho, hc, hd, rds_intsAre hI⟩
    · cases List.mem_singleton.mp hm
      exact ⟨n3.1, fun _ _ h => (List.not_mem_nil h).elim⟩
    · cases List.mem_singleton.mp hm
      exact n3.2.2
    · intro q
      have : L = 159 := q
      first | lia | omega
    · have hm' : (x, c) ∈ cellsFrom (L + 1) (lawFn w).fd.scope.names [] := hm
      rw [hcells] at hm'
      intro q
      have q' : c = 159 := q
      rcases List.mem_cons.mp hm' with e | hm'
      · cases e; have z : L + 1 + 1 = 159 := q'; first | lia | omega
      · cases List.mem_singleton.mp hm'; have z : L + 1 = 159 := q'; first | lia | omega
  have rm : Room (lawCx prog w callerA g (lawFn w).fd L fa cd (fun b => g.get? b) { s₁ with heap := g }).A 60 := ⟨rfl, Nat.le_of_ble_eq_true rfl, Nat.le_of_ble_eq_true rfl⟩
  refine law_runs G LG rm ns hn (fun o => ∃ R ts fz, RAt 159 (.raw (tabObj ts) fz) R ∧ o = .rt (vBool true) R) (fun R ts fz h => ⟨R, ts, fz, h, rfl⟩) _ _ ok Q E fun f F' s' o sb oo po => ?_
  obtain ⟨R, ts, fz, h, rfl⟩ := po
  cases f with
  | ret v =>
    obtain ⟨st, rv, ro, _⟩ := oo
    cases rv
    refine hQ s' (fun b o e => st.inh b o (st.sub b o e)) st.os st.gens ⟨⟨ts, (ro.ok 159 _ h.mem).1⟩, trivial⟩
  | _ => exact oo.elim
end Mine
open PySem PySem.W PyProof.Rows
theorem PySem.Challenge.cw_pg0255_02_holds : PySem.Challenge.rw_pg0255_02.Holds := by
  w_on
  refine holds_law Mine.hdSaid fun said' => ?_
  refine holds_open (q := Mine.hdView) (loose := Mine.hdLo) (Xt := Mine.hdXt) (XP := XL Mine.hdView []) (Yf := Mine.HK.obs) (Ya := Mine.HK.val) (YP := (kmHook Mine.KF Mine.KFas Mine.KFas_eq [159]).says) (N := 2530) Mine.hdLeft Mine.HK.of Mine.HK.keeps (fun s e => xl_of s (Bool.and_eq_true_iff.mp e).1) XL.keeps (by rfl) (by rfl) (by rfl) (fun s e => recFacts_of (Bool.and_eq_true_iff.mp e).2) (by rfl) said' (by decide +kernel) ⟨rfl, rfl, rfl, rfl, rfl, by decide +kernel⟩ ?hw ?hc
  case hw => exact ⟨[.list [.int 3, .int 1]], by decide +kernel, by decide +kernel⟩
  intro w s₀ s₁ mg mb G Y fa o pm cd doc dV kV ho hd hcd hD hmg hg args vals as hpre hlay hrd hwl hlo
  have KX := km_in_of Y
  have hT8 := km_tabs_of Y
  have X := (Ground.X G).1
  have V := (Ground.X G).2
  refine Ground.open G ?_
  intro T B D TE TW
  try (refine guard_noD D (by decide +kernel) ?_; clear D)
  have hT9 : TabsAt ([(163, 159)] : List (Addr × Addr)) _ := List.forall_mem_cons.mpr ⟨⟨codeHd_of_K (c := 163) (P := 159) KX (by kernel_rfl), hT8 159 (by k_mem)⟩, fun _ h => nomatch h⟩
  clear hmg
  wrow_args hpre hlay hrd hwl hlo
  all_goals (
    first | refine callC_kw (enter_call ?_) | refine enter_call ?_
    w_top on
    kn_posts
    w_call any ho hd hcd hD T F
    clear hd
    kn_ghosts F T
    k_drop
    skip)
  refine Mine.law_fin (by assumption) (by assumption) (by assumption) ?hm (by assumption) (by assumption) (by assumption) (by assumption) (by assumption) ?hn (by assumption) (by assumption) ?hQ
  case hm => with_unfolding_all rfl
  case hn => omega
  case hQ =>
    intro s' hk hos hgn hgr
    refine ⟨⟨.inl ⟨_, .bool true, [], rfl, fun _ => rfl, .bool true, (by with_unfolding_all rfl), unshared_nil⟩, hk, hos, hgn.trans (by assumption)⟩, hgr⟩
