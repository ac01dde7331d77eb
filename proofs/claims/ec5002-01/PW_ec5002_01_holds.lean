import PyProof.Rows.All
import Wide.All
import OpenK.AllK
import Wide.FinOn
import Lean
import PySem.Challenge.RW_ec5002_01
open PySem PySem.W PySem.Calls PyProof.Rows
set_option Elab.async false
set_option maxRecDepth 100000
set_option linter.unusedVariables false
set_option linter.unusedSectionVars false
/-! MiniA -/
namespace Mini

inductive AV where
  | none | bool (b : Bool) | int (i : Int) | ref (a : Addr) | other

def er : Value → AV
  | .none => .none
  | .bool b => .bool b
  | .int i _ => .int i
  | .ref a => .ref a
  | _ => .other

theorem er_int {v : Value} {i : Int} (h : er v = .int i) : ∃ t, v = .int i t := by
  cases v <;> simp [er] at h; exact ⟨_, by rw [h]⟩
theorem er_bool {v : Value} {b : Bool} (h : er v = .bool b) : v = .bool b := by
  cases v <;> simp [er] at h; rw [h]
theorem er_ref {v : Value} {a : Addr} (h : er v = .ref a) : v = .ref a := by
  cases v <;> simp [er] at h; rw [h]
theorem er_none {v : Value} (h : er v = .none) : v = .none := by
  cases v <;> simp [er] at h; rfl

inductive Cell where
  | list (xs : List AV)
  | tup (xs : List AV)
  | idict (es : List (Int × AV))
  | tdict (es : List (List Int × AV))

abbrev AH := Addr → Option Cell
abbrev Loc := Nat → Option AV

def upd {α : Type} (f : Nat → Option α) (i : Nat) (v : α) : Nat → Option α := fun j => if j = i then some v else f j
theorem upd_same {α : Type} (f : Nat → Option α) (i : Nat) (v : α) : upd f i v i = some v := if_pos rfl
theorem upd_ne {α : Type} {f : Nat → Option α} {i j : Nat} {v : α} (h : j ≠ i) : upd f i v j = f j := if_neg h

-- the world of one law
structure Wd where
  prog : Program
  w : World
  h₀ : Heap
  B : Addr

def IDictAt (W : Wd) (hp : Heap) (a : Addr) (es : List (Int × AV)) : Prop := ∃ kvs : List (Int × Value), hp.DictOf (intKind W.prog W.w) a kvs ∧ kvs.map (fun p => (p.1, er p.2)) = es ∧ (a == sysModules) = false
def TDictAt (W : Wd) (hp : Heap) (a : Addr) (es : List (List Int × AV)) : Prop := ∃ xs : List (List Int × Addr × Value), hp.DictOfH (tupleKind (intKind W.prog W.w)) a xs ∧ xs.map (fun x => (x.1, er x.2.2)) = es ∧ (a == sysModules) = false

def PlainTup (hp : Heap) (a : Addr) (vs : Array Value) : Prop := ∃ n, hp.get? a = some { cls := .type "tuple", data := .seq vs n }
theorem PlainTup.isTuple {hp : Heap} {a : Addr} {vs : Array Value} (x : PlainTup hp a vs) : hp.IsTuple a vs := let ⟨n, e⟩ := x; ⟨_, e, rfl, n, rfl⟩

def CellAt (W : Wd) (hp : Heap) (a : Addr) : Cell → Prop
  | .list xs => ∃ vs : Array Value, hp.PlainList a vs ∧ vs.toList.map er = xs
  | .tup xs => ∃ vs : Array Value, PlainTup hp a vs ∧ vs.toList.map er = xs
  | .idict es => IDictAt W hp a es
  | .tdict es => TDictAt W hp a es

def IsTupO (o : Obj) : Prop := o.cls = .type "tuple" ∧ ∃ xs n, o.data = .seq xs n
theorem ns_notTup {hp : Heap} {L : Addr} {m : Str → Option Value} (n : hp.Ns L m) : ∀ o, hp.get? L = some o → ¬ IsTupO o := by
  obtain ⟨o, es, ep, h1, h2, _⟩ := n
  rintro o' e ⟨_, xs, k, hd⟩
  rw [h1] at e; cases e; rw [h2] at hd; cases hd
theorem cell_notTup {hp : Heap} {c : Addr} {v : Option Value} (n : hp.IsCell c v) : ∀ o, hp.get? c = some o → ¬ IsTupO o := by
  obtain ⟨o, h1, h2⟩ := n
  rintro o' e ⟨_, xs, k, hd⟩
  rw [h1] at e; cases e; rw [h2] at hd; cases hd
theorem list_notTup {hp : Heap} {c : Addr} {vs : Array Value} (n : hp.PlainList c vs) : ∀ o, hp.get? c = some o → ¬ IsTupO o := by
  obtain ⟨o, h1, h2, _⟩ := n.isList
  rintro o' e ⟨hd, _⟩
  rw [h1] at e; cases e; rw [h2] at hd; exact absurd hd (by decide)

theorem CellAt.mono {W : Wd} {hp hp' : Heap} {a : Addr} {c : Cell} (x : CellAt W hp a c) (ha : ∀ o, hp.get? a = some o → hp'.get? a = some o)
    (ht : ∀ b o, hp.get? b = some o → IsTupO o → hp'.get? b = some o) : CellAt W hp' a c := by
  cases c with
  | list xs => obtain ⟨vs, ⟨n, ho⟩, e⟩ := x; exact ⟨vs, ⟨n, ha _ ho⟩, e⟩
  | tup xs => obtain ⟨vs, ⟨n, ho⟩, e⟩ := x; exact ⟨vs, ⟨n, ha _ ho⟩, e⟩
  | idict es => obtain ⟨kvs, ⟨o, es, ep, ho, r⟩, e⟩ := x; exact ⟨kvs, ⟨o, es, ep, ha _ ho, r⟩, e⟩
  | tdict es =>
    obtain ⟨xs, ⟨o, es, ep, ho, hc, hd, he, hk, hn⟩, e⟩ := x
    refine ⟨xs, ⟨o, es, ep, ha _ ho, hc, hd, he, fun y hy => ?_, hn⟩, e⟩
    obtain ⟨o', items, n, h1, h2, h3, h4⟩ := hk y hy
    exact ⟨o', items, n, ht _ _ h1 ⟨h2, _, _, h3⟩, h2, h3, h4⟩

structure Rel (W : Wd) (h : AH) (hp : Heap) : Prop where
  cells : ∀ a c, h a = some c → CellAt W hp a c
  base : ∀ b o, W.h₀.get? b = some o → hp.get? b = some o
  wit : ∃ b o, W.B ≤ b ∧ h b = none ∧ hp.get? b = some o

structure Step (W : Wd) (h : AH) (hp : Heap) (h' : AH) (hp' : Heap) : Prop where
  cells : ∀ a c, h' a = some c → CellAt W hp' a c
  keep : ∀ b o, hp.get? b = some o → (h b = none ∨ b < W.B ∨ IsTupO o) → hp'.get? b = some o
  fresh : ∀ b, h b = none → h' b ≠ none → hp.get? b = none ∧ W.B ≤ b
  dom : ∀ b, h' b = none → h b = none

structure WdOk (W : Wd) : Prop where
  size : ∀ b o, W.h₀.get? b = some o → b < W.B
  nolimit : W.h₀.NoLimit

theorem Step.rel {W : Wd} (ok : WdOk W) {h h' : AH} {hp hp' : Heap} (R : Rel W h hp) (S : Step W h hp h' hp') : Rel W h' hp' := by
  refine ⟨S.cells, fun b o e => S.keep b o (R.base b o e) (.inr (.inl (ok.size b o e))), ?_⟩
  obtain ⟨b, o, h1, h2, h3⟩ := R.wit
  refine ⟨b, o, h1, ?_, S.keep b o h3 (.inl h2)⟩
  cases q : h' b with
  | none => rfl
  | some c => have := (S.fresh b h2 (by rw [q]; exact nofun)).1; rw [h3] at this; cases this

theorem Step.stay {W : Wd} {h h' : AH} {hp hp' : Heap} (S : Step W h hp h' hp') {b : Addr} {o : Obj} (hb : hp.get? b = some o) (hn : h b = .none) : h' b = .none := by
  cases q : h' b with
  | none => rfl
  | some c => have := (S.fresh b hn (by rw [q]; exact nofun)).1; rw [hb] at this; cases this

theorem Step.refl {W : Wd} {h : AH} {hp : Heap} (R : Rel W h hp) : Step W h hp h hp :=
  ⟨R.cells, fun _ _ e _ => e, fun _ h1 h2 => absurd h1 h2, fun _ e => e⟩

theorem Step.trans {W : Wd} {h h' h'' : AH} {hp hp' hp'' : Heap} (S : Step W h hp h' hp') (T : Step W h' hp' h'' hp'') : Step W h hp h'' hp'' := by
  refine ⟨T.cells, fun b o e q => ?_, fun b h1 h2 => ?_, fun b e => S.dom b (T.dom b e)⟩
  · have e' := S.keep b o e q
    rcases q with q | q | q
    · exact T.keep b o e' (.inl (S.stay e q))
    · exact T.keep b o e' (.inr (.inl q))
    · exact T.keep b o e' (.inr (.inr q))
  · cases q : h' b with
    | some c => exact S.fresh b h1 (by rw [q]; exact nofun)
    | none =>
      obtain ⟨h3, h4⟩ := T.fresh b q h2
      refine ⟨?_, h4⟩
      cases q' : hp.get? b with
      | none => rfl
      | some o => have := S.keep b o q' (.inl h1); rw [h3] at this; cases this

-- a heap that has grown only (or changed at objects that are no cells and not kept)
theorem Step.keeps {W : Wd} {h : AH} {hp hp' : Heap} (R : Rel W h hp) (k : ∀ b o, hp.get? b = some o → hp'.get? b = some o) : Step W h hp h hp' :=
  ⟨fun a c e => (R.cells a c e).mono (fun o => k a o) (fun b o e _ => k b o e), fun b o e _ => k b o e, fun _ h1 h2 => absurd h1 h2, fun _ e => e⟩

-- the new cell
theorem Step.alloc {W : Wd} {h : AH} {hp hp' : Heap} {a : Addr} {c : Cell} (R : Rel W h hp) (ha : hp.get? a = Option.none) (hB : W.B ≤ a)
    (k : ∀ b o, hp.get? b = some o → hp'.get? b = some o) (hc : CellAt W hp' a c) : Step W h hp (upd h a c) hp' := by
  refine ⟨fun b c' e => ?_, fun b o e _ => k b o e, fun b h1 h2 => ?_, fun b e => ?_⟩
  · by_cases hb : b = a
    · subst hb; rw [upd_same] at e; cases e; exact hc
    · rw [upd_ne hb] at e
      exact (R.cells b c' e).mono (fun o => k b o) (fun b o e _ => k b o e)
  · by_cases hb : b = a
    · subst hb; exact ⟨ha, hB⟩
    · rw [upd_ne hb] at h2; exact absurd h1 h2
  · by_cases hb : b = a
    · subst hb; rw [upd_same] at e; cases e
    · rw [upd_ne hb] at e; exact e

theorem Rel.fresh {W : Wd} {h : AH} {hp : Heap} (R : Rel W h hp) {a : Addr} (ha : hp.get? a = Option.none) : h a = Option.none := by
  cases q : h a with
  | none => rfl
  | some c =>
    have := R.cells a c q
    cases c with
    | list xs => obtain ⟨vs, ⟨o, ho⟩, _⟩ := this; rw [ha] at ho; cases ho
    | tup xs => obtain ⟨vs, ⟨o, ho⟩, _⟩ := this; rw [ha] at ho; cases ho
    | idict es => obtain ⟨kvs, ⟨o, es, ep, ho, r⟩, e⟩ := this; rw [ha] at ho; cases ho
    | tdict es => obtain ⟨kvs, ⟨o, es, ep, ho, r⟩, e⟩ := this; rw [ha] at ho; cases ho

theorem Rel.size {W : Wd} {h : AH} {hp : Heap} (R : Rel W h hp) : W.B ≤ hp.objs.size := by
  obtain ⟨b, o, h1, _, h3⟩ := R.wit
  exact Nat.le_of_lt (Nat.lt_of_le_of_lt h1 (Heap.lt_size h3))

theorem get_size_none (hp : Heap) : hp.get? hp.objs.size = none := by
  cases q : hp.get? hp.objs.size with
  | none => rfl
  | some o => exact absurd (Heap.lt_size q) (Nat.lt_irrefl _)

theorem Step.push {W : Wd} {h : AH} {hp : Heap} {c : Cell} {o : Obj} (R : Rel W h hp) (hc : CellAt W (hp.push o) hp.objs.size c) :
    Step W h hp (upd h hp.objs.size c) (hp.push o) :=
  Step.alloc R (get_size_none hp) R.size (fun _ _ e => Heap.get?_push_of_some _ e) hc

-- a cell changed in place (no tuple)
theorem Step.set {W : Wd} {h : AH} {hp hp' : Heap} {a : Addr} {c c' : Cell} (R : Rel W h hp) (ha : h a = some c) (hB : W.B ≤ a) (hnt : ∀ o, hp.get? a = some o → ¬ IsTupO o)
    (hs : Heap.SameBut a hp hp') (hc : CellAt W hp' a c') : Step W h hp (upd h a c') hp' := by
  have hk : ∀ b o, b ≠ a → hp.get? b = some o → hp'.get? b = some o := fun b o hb e => (hs.2 b hb).trans e
  have ht : ∀ b o, hp.get? b = some o → IsTupO o → hp'.get? b = some o := fun b o e t => hk b o (fun q => hnt o (q ▸ e) t) e
  refine ⟨fun b d e => ?_, fun b o e q => ?_, fun b h1 h2 => ?_, fun b e => ?_⟩
  · by_cases hb : b = a
    · subst hb; rw [upd_same] at e; cases e; exact hc
    · rw [upd_ne hb] at e
      exact (R.cells b d e).mono (fun o => hk b o hb) ht
  · rcases q with q | q | q
    · exact hk b o (fun q' => by rw [q', ha] at q; cases q) e
    · exact hk b o (fun q' => by rw [q'] at q; exact absurd hB (Nat.not_le.mpr q)) e
    · exact ht b o e q
  · by_cases hb : b = a
    · rw [hb, ha] at h1; cases h1
    · rw [upd_ne hb] at h2; exact absurd h1 h2
  · by_cases hb : b = a
    · subst hb; rw [upd_same] at e; cases e
    · rw [upd_ne hb] at e; exact e

-- an object that is no cell and not of the base changed in place (an iterator)
theorem Step.other {W : Wd} {h : AH} {hp hp' : Heap} {a : Addr} (R : Rel W h hp) (hs : ∀ b o, b ≠ a → hp.get? b = some o → hp'.get? b = some o)
    (ha : h a = Option.none) : ∀ b c, h b = some c → b ≠ a := fun b c e q => by rw [q, ha] at e; cases e

/-! results -/
/-- a place that is free behind a step was free ahead of it -/
theorem Step.free {W : Wd} {h h' : AH} {hp hp' : Heap} (S : Step W h hp h' hp') {b : Addr} (hb : hp'.get? b = none) (hn : h' b = none) : hp.get? b = none := by
  cases q : hp.get? b with
  | none => rfl
  | some o => have := S.keep b o q (.inl (S.dom b hn)); rw [hb] at this; cases this

def Res (W : Wd) (h : AH) (s : Shared) (Q : AV → AH → Prop) : Value → Shared → Prop :=
  fun v s' => ∃ h' hp tk, s' = { s with heap := hp, toks := tk } ∧ Step W h s.heap h' hp ∧ Q (er v) h'
def ResB (W : Wd) (h : AH) (s : Shared) (Q : Bool → AH → Prop) : Bool → Shared → Prop :=
  fun v s' => ∃ h' hp tk, s' = { s with heap := hp, toks := tk } ∧ Step W h s.heap h' hp ∧ Q v h'

/-! frames -/
abbrev VM := Nat → Option Str

structure Frm (W : Wd) (env : Env) (vm : VM) (loc : Loc) (h : AH) (hp : Heap) : Prop where
  hk : env.scope.kind = .function
  hg : env.globals = mainGlobals
  hb : env.builtins = builtinsNs
  LB : W.B ≤ env.locals
  nL : h env.locals = none
  ns : ∃ m, hp.Ns env.locals m ∧ ∀ i x av, vm i = some x → env.kindOf x = some .local → loc i = some av → ∃ v, m x = some v ∧ er v = av
  cl : ∀ x c, env.cells.lookup x = some c → W.B ≤ c ∧ h c = none ∧ c ≠ env.locals ∧ ∃ v, hp.IsCell c v
  cv : ∀ i x av, vm i = some x → (env.kindOf x = some .cell ∨ env.kindOf x = some .free) → loc i = some av → ∃ c v, env.cells.lookup x = some c ∧ hp.IsCell c (some v) ∧ er v = av
  ap : ∀ x y c, env.cells.lookup x = some c → env.cells.lookup y = some c → x = y
  hc : ∀ x, env.kindOf x = some .cell → ∃ c, env.cells.lookup x = some c

theorem ns_some {hp : Heap} {L : Addr} {m : Str → Option Value} (n : hp.Ns L m) : ∃ o, hp.get? L = some o := let ⟨o, _, _, h, _⟩ := n; ⟨o, h⟩

theorem Frm.step {W : Wd} {env : Env} {vm : VM} {loc : Loc} {h h' : AH} {hp hp' : Heap} (F : Frm W env vm loc h hp) (S : Step W h hp h' hp') : Frm W env vm loc h' hp' := by
  obtain ⟨m, hm, hm2⟩ := F.ns
  obtain ⟨oL, hoL⟩ := ns_some hm
  have kL : ∀ o, hp.get? env.locals = some o → hp'.get? env.locals = some o := fun o e => S.keep _ o e (.inl F.nL)
  refine ⟨F.hk, F.hg, F.hb, F.LB, S.stay hoL F.nL, ⟨m, ?_, hm2⟩, fun x c e => ?_, fun i x av h1 h2 h3 => ?_, F.ap, F.hc⟩
  · obtain ⟨o, es, ep, ho, r⟩ := hm; exact ⟨o, es, ep, kL o ho, r⟩
  · obtain ⟨h1, h2, h3, v, o, ho, hv⟩ := F.cl x c e
    exact ⟨h1, S.stay ho h2, h3, v, o, S.keep c o ho (.inl h2), hv⟩
  · obtain ⟨c, v, e, ⟨o, ho, hv⟩, q⟩ := F.cv i x av h1 h2 h3
    exact ⟨c, v, e, ⟨o, S.keep c o ho (.inl (F.cl x c e).2.1), hv⟩, q⟩

/-! a statement's step: the frame's own objects may change -/
def Own (env : Env) (b : Addr) : Prop := b = env.locals ∨ ∃ x, env.cells.lookup x = some b

structure SStep (W : Wd) (env : Env) (h : AH) (hp : Heap) (h' : AH) (hp' : Heap) : Prop where
  cells : ∀ a c, h' a = some c → CellAt W hp' a c
  keep : ∀ b o, hp.get? b = some o → ¬ Own env b → (h b = none ∨ b < W.B ∨ IsTupO o) → hp'.get? b = some o
  fresh : ∀ b, h b = none → h' b ≠ none → hp.get? b = none ∧ W.B ≤ b
  dom : ∀ b, h' b = none → h b = none

theorem Step.s {W : Wd} {env : Env} {h h' : AH} {hp hp' : Heap} (S : Step W h hp h' hp') : SStep W env h hp h' hp' :=
  ⟨S.cells, fun b o e _ q => S.keep b o e q, S.fresh, S.dom⟩

theorem SStep.stay {W : Wd} {env : Env} {h h' : AH} {hp hp' : Heap} (S : SStep W env h hp h' hp') {b : Addr} {o : Obj} (hb : hp.get? b = some o) (hn : h b = .none) : h' b = .none := by
  cases q : h' b with
  | none => rfl
  | some c => have := (S.fresh b hn (by rw [q]; exact nofun)).1; rw [hb] at this; cases this

theorem SStep.rel {W : Wd} (ok : WdOk W) {env : Env} {vm : VM} {loc : Loc} {h h' : AH} {hp hp' : Heap} (R : Rel W h hp) (F : Frm W env vm loc h' hp') (hown : ∀ b o, W.h₀.get? b = some o → ¬ Own env b)
    (S : SStep W env h hp h' hp') : Rel W h' hp' := by
  obtain ⟨m, hm, _⟩ := F.ns
  obtain ⟨oL, hoL⟩ := ns_some hm
  exact ⟨S.cells, fun b o e => S.keep b o (R.base b o e) (hown b o e) (.inr (.inl (ok.size b o e))), ⟨_, oL, F.LB, F.nL, hoL⟩⟩

theorem Frm.own {W : Wd} (ok : WdOk W) {env : Env} {vm : VM} {loc : Loc} {h : AH} {hp : Heap} (F : Frm W env vm loc h hp) : ∀ b o, W.h₀.get? b = some o → ¬ Own env b := by
  rintro b o e (rfl | ⟨x, q⟩)
  · exact absurd (ok.size _ o e) (Nat.not_lt.mpr F.LB)
  · exact absurd (ok.size _ o e) (Nat.not_lt.mpr (F.cl x b q).1)

theorem SStep.trans {W : Wd} {env : Env} {h h' h'' : AH} {hp hp' hp'' : Heap} (S : SStep W env h hp h' hp') (T : SStep W env h' hp' h'' hp'')
    (how : ∀ b, Own env b → ∃ o, hp'.get? b = some o) : SStep W env h hp h'' hp'' := by
  refine ⟨T.cells, fun b o e n q => ?_, fun b h1 h2 => ?_, fun b e => S.dom b (T.dom b e)⟩
  · have e' := S.keep b o e n q
    rcases q with q | q | q
    · exact T.keep b o e' n (.inl (S.stay e q))
    · exact T.keep b o e' n (.inr (.inl q))
    · exact T.keep b o e' n (.inr (.inr q))
  · cases q : h' b with
    | some c => exact S.fresh b h1 (by rw [q]; exact nofun)
    | none =>
      obtain ⟨h3, h4⟩ := T.fresh b q h2
      refine ⟨?_, h4⟩
      cases q' : hp.get? b with
      | none => rfl
      | some o =>
        by_cases hn : Own env b
        · obtain ⟨o', e'⟩ := how b hn
          rw [h3] at e'; cases e'
        · have := S.keep b o q' hn (.inl h1); rw [h3] at this; cases this

theorem Frm.how {W : Wd} {env : Env} {vm : VM} {loc : Loc} {h : AH} {hp : Heap} (F : Frm W env vm loc h hp) : ∀ b, Own env b → ∃ o, hp.get? b = some o := by
  rintro b (rfl | ⟨x, q⟩)
  · obtain ⟨m, hm, _⟩ := F.ns; exact ns_some hm
  · obtain ⟨_, _, _, v, o, ho, _⟩ := F.cl x b q; exact ⟨o, ho⟩

/-! contexts, states, what is shown of a tree -/
structure Cx (n : Nat) (A : Around) : Prop where
  hd : A.handled = none
  dp : A.depth + n < recursionLimit
  un : A.units + 4 * n + 100 < cLine

theorem Cx.deeper {n : Nat} {A : Around} (c : Cx (n + 1) A) (env : Env) : Cx n (A.deeper env) :=
  ⟨c.hd, by have := c.dp; show A.depth + 1 + n < _; omega, by have := c.un; show A.units + 3 + 4 * n + 100 < _; omega⟩

structure St (W : Wd) (n : Nat) (sc : Scope) (vm : VM) (env : Env) (A : Around) (loc : Loc) (h : AH) (s : Shared) : Prop where
  sc : env.scope = sc
  cx : Cx n A
  fr : Frm W env vm loc h s.heap
  rel : Rel W h s.heap

section
variable {W : Wd} {n : Nat} {sc : Scope} {vm : VM} {env : Env} {A : Around} {loc : Loc} {h h' h'' : AH} {s : Shared} {hp hp' hp'' : Heap} {tk : Nat}

theorem St.step (ok : WdOk W) (x : St W n sc vm env A loc h s) (S : Step W h s.heap h' hp) : St W n sc vm env A loc h' { s with heap := hp, toks := tk } :=
  ⟨x.sc, x.cx, x.fr.step S, S.rel ok x.rel⟩

theorem Res.bind {Q : AV → AH → Prop} {v : Value} {s' : Shared} (S : Step W h s.heap h' hp) (r : Res W h' { s with heap := hp, toks := tk } Q v s') : Res W h s Q v s' := by
  obtain ⟨h2, hp2, tk2, rfl, S2, q⟩ := r
  exact ⟨h2, hp2, tk2, rfl, S.trans S2, q⟩
theorem ResB.bind {Q : Bool → AH → Prop} {v : Bool} {s' : Shared} (S : Step W h s.heap h' hp) (r : ResB W h' { s with heap := hp, toks := tk } Q v s') : ResB W h s Q v s' := by
  obtain ⟨h2, hp2, tk2, rfl, S2, q⟩ := r
  exact ⟨h2, hp2, tk2, rfl, S.trans S2, q⟩
end

abbrev ET := Loc → AH → (AV → AH → Prop) → Prop
abbrev TT := Loc → AH → (Bool → AH → Prop) → Prop
inductive Fl where
  | next | brk | cont
  | ret (v : AV)
abbrev ST := Loc → AH → (Fl → Loc → AH → Prop) → Prop
def erF : Flow → Fl
  | .next => .next
  | .brk => .brk
  | .cont => .cont
  | .ret v => .ret (er v)

def EvOk (W : Wd) (n : Nat) (sc : Scope) (vm : VM) (e : Expr) (t : ET) : Prop :=
  ∀ env A E s loc h Q, St W n sc vm env A loc h s → t loc h Q → wpAny (model W.prog W.w) A (eval e env) (Res W h s Q) E s
def TsOk (W : Wd) (n : Nat) (sc : Scope) (vm : VM) (e : Expr) (t : TT) : Prop :=
  ∀ env A E s loc h Q, St W n sc vm env A loc h s → t loc h Q → wpAny (model W.prog W.w) A (isTrue e env (eval e env)) (ResB W h s Q) E s
def OpOk (W : Wd) (n : Nat) (op : Operator) (p : AV → AV → AH → (AV → AH → Prop) → Prop) : Prop :=
  ∀ A E s va vb h Q, Cx n A → Rel W h s.heap → p (er va) (er vb) h Q → wpAny (model W.prog W.w) A (binaryOp op va vb) (Res W h s Q) E s
def CmpOk (W : Wd) (n : Nat) (op : CmpOp) (p : AV → AV → AH → (Bool → AH → Prop) → Prop) : Prop :=
  ∀ A E s va vb h Q, Cx n A → Rel W h s.heap → p (er va) (er vb) h Q → wpAny (model W.prog W.w) A (compareOp op va vb) (Res W h s fun v h' => ∃ b, v = .bool b ∧ Q b h') E s

def SRes (W : Wd) (env : Env) (vm : VM) (h : AH) (s : Shared) (Q : Fl → Loc → AH → Prop) : Flow → Shared → Prop :=
  fun f s' => ∃ loc' h' hp tk, s' = { s with heap := hp, toks := tk } ∧ SStep W env h s.heap h' hp ∧ Frm W env vm loc' h' hp ∧ Q (erF f) loc' h'
def ExOk (W : Wd) (n : Nat) (sc : Scope) (vm : VM) (st : Stmt) (t : ST) : Prop :=
  ∀ env A E s loc h Q, St W n sc vm env A loc h s → t loc h Q → wpAny (model W.prog W.w) A (exec st env) (SRes W env vm h s Q) E s
def BkOk (W : Wd) (n : Nat) (sc : Scope) (vm : VM) (st : List Stmt) (t : ST) : Prop :=
  ∀ env A E s loc h Q, St W n sc vm env A loc h s → t loc h Q → wpAny (model W.prog W.w) A (execs st env) (SRes W env vm h s Q) E s

section
variable {W : Wd} {n : Nat} {sc : Scope} {vm : VM} {env : Env} {A : Around} {loc : Loc} {h h' h'' : AH} {s : Shared} {hp hp' hp'' : Heap} {tk : Nat} {E : Value → Shared → Prop}

theorem EvOk.use (ok : WdOk W) {e : Expr} {t : ET} (he : EvOk W n sc vm e t) (st : St W n sc vm env A loc h s) {Q' : AV → AH → Prop} (ht : t loc h Q') {P : Value → Shared → Prop}
    (k : ∀ v h1 hp tk, Q' (er v) h1 → St W n sc vm env A loc h1 { s with heap := hp, toks := tk } → Step W h s.heap h1 hp → P v { s with heap := hp, toks := tk }) :
    wpAny (model W.prog W.w) A (eval e env) P E s :=
  wpAny_mono (he env A E s loc h Q' st ht) (by rintro v s' ⟨h1, hp, tk, rfl, S, q⟩; exact k v h1 hp tk q (st.step ok S) S) fun _ _ x => x
theorem TsOk.use (ok : WdOk W) {e : Expr} {t : TT} (he : TsOk W n sc vm e t) (st : St W n sc vm env A loc h s) {Q' : Bool → AH → Prop} (ht : t loc h Q') {P : Bool → Shared → Prop}
    (k : ∀ v h1 hp tk, Q' v h1 → St W n sc vm env A loc h1 { s with heap := hp, toks := tk } → Step W h s.heap h1 hp → P v { s with heap := hp, toks := tk }) :
    wpAny (model W.prog W.w) A (isTrue e env (eval e env)) P E s :=
  wpAny_mono (he env A E s loc h Q' st ht) (by rintro v s' ⟨h1, hp, tk, rfl, S, q⟩; exact k v h1 hp tk q (st.step ok S) S) fun _ _ x => x
end

namespace T
def var (i : Nat) : ET := fun loc h Q => ∃ v, loc i = some v ∧ Q v h
def int (k : Int) : ET := fun _ h Q => Q (.int k) h
def none : ET := fun _ h Q => Q .none h
def bool (b : Bool) : ET := fun _ h Q => Q (.bool b) h
def bin (p : AV → AV → AH → (AV → AH → Prop) → Prop) (l r : ET) : ET := fun loc h Q => l loc h fun a h1 => r loc h1 fun b h2 => p a b h2 Q
def cmp (p : AV → AV → AH → (Bool → AH → Prop) → Prop) (l r : ET) : TT := fun loc h Q => l loc h fun a h1 => r loc h1 fun b h2 => p a b h2 Q
def val (t : TT) : ET := fun loc h Q => t loc h fun b h1 => Q (.bool b) h1
end T

section
variable {W : Wd} (ok : WdOk W) {n : Nat} {sc : Scope} {vm : VM}
include ok

theorem ev_local {i : Nat} {x : Str} {pos : Pos} (hv : vm i = some x) (hl : sc.names.lookup x = some .local) (hd : (x == ("__debug__" : Str)) = false) :
    EvOk W n sc vm (.Name x pos) (T.var i) := by
  rintro env A E s loc h Q st ⟨v, hv', q⟩
  obtain ⟨m, hm, hm2⟩ := st.fr.ns
  have hk : env.kindOf x = some .local := by unfold Env.kindOf; rw [st.sc]; exact hl
  obtain ⟨v', h1, h2⟩ := hm2 i x v hv hk hv'
  refine wpAny_Name (wpAny_loadName_local st.fr.hk hk hm h1 ⟨h, s.heap, s.toks, rfl, Step.refl st.rel, ?_⟩) hd
  rw [h2]; exact q

theorem ev_cell {i : Nat} {x : Str} {pos : Pos} (hv : vm i = some x) (hl : sc.names.lookup x = some .cell) (hd : (x == ("__debug__" : Str)) = false) :
    EvOk W n sc vm (.Name x pos) (T.var i) := by
  rintro env A E s loc h Q st ⟨v, hv', q⟩
  have hk : env.kindOf x = some .cell := by unfold Env.kindOf; rw [st.sc]; exact hl
  obtain ⟨c, v', h1, h2, h3⟩ := st.fr.cv i x v hv (.inl hk) hv'
  refine wpAny_Name (wpAny_loadName_cell st.fr.hk hk h1 h2 ⟨h, s.heap, s.toks, rfl, Step.refl st.rel, ?_⟩) hd
  rw [h3]; exact q

theorem ev_free {i : Nat} {x : Str} {pos : Pos} (hv : vm i = some x) (hl : sc.names.lookup x = some .free) (hd : (x == ("__debug__" : Str)) = false) (hcd : (x == ("__classdict__" : Str)) = false) :
    EvOk W n sc vm (.Name x pos) (T.var i) := by
  rintro env A E s loc h Q st ⟨v, hv', q⟩
  have hk : env.kindOf x = some .free := by unfold Env.kindOf; rw [st.sc]; exact hl
  obtain ⟨c, v', h1, h2, h3⟩ := st.fr.cv i x v hv (.inr hk) hv'
  refine wpAny_Name (wpAny_loadName_free st.fr.hk hk h1 h2 ⟨h, s.heap, s.toks, rfl, Step.refl st.rel, ?_⟩ hcd) hd
  rw [h3]; exact q

theorem ev_int {k : Int} {kk : Nat} {pos : Pos} : EvOk W n sc vm (.Constant (.int k) kk pos) (T.int k) := by
  rintro env A E s loc h Q st q
  exact wpAny_Constant_int ⟨h, s.heap, s.toks + 1, rfl, Step.refl st.rel, q⟩
theorem ev_none {kk : Nat} {pos : Pos} : EvOk W n sc vm (.Constant .none kk pos) T.none := by
  rintro env A E s loc h Q st q
  exact wpAny_Constant_none ⟨h, s.heap, s.toks, rfl, Step.refl st.rel, q⟩
theorem ev_bool {b : Bool} {kk : Nat} {pos : Pos} : EvOk W n sc vm (.Constant (.bool b) kk pos) (T.bool b) := by
  rintro env A E s loc h Q st q
  exact wpAny_Constant_bool ⟨h, s.heap, s.toks, rfl, Step.refl st.rel, q⟩

theorem ev_bin {op : Operator} {p} {l r : Expr} {f g : ET} {pos : Pos} (hp : OpOk W n op p) (hl : EvOk W n sc vm l f) (hr : EvOk W n sc vm r g) :
    EvOk W n sc vm (.BinOp l op r pos) (T.bin p f g) := by
  intro env A E s loc h Q st q
  refine wpAny_BinOp (hl.use ok st q fun a h1 hp1 tk1 q1 st1 S1 => hr.use ok st1 q1 fun b h2 hp2 tk2 q2 st2 S2 => ?_)
  exact wpAny_mono (hp A E _ a b h2 Q st2.cx st2.rel q2) (fun v s' r => Res.bind S1 (Res.bind S2 r)) fun _ _ x => x

theorem ev_cmp {op : CmpOp} {p} {l r : Expr} {f g : ET} {pos : Pos} (hp : CmpOk W n op p) (hl : EvOk W n sc vm l f) (hr : EvOk W n sc vm r g) (hm : behindInMarks op r = false) :
    EvOk W n sc vm (.Compare l [op] [r] pos) (T.val (T.cmp p f g)) := by
  intro env A E s loc h Q st q
  refine wpAny_Compare1 (hl.use ok st q fun a h1 hp1 tk1 q1 st1 S1 => hr.use ok st1 q1 fun b h2 hp2 tk2 q2 st2 S2 => ?_) hm
  refine wpAny_mono (hp A E _ a b h2 _ st2.cx st2.rel q2) (fun v s' r => Res.bind (tk := tk1) S1 (Res.bind (tk := tk2) S2 ?_)) fun _ _ x => x
  obtain ⟨h3, hp3, tk3, e, S3, b, rfl', q3⟩ := r
  exact ⟨h3, hp3, tk3, e, S3, by rw [rfl']; exact q3⟩

theorem ts_cmp {op : CmpOp} {p} {l r : Expr} {f g : ET} {pos : Pos} (hp : CmpOk W n op p) (hl : EvOk W n sc vm l f) (hr : EvOk W n sc vm r g) (hm : behindInMarks op r = false) :
    TsOk W n sc vm (.Compare l [op] [r] pos) (T.cmp p f g) := by
  intro env A E s loc h Q st q
  refine wpAny_isTrue_Compare1 (hl.use ok st q fun a h1 hp1 tk1 q1 st1 S1 => hr.use ok st1 q1 fun b h2 hp2 tk2 q2 st2 S2 => ?_) hm
  refine wpAny_mono (hp A E _ a b h2 _ st2.cx st2.rel q2) (fun v s' r => ?_) fun _ _ x => x
  obtain ⟨h3, hp3, tk3, rfl, S3, b, hb, q3⟩ := r
  rw [er_bool hb]
  exact wpAny_truthy_bool (ResB.bind S1 (ResB.bind S2 ⟨h3, hp3, tk3, rfl, S3, q3⟩))
end
end Mini

/-! MiniB -/
namespace Mini

/-! primitive operators on ints -/
namespace P
abbrev Op := AV → AV → AH → (AV → AH → Prop) → Prop
abbrev Cm := AV → AV → AH → (Bool → AH → Prop) → Prop
def add : Op := fun a b h Q => ∃ x y, a = .int x ∧ b = .int y ∧ Q (.int (x + y)) h
def sub : Op := fun a b h Q => ∃ x y, a = .int x ∧ b = .int y ∧ Q (.int (x - y)) h
def mul : Op := fun a b h Q => ∃ x y, a = .int x ∧ b = .int y ∧ IntMulOk x y ∧ Q (.int (x * y)) h
def fdiv : Op := fun a b h Q => ∃ x y, a = .int x ∧ b = .int y ∧ y ≠ 0 ∧ Builtin.divisionGoesByPylong x y = false ∧ Q (.int (x.fdiv y)) h
def fmod : Op := fun a b h Q => ∃ x y, a = .int x ∧ b = .int y ∧ y ≠ 0 ∧ Q (.int (x.fmod y)) h
def shr : Op := fun a b h Q => ∃ x y, a = .int x ∧ b = .int y ∧ 0 ≤ y ∧ Q (.int (x.fdiv (2 ^ y.toNat))) h
def band : Op := fun a b h Q => ∃ x y, a = .int x ∧ b = .int y ∧ Q (.int (Builtin.bitAnd x y)) h
def pow : Op := fun a b h Q => ∃ x y, a = .int x ∧ b = .int y ∧ 0 ≤ y ∧ (Builtin.Int.intBits x : Int) * y ≤ 2 ^ 27 ∧ Q (.int (x ^ y.toNat)) h
def lt : Cm := fun a b h Q => ∃ x y, a = .int x ∧ b = .int y ∧ Q (decide (x < y)) h
def le : Cm := fun a b h Q => ∃ x y, a = .int x ∧ b = .int y ∧ Q (decide (x ≤ y)) h
def gt : Cm := fun a b h Q => ∃ x y, a = .int x ∧ b = .int y ∧ Q (decide (x > y)) h
def ge : Cm := fun a b h Q => ∃ x y, a = .int x ∧ b = .int y ∧ Q (decide (x ≥ y)) h
def eqI : Cm := fun a b h Q => ∃ x y, a = .int x ∧ b = .int y ∧ Q (x == y) h
def neI : Cm := fun a b h Q => ∃ x y, a = .int x ∧ b = .int y ∧ Q (x != y) h
def isNone (a : AV) : Bool := match a with | .none => true | _ => false
-- only where the right side is the written None
def isN : Cm := fun a b h Q => b = .none ∧ a ≠ .other ∧ Q (isNone a) h
def isNotN : Cm := fun a b h Q => b = .none ∧ a ≠ .other ∧ Q (!isNone a) h
end P

section
variable {W : Wd} {n : Nat}

theorem op_add : OpOk W n .Add P.add := by
  rintro A E s va vb h Q cx R ⟨x, y, ha, hb, q⟩
  obtain ⟨t, rfl⟩ := er_int ha; obtain ⟨u, rfl⟩ := er_int hb
  exact wpAny_add_int ⟨h, s.heap, s.toks + 1, rfl, Step.refl R, q⟩
theorem op_sub : OpOk W n .Sub P.sub := by
  rintro A E s va vb h Q cx R ⟨x, y, ha, hb, q⟩
  obtain ⟨t, rfl⟩ := er_int ha; obtain ⟨u, rfl⟩ := er_int hb
  exact PyProof.Rows.sub_int' ⟨h, s.heap, s.toks + 1, rfl, Step.refl R, q⟩
theorem op_mul : OpOk W n .Mult P.mul := by
  rintro A E s va vb h Q cx R ⟨x, y, ha, hb, hm, q⟩
  obtain ⟨t, rfl⟩ := er_int ha; obtain ⟨u, rfl⟩ := er_int hb
  exact PyProof.Rows.mul_int ⟨h, s.heap, s.toks + 1, rfl, Step.refl R, q⟩ hm
theorem op_fdiv : OpOk W n .FloorDiv P.fdiv := by
  rintro A E s va vb h Q cx R ⟨x, y, ha, hb, hy, hp, q⟩
  obtain ⟨t, rfl⟩ := er_int ha; obtain ⟨u, rfl⟩ := er_int hb
  exact PyProof.Rows.floordiv_int hy ⟨h, s.heap, s.toks + 1, rfl, Step.refl R, q⟩ (.inl hp)
theorem op_fmod : OpOk W n .Mod P.fmod := by
  rintro A E s va vb h Q cx R ⟨x, y, ha, hb, hy, q⟩
  obtain ⟨t, rfl⟩ := er_int ha; obtain ⟨u, rfl⟩ := er_int hb
  exact PyProof.Rows.mod_int' hy ⟨h, s.heap, s.toks + 1, rfl, Step.refl R, q⟩
theorem op_shr : OpOk W n .RShift P.shr := by
  rintro A E s va vb h Q cx R ⟨x, y, ha, hb, hy, q⟩
  obtain ⟨t, rfl⟩ := er_int ha; obtain ⟨u, rfl⟩ := er_int hb
  exact PyProof.Rows.rshift_int hy ⟨h, s.heap, s.toks + 1, rfl, Step.refl R, q⟩
theorem op_band : OpOk W n .BitAnd P.band := by
  rintro A E s va vb h Q cx R ⟨x, y, ha, hb, q⟩
  obtain ⟨t, rfl⟩ := er_int ha; obtain ⟨u, rfl⟩ := er_int hb
  exact PyProof.Rows.and_int ⟨h, s.heap, s.toks + 1, rfl, Step.refl R, q⟩
theorem op_pow : OpOk W n .Pow P.pow := by
  rintro A E s va vb h Q cx R ⟨x, y, ha, hb, hy, hm, q⟩
  obtain ⟨t, rfl⟩ := er_int ha; obtain ⟨u, rfl⟩ := er_int hb
  exact PyProof.Rows.pow_int hy hm ⟨h, s.heap, s.toks + 1, rfl, Step.refl R, q⟩

theorem cm_lt : CmpOk W n .Lt P.lt := by
  rintro A E s va vb h Q cx R ⟨x, y, ha, hb, q⟩
  obtain ⟨t, rfl⟩ := er_int ha; obtain ⟨u, rfl⟩ := er_int hb
  exact wpAny_lt_int ⟨h, s.heap, s.toks, rfl, Step.refl R, _, rfl, q⟩
theorem cm_le : CmpOk W n .LtE P.le := by
  rintro A E s va vb h Q cx R ⟨x, y, ha, hb, q⟩
  obtain ⟨t, rfl⟩ := er_int ha; obtain ⟨u, rfl⟩ := er_int hb
  exact PyProof.Rows.le_int ⟨h, s.heap, s.toks, rfl, Step.refl R, _, rfl, q⟩
theorem cm_gt : CmpOk W n .Gt P.gt := by
  rintro A E s va vb h Q cx R ⟨x, y, ha, hb, q⟩
  obtain ⟨t, rfl⟩ := er_int ha; obtain ⟨u, rfl⟩ := er_int hb
  exact PyProof.Rows.gt_int ⟨h, s.heap, s.toks, rfl, Step.refl R, _, rfl, q⟩
theorem cm_ge : CmpOk W n .GtE P.ge := by
  rintro A E s va vb h Q cx R ⟨x, y, ha, hb, q⟩
  obtain ⟨t, rfl⟩ := er_int ha; obtain ⟨u, rfl⟩ := er_int hb
  exact PyProof.Rows.ge_int ⟨h, s.heap, s.toks, rfl, Step.refl R, _, rfl, q⟩
theorem cm_eqI : CmpOk W n .Eq P.eqI := by
  rintro A E s va vb h Q cx R ⟨x, y, ha, hb, q⟩
  obtain ⟨t, rfl⟩ := er_int ha; obtain ⟨u, rfl⟩ := er_int hb
  exact PyProof.Rows.eq_int ⟨h, s.heap, s.toks, rfl, Step.refl R, _, rfl, q⟩
theorem cm_neI : CmpOk W n .NotEq P.neI := by
  rintro A E s va vb h Q cx R ⟨x, y, ha, hb, q⟩
  obtain ⟨t, rfl⟩ := er_int ha; obtain ⟨u, rfl⟩ := er_int hb
  exact PyProof.Rows.ne_int ⟨h, s.heap, s.toks, rfl, Step.refl R, _, rfl, q⟩
theorem cm_isN : CmpOk W n .Is P.isN := by
  rintro A E s va vb h Q cx R ⟨hb, ho, q⟩
  obtain rfl := er_none hb
  cases va with
  | none => exact wpAny_is_plain rfl ⟨h, s.heap, s.toks, rfl, Step.refl R, _, rfl, q⟩
  | bool b => exact wpAny_is_plain (by cases b <;> rfl) ⟨h, s.heap, s.toks, rfl, Step.refl R, _, rfl, q⟩
  | int i t => exact wpAny_is_plain rfl ⟨h, s.heap, s.toks, rfl, Step.refl R, _, rfl, q⟩
  | ref a => exact wpAny_is_plain rfl ⟨h, s.heap, s.toks, rfl, Step.refl R, _, rfl, q⟩
  | _ => exact absurd rfl ho
theorem cm_isNotN : CmpOk W n .IsNot P.isNotN := by
  rintro A E s va vb h Q cx R ⟨hb, ho, q⟩
  obtain rfl := er_none hb
  cases va with
  | none => exact wpAny_isNot_plain rfl ⟨h, s.heap, s.toks, rfl, Step.refl R, _, rfl, q⟩
  | bool b => exact wpAny_isNot_plain (by cases b <;> rfl) ⟨h, s.heap, s.toks, rfl, Step.refl R, _, rfl, q⟩
  | int i t => exact wpAny_isNot_plain rfl ⟨h, s.heap, s.toks, rfl, Step.refl R, _, rfl, q⟩
  | ref a => exact wpAny_isNot_plain rfl ⟨h, s.heap, s.toks, rfl, Step.refl R, _, rfl, q⟩
  | _ => exact absurd rfl ho
end

/-! tests, branches -/
namespace T
def not (t : TT) : TT := fun loc h Q => t loc h fun b h1 => Q (!b) h1
def and (t u : TT) : TT := fun loc h Q => t loc h fun b h1 => if b then u loc h1 Q else Q false h1
def or (t u : TT) : TT := fun loc h Q => t loc h fun b h1 => if b then Q true h1 else u loc h1 Q
def ifx (t : TT) (a b : ET) : ET := fun loc h Q => t loc h fun c h1 => if c then a loc h1 Q else b loc h1 Q
-- truth of a value
def truB (e : ET) : TT := fun loc h Q => e loc h fun v h1 => ∃ b, v = .bool b ∧ Q b h1
def truL (e : ET) : TT := fun loc h Q => e loc h fun v h1 => ∃ a xs, v = .ref a ∧ h1 a = some (.list xs) ∧ xs.length < 2 ^ 24 ∧ Q (!xs.isEmpty) h1
end T

section
variable {W : Wd} (ok : WdOk W) {n : Nat} {sc : Scope} {vm : VM}
include ok

theorem ts_not {e : Expr} {t : TT} {pos : Pos} (he : TsOk W n sc vm e t) : TsOk W n sc vm (.UnaryOp .Not e pos) (T.not t) := by
  intro env A E s loc h Q st q
  refine wpAny_isTrue_Not (he.use ok st q fun b h1 hp1 tk1 q1 st1 S1 => ⟨h1, hp1, tk1, rfl, S1, q1⟩)

theorem ts_and2 {a b : Expr} {t u : TT} {pos : Pos} (ha : TsOk W n sc vm a t) (hb : TsOk W n sc vm b u) : TsOk W n sc vm (.BoolOp .And [a, b] pos) (T.and t u) := by
  intro env A E s loc h Q st q
  refine wpAny_isTrue_BoolOp (wpAny_allTrue_And_cons (ha.use ok st q fun c h1 hp1 tk1 q1 st1 S1 => ?_))
  cases c with
  | false => exact ⟨h1, hp1, tk1, rfl, S1, q1⟩
  | true =>
    refine wpAny_allTrue_And_cons (hb.use ok st1 q1 fun d h2 hp2 tk2 q2 st2 S2 => ?_)
    cases d with
    | false => exact ⟨h2, hp2, tk2, rfl, S1.trans S2, q2⟩
    | true => exact wpAny_allTrue_And_nil ⟨h2, hp2, tk2, rfl, S1.trans S2, q2⟩
theorem ts_or2 {a b : Expr} {t u : TT} {pos : Pos} (ha : TsOk W n sc vm a t) (hb : TsOk W n sc vm b u) : TsOk W n sc vm (.BoolOp .Or [a, b] pos) (T.or t u) := by
  intro env A E s loc h Q st q
  refine wpAny_isTrue_BoolOp (wpAny_allTrue_Or_cons (ha.use ok st q fun c h1 hp1 tk1 q1 st1 S1 => ?_))
  cases c with
  | true => exact ⟨h1, hp1, tk1, rfl, S1, q1⟩
  | false =>
    refine wpAny_allTrue_Or_cons (hb.use ok st1 q1 fun d h2 hp2 tk2 q2 st2 S2 => ?_)
    cases d with
    | true => exact ⟨h2, hp2, tk2, rfl, S1.trans S2, q2⟩
    | false => exact wpAny_allTrue_Or_nil ⟨h2, hp2, tk2, rfl, S1.trans S2, q2⟩

theorem ev_ifx {t a b : Expr} {c : TT} {f g : ET} {pos : Pos} (ht : TsOk W n sc vm t c) (ha : EvOk W n sc vm a f) (hb : EvOk W n sc vm b g) :
    EvOk W n sc vm (.IfExp t a b pos) (T.ifx c f g) := by
  intro env A E s loc h Q st q
  refine wpAny_IfExp (ht.use ok st q fun d h1 hp1 tk1 q1 st1 S1 => ?_)
  cases d with
  | true => exact wpAny_mono (ha env A E _ loc h1 Q st1 q1) (fun v s' r => Res.bind (tk := tk1) S1 r) fun _ _ x => x
  | false => exact wpAny_mono (hb env A E _ loc h1 Q st1 q1) (fun v s' r => Res.bind (tk := tk1) S1 r) fun _ _ x => x

theorem ts_bool {e : Expr} {t : ET} (he : EvOk W n sc vm e t) (hw : ∀ env, isTrue e env (eval e env) = (do let v ← eval e env; standAt e.pos; holding [v] (truthy v))) :
    TsOk W n sc vm e (T.truB t) := by
  intro env A E s loc h Q st q
  refine wpAny_isTrue_value (he.use ok st q fun v h1 hp1 tk1 q1 st1 S1 => ?_) (hw env)
  obtain ⟨b, hb, q2⟩ := q1
  rw [er_bool hb]
  exact wpAny_truthy_bool ⟨h1, hp1, tk1, rfl, S1, q2⟩
theorem ts_list {e : Expr} {t : ET} (he : EvOk W n sc vm e t) (hw : ∀ env, isTrue e env (eval e env) = (do let v ← eval e env; standAt e.pos; holding [v] (truthy v))) :
    TsOk W n sc vm e (T.truL t) := by
  intro env A E s loc h Q st q
  refine wpAny_isTrue_value (he.use ok st q fun v h1 hp1 tk1 q1 st1 S1 => ?_) (hw env)
  obtain ⟨a, xs, hv, ha, hl, q2⟩ := q1
  obtain rfl := er_ref hv
  obtain ⟨vs, hvs, hx⟩ := st1.rel.cells a _ ha
  have hlen : vs.size = xs.length := by rw [← hx, List.length_map, Array.length_toList]
  refine wpAny_truthy_list hvs.isList (by rw [hlen]; omega) ⟨h1, hp1, tk1 + 1 + 1, rfl, S1, ?_⟩
  have : vs.isEmpty = xs.isEmpty := by
    rw [← hx]; cases vs with | mk l => cases l <;> rfl
  rw [this]; exact q2
end

/-! statements -/
namespace T
def seq (a b : ST) : ST := fun loc h Q => a loc h fun f loc1 h1 => match f with | .next => b loc1 h1 Q | f => Q f loc1 h1
def skip : ST := fun loc h Q => Q .next loc h
def asg (i : Nat) (e : ET) : ST := fun loc h Q => e loc h fun v h1 => Q .next (upd loc i v) h1
def ife (t : TT) (a b : ST) : ST := fun loc h Q => t loc h fun c h1 => if c then a loc h1 Q else b loc h1 Q
def ret (e : ET) : ST := fun loc h Q => e loc h fun v h1 => Q (.ret v) loc h1
def expr (e : ET) : ST := fun loc h Q => e loc h fun v h1 => Q .next loc h1
def raise : ST := fun _ _ _ => False
def while_ (t : TT) (b : ST) : ST := fun loc h Q => ∃ (I : Nat → Loc → AH → Prop) (k : Nat), I k loc h ∧ ∀ k loc h, I k loc h →
  t loc h fun c h1 => if c then b loc h1 fun f loc2 h2 => match f with
      | .next | .cont => ∃ m, m < k ∧ I m loc2 h2
      | .brk => Q .next loc2 h2
      | .ret v => Q (.ret v) loc2 h2
    else Q .next loc h1
end T

section
variable {W : Wd} (ok : WdOk W) {n : Nat} {sc : Scope} {vm : VM}

/-- a state behind a statement -/
theorem St.after (ok : WdOk W) {env : Env} {A : Around} {loc loc' : Loc} {h h' : AH} {s : Shared} {hp : Heap} {tk : Nat} (st : St W n sc vm env A loc h s)
    (S : SStep W env h s.heap h' hp) (F : Frm W env vm loc' h' hp) : St W n sc vm env A loc' h' { s with heap := hp, toks := tk } :=
  ⟨st.sc, st.cx, F, S.rel ok st.rel F (F.own ok)⟩

include ok
theorem bk_nil : BkOk W n sc vm [] T.skip := by
  intro env A E s loc h Q st q
  exact wpAny_execs_nil ⟨loc, h, s.heap, s.toks, rfl, (Step.refl st.rel).s, st.fr, q⟩

theorem bk_cons {a : Stmt} {r : List Stmt} {f g : ST} (ha : ExOk W n sc vm a f) (hr : BkOk W n sc vm r g) : BkOk W n sc vm (a :: r) (T.seq f g) := by
  intro env A E s loc h Q st q
  refine wpAny_execs_cons (wpAny_mono (ha env A E s loc h _ st q) ?_ fun _ _ x => x)
  rintro fl s' ⟨loc1, h1, hp1, tk1, rfl, S1, F1, q1⟩
  cases fl with
  | next =>
    have st1 := st.after ok (tk := tk1) S1 F1
    refine wpAny_mono (hr env A E _ loc1 h1 Q st1 q1) ?_ fun _ _ x => x
    rintro f2 s2 ⟨loc2, h2, hp2, tk2, rfl, S2, F2, q2⟩
    exact ⟨loc2, h2, hp2, tk2, rfl, S1.trans S2 F1.how, F2, q2⟩
  | brk => exact ⟨loc1, h1, hp1, tk1, rfl, S1, F1, q1⟩
  | cont => exact ⟨loc1, h1, hp1, tk1, rfl, S1, F1, q1⟩
  | ret v => exact ⟨loc1, h1, hp1, tk1, rfl, S1, F1, q1⟩

theorem bk_one {a : Stmt} {f : ST} (ha : ExOk W n sc vm a f) : BkOk W n sc vm [a] f := by
  intro env A E s loc h Q st q
  refine wpAny_execs_cons (wpAny_mono (ha env A E s loc h _ st q) ?_ fun _ _ x => x)
  rintro fl s' ⟨loc1, h1, hp1, tk1, rfl, S1, F1, q1⟩
  cases fl with
  | next => exact wpAny_execs_nil ⟨loc1, h1, hp1, tk1, rfl, S1, F1, q1⟩
  | brk => exact ⟨loc1, h1, hp1, tk1, rfl, S1, F1, q1⟩
  | cont => exact ⟨loc1, h1, hp1, tk1, rfl, S1, F1, q1⟩
  | ret v => exact ⟨loc1, h1, hp1, tk1, rfl, S1, F1, q1⟩

theorem ex_if {t : Expr} {a b : List Stmt} {c : TT} {f g : ST} {pos : Pos} (ht : TsOk W n sc vm t c) (ha : BkOk W n sc vm a f) (hb : BkOk W n sc vm b g) :
    ExOk W n sc vm (.If t a b pos) (T.ife c f g) := by
  intro env A E s loc h Q st q
  refine wpAny_If (ht.use ok st q fun d h1 hp1 tk1 q1 st1 S1 => ?_)
  have key : ∀ {l : List Stmt} {k : ST}, BkOk W n sc vm l k → k loc h1 Q → wpAny (model W.prog W.w) A (execs l env) (SRes W env vm h s Q) E { s with heap := hp1, toks := tk1 } := by
    intro l k hl q1
    refine wpAny_mono (hl env A E _ loc h1 Q st1 q1) ?_ fun _ _ x => x
    rintro f2 s2 ⟨loc2, h2, hp2, tk2, rfl, S2, F2, q2⟩
    exact ⟨loc2, h2, hp2, tk2, rfl, S1.s.trans S2 st1.fr.how, F2, q2⟩
  cases d with
  | true => exact key ha q1
  | false => exact key hb q1

theorem ex_return {e : Expr} {f : ET} {pos : Pos} (he : EvOk W n sc vm e f) : ExOk W n sc vm (.Return (some e) pos) (T.ret f) := by
  intro env A E s loc h Q st q
  refine wpAny_Return_some (he.use ok st q fun v h1 hp1 tk1 q1 st1 S1 => ?_)
  exact ⟨loc, h1, hp1, tk1, rfl, S1.s, st1.fr, q1⟩

theorem ex_expr {e : Expr} {f : ET} {pos : Pos} (he : EvOk W n sc vm e f) (hs : ∀ env, swapsWith e none pos.line env = pure false) :
    ExOk W n sc vm (.Expr e pos) (T.expr f) := by
  intro env A E s loc h Q st q
  refine wpAny_Expr_any (he.use ok st q fun v h1 hp1 tk1 q1 st1 S1 => ?_) (by unfold interactive; rw [st.fr.hk]; rfl) (hs env)
  exact ⟨loc, h1, hp1, tk1, rfl, S1.s, st1.fr, q1⟩

def VInj (vm : VM) : Prop := ∀ i j x, vm i = some x → vm j = some x → i = j

omit ok in
/-- a store into the frame, as a tree: one object of the frame's own changes -/
theorem store_core (hj : VInj vm) {env : Env} {A : Around} {E : Value → Shared → Prop} {loc : Loc} {h : AH} {s : Shared} {i : Nat} {x : Str} {v : Value} {P : Unit → Shared → Prop}
    (F : Frm W env vm loc h s.heap) (hv : vm i = some x) (hl : env.kindOf x = some .local ∨ env.kindOf x = some .cell)
    (k : ∀ a hp tk, (a = env.locals ∨ (env.kindOf x = some .cell ∧ env.cells.lookup x = some a)) → (∀ o, s.heap.get? a = some o → ¬ IsTupO o) → h a = none → W.B ≤ a → Heap.SameBut a s.heap hp → Frm W env vm (upd loc i (er v)) h hp → P () { s with heap := hp, toks := tk }) :
    wpAny (model W.prog W.w) A (storeName env x v) P E s := by
  obtain ⟨m, hm, hm2⟩ := F.ns
  rcases hl with hl | hl
  · refine wpAny_storeName_local hl hm (fun h' hn hs => k env.locals h' _ (.inl rfl) (ns_notTup hm) F.nL F.LB hs ?_) (by rw [F.hk]; rfl)
    have hcell : ∀ {c : Addr} {v : Option Value} {y : Str}, env.cells.lookup y = some c → s.heap.IsCell c v → h'.IsCell c v := fun e hc => hc.sameBut hs (F.cl _ _ e).2.2.1
    refine ⟨F.hk, F.hg, F.hb, F.LB, F.nL, ⟨_, hn, fun j y av h1 h2 h3 => ?_⟩, fun y c e => ?_, fun j y av h1 h2 h3 => ?_, F.ap, F.hc⟩
    · by_cases hji : j = i
      · subst hji
        rw [upd_same] at h3; cases h3
        obtain rfl : y = x := Option.some.inj (h1.symm.trans hv)
        exact ⟨v, if_pos rfl, rfl⟩
      · rw [upd_ne hji] at h3
        obtain ⟨w, hw1, hw2⟩ := hm2 j y av h1 h2 h3
        exact ⟨w, by rw [if_neg (fun q : y = x => hji (hj j i x (q ▸ h1) hv))]; exact hw1, hw2⟩
    · obtain ⟨a1, a2, a3, w, hw⟩ := F.cl y c e
      exact ⟨a1, a2, a3, w, hcell e hw⟩
    · have hji : j ≠ i := fun q => by
        subst q
        obtain rfl : y = x := Option.some.inj (h1.symm.trans hv)
        rw [hl] at h2; rcases h2 with h2 | h2 <;> cases h2
      rw [upd_ne hji] at h3
      obtain ⟨c, w, hc, hw1, hw2⟩ := F.cv j y av h1 h2 h3
      exact ⟨c, w, hc, hcell hc hw1, hw2⟩
  · obtain ⟨c, hc⟩ := F.hc x hl
    obtain ⟨b1, b2, b3, v0, hv0⟩ := F.cl x c hc
    refine wpAny_storeName_cell F.hk hl hc hv0 (fun h' hv' hs => k c h' s.toks (.inr ⟨hl, hc⟩) (cell_notTup hv0) b2 b1 hs ?_)
    refine ⟨F.hk, F.hg, F.hb, F.LB, F.nL, ⟨m, hm.sameBut hs (Ne.symm b3), fun j y av h1 h2 h3 => ?_⟩, fun y d e => ?_, fun j y av h1 h2 h3 => ?_, F.ap, F.hc⟩
    · have hji : j ≠ i := fun q => by
        subst q
        obtain rfl : y = x := Option.some.inj (h1.symm.trans hv)
        rw [hl] at h2; cases h2
      rw [upd_ne hji] at h3
      exact hm2 j y av h1 h2 h3
    · obtain ⟨a1, a2, a3, w, hw⟩ := F.cl y d e
      refine ⟨a1, a2, a3, ?_⟩
      by_cases hd : d = c
      · subst hd; exact ⟨_, hv'⟩
      · exact ⟨w, hw.sameBut hs hd⟩
    · by_cases hji : j = i
      · subst hji
        rw [upd_same] at h3; cases h3
        obtain rfl : y = x := Option.some.inj (h1.symm.trans hv)
        exact ⟨c, v, hc, hv', rfl⟩
      · rw [upd_ne hji] at h3
        obtain ⟨d, w, hd, hw1, hw2⟩ := F.cv j y av h1 h2 h3
        refine ⟨d, w, hd, hw1.sameBut hs (fun q => ?_), hw2⟩
        subst q
        obtain rfl := F.ap y x d hd hc
        exact hji (hj j i y h1 hv)

omit ok in
theorem store_ok (hj : VInj vm) {env : Env} {A : Around} {E : Value → Shared → Prop} {loc : Loc} {h : AH} {s : Shared} {i : Nat} {x : Str} {v : Value} {P : Unit → Shared → Prop}
    (F : Frm W env vm loc h s.heap) (R : Rel W h s.heap) (hv : vm i = some x) (hl : env.kindOf x = some .local ∨ env.kindOf x = some .cell)
    (k : ∀ hp tk, SStep W env h s.heap h hp → Frm W env vm (upd loc i (er v)) h hp → P () { s with heap := hp, toks := tk }) :
    wpAny (model W.prog W.w) A (storeName env x v) P E s := by
  refine store_core hj F hv hl fun a hp tk ha hnt hn hB hs F' => k hp tk ?_ F'
  have ho : Own env a := ha.imp id fun q => ⟨x, q.2⟩
  have hk : ∀ b o, b ≠ a → s.heap.get? b = some o → hp.get? b = some o := fun b o hb e => (hs.2 b hb).trans e
  refine ⟨fun b c e => ?_, fun b o e n _ => hk b o (fun q => n (q ▸ ho)) e, fun b h1 h2 => absurd h1 h2, fun _ e => e⟩
  have hb : b ≠ a := fun q => by rw [q, hn] at e; cases e
  exact (R.cells b c e).mono (fun o => hk b o hb) (fun b' o' e' t' => hk b' o' (fun q => hnt o' (q ▸ e') t') e')

theorem ex_asg (hj : VInj vm) {i : Nat} {x : Str} {e : Expr} {f : ET} {p pos : Pos} (he : EvOk W n sc vm e f) (hv : vm i = some x)
    (hl : sc.names.lookup x = some .local ∨ sc.names.lookup x = some .cell) (hs : ∀ env : Env, env.scope = sc → swapsWith e (some (.Name x p)) pos.line env = pure false) :
    ExOk W n sc vm (.Assign [.Name x p] e pos) (T.asg i f) := by
  intro env A E s loc h Q st q
  refine wpAny_Assign_Name (he.use ok st q fun v h1 hp1 tk1 q1 st1 S1 => ?_) (hs env st.sc)
  refine store_ok hj st1.fr st1.rel hv (by unfold Env.kindOf; rw [st.sc]; exact hl) fun hp tk S2 F2 => ?_
  exact ⟨_, h1, hp, tk, rfl, S1.s.trans S2 st1.fr.how, F2, q1⟩

omit ok in
theorem noted_false {M : Model} {A : Around} {env : Env} {v : Value} {s : Shared} (h : (fun _ _ => False : Value → Shared → Prop) v s) {P : Value → Shared → Prop} : P v s := h.elim

theorem ex_while {t : Expr} {b : List Stmt} {c : TT} {f : ST} {pos : Pos} (ht : TsOk W n sc vm t c) (hb : BkOk W n sc vm b f) : ExOk W n sc vm (.While t b [] pos) (T.while_ c f) := by
  rintro env A E s loc h Q st ⟨I, k, hI, turn⟩
  refine wpAny_While ?_
  refine codeAny_whileLoop (prog := W.prog) (w := W.w) (fun k s' => ∃ loc' h' hp tk, s' = { s with heap := hp, toks := tk } ∧ SStep W env h s.heap h' hp ∧ Frm W env vm loc' h' hp ∧ I k loc' h') ?_ k
    ⟨loc, h, s.heap, s.toks, rfl, (Step.refl st.rel).s, st.fr, hI⟩
  rintro k _ ⟨loc1, h1, hp1, tk1, rfl, S1, F1, hI1⟩
  have st1 := st.after ok (tk := tk1) S1 F1
  refine ht.use ok st1 (turn k loc1 h1 hI1) fun d h2 hp2 tk2 q2 st2 S2 => ?_
  cases d with
  | true =>
    refine wpAny_mono (hb env A (fun _ _ => False) _ loc1 h2 _ st2 q2) ?_ fun _ _ x => x.elim
    rintro f2 s2 ⟨loc3, h3, hp3, tk3, rfl, S3, F3, q3⟩
    have S := (S1.trans S2.s F1.how).trans S3 st2.fr.how
    cases f2 with
    | next => obtain ⟨m, hm, q3⟩ := q3; exact ⟨m, hm, loc3, h3, hp3, tk3, rfl, S, F3, q3⟩
    | cont => obtain ⟨m, hm, q3⟩ := q3; exact ⟨m, hm, loc3, h3, hp3, tk3, rfl, S, F3, q3⟩
    | brk => exact ⟨loc3, h3, hp3, tk3, rfl, S, F3, q3⟩
    | ret v => exact ⟨loc3, h3, hp3, tk3, rfl, S, F3, q3⟩
  | false => exact wpAny_execs_nil ⟨loc1, h2, hp2, tk2, rfl, S1.trans S2.s F1.how, st2.fr, q2⟩
end
end Mini

/-! MiniC -/
namespace Mini

/-! globals -/
def GlobAt (W : Wd) (x : Str) (v : Value) : Prop :=
  ∀ hp : Heap, (∀ b o, W.h₀.get? b = some o → hp.get? b = some o) → ∃ mg mb, hp.Ns mainGlobals mg ∧ hp.Ns builtinsNs mb ∧ (mg x = some v ∨ (mg x = none ∧ mb x = some v))

theorem glob_name {W : Wd} {n : Nat} {sc : Scope} {vm : VM} {env : Env} {A : Around} {loc : Loc} {h : AH} {s : Shared} {E : Value → Shared → Prop} {x : Str} {pos : Pos} {v : Value} {P : Value → Shared → Prop}
    (g : GlobAt W x v) (st : St W n sc vm env A loc h s) (hx : sc.names.lookup x = some .globalImplicit) (hd : (x == ("__debug__" : Str)) = false) (k : P v s) :
    wpAny (model W.prog W.w) A (eval (.Name x pos) env) P E s := by
  obtain ⟨mg, mb, h1, h2, h3⟩ := g s.heap st.rel.base
  have hk : env.kindOf x = some .globalImplicit := by unfold Env.kindOf; rw [st.sc]; exact hx
  rw [← st.fr.hg] at h1
  rw [← st.fr.hb] at h2
  rcases h3 with h3 | ⟨h3, h4⟩
  · exact Name_function_global st.fr.hk hk (loadGlobal_global h1 h3 k) hd
  · exact Name_function_global st.fr.hk hk (loadGlobal_builtin h1 h3 h2 h4 k) hd

namespace T
def glob (v : AV) : ET := fun _ h Q => Q v h
end T

/-- what is to hold whatever the new cell's place -/
def New (B : Addr) (h : AH) (c : Cell) (Q : AV → AH → Prop) : Prop := ∀ a, B ≤ a → h a = none → Q (.ref a) (upd h a c)

abbrev EsT := Loc → AH → (List AV → AH → Prop) → Prop
namespace T
def enil : EsT := fun _ h Q => Q [] h
def econs (f : ET) (g : EsT) : EsT := fun loc h Q => f loc h fun v h1 => g loc h1 fun vs h2 => Q (v :: vs) h2
def call (t : EsT) (p : List AV → AH → (AV → AH → Prop) → Prop) : ET := fun loc h Q => t loc h fun vs h1 => p vs h1 Q
def callv (i : Nat) (f : Addr) (t : EsT) (p : List AV → AH → (AV → AH → Prop) → Prop) : ET := fun loc h Q => loc i = some (.ref f) ∧ t loc h fun vs h1 => p vs h1 Q
def list (B : Addr) (t : EsT) : ET := fun loc h Q => t loc h fun vs h1 => vs.length ≤ 2 ^ 20 ∧ New B h1 (.list vs) Q
def tup (B : Addr) (t : EsT) : ET := fun loc h Q => t loc h fun vs h1 => vs.length ≤ 2 ^ 20 ∧ New B h1 (.tup vs) Q
end T

def ResL (W : Wd) (h : AH) (s : Shared) (Q : List AV → AH → Prop) : List Value → Shared → Prop :=
  fun v s' => ∃ h' hp tk, s' = { s with heap := hp, toks := tk } ∧ Step W h s.heap h' hp ∧ Q (v.map er) h'

def EsOk (W : Wd) (n : Nat) (sc : Scope) (vm : VM) (es : List Expr) (t : EsT) : Prop :=
  ∀ env A E s loc h Q pos, St W n sc vm env A loc h s → t loc h Q → wpAny (model W.prog W.w) A (spliced (backTo pos (starEach es env))) (ResL W h s Q) E s

def FOk (W : Wd) (n : Nat) (f : Value) (p : List AV → AH → (AV → AH → Prop) → Prop) : Prop :=
  ∀ A E s vs h Q, Cx n A → Rel W h s.heap → p (vs.map er) h Q → wpAny (model W.prog W.w) A (call f vs) (Res W h s Q) E s
def FkOk (W : Wd) (n : Nat) (f : Value) (kn : Str) (p : List AV → AH → (AV → AH → Prop) → Prop) : Prop :=
  ∀ A E s vs kv h Q, Cx n A → Rel W h s.heap → p ((vs ++ [kv]).map er) h Q → wpAny (model W.prog W.w) A (call f vs [(kn, kv)]) (Res W h s Q) E s

theorem Cx.le {m n : Nat} {A : Around} (h : m ≤ n) (c : Cx n A) : Cx m A := ⟨c.hd, by have := c.dp; omega, by have := c.un; omega⟩
theorem FOk.le {W : Wd} {m n : Nat} {f : Value} {p} (h : m ≤ n) (x : FOk W m f p) : FOk W n f p := fun A E s vs hh Q cx => x A E s vs hh Q (cx.le h)
theorem FkOk.le {W : Wd} {m n : Nat} {f : Value} {kn : Str} {p} (h : m ≤ n) (x : FkOk W m f kn p) : FkOk W n f kn p := fun A E s vs kv hh Q cx => x A E s vs kv hh Q (cx.le h)

section
variable {W : Wd} (ok : WdOk W) {n : Nat} {sc : Scope} {vm : VM}
include ok

theorem ev_glob {x : Str} {v : Value} {pos : Pos} (g : GlobAt W x v) (hx : sc.names.lookup x = some .globalImplicit) (hd : (x == ("__debug__" : Str)) = false) :
    EvOk W n sc vm (.Name x pos) (T.glob (er v)) := by
  intro env A E s loc h Q st q
  exact glob_name g st hx hd ⟨h, s.heap, s.toks, rfl, Step.refl st.rel, q⟩

theorem es_nil : EsOk W n sc vm [] T.enil := by
  intro env A E s loc h Q pos st q
  exact Calls.spliced_nil ⟨h, s.heap, s.toks, rfl, Step.refl st.rel, q⟩

theorem es_cons {e : Expr} {es : List Expr} {f : ET} {g : EsT} (he : EvOk W n sc vm e f) (hes : EsOk W n sc vm es g)
    (hs : ∀ env, starEach (e :: es) env = (false, eval e env) :: starEach es env) : EsOk W n sc vm (e :: es) (T.econs f g) := by
  intro env A E s loc h Q pos st q
  rw [hs]
  refine Calls.spliced_cons (he.use ok st q fun v h1 hp1 tk1 q1 st1 S1 => ?_)
  refine wpAny_mono (hes env A E _ loc h1 _ pos st1 q1) ?_ fun _ _ x => x
  rintro vs s' ⟨h2, hp2, tk2, rfl, S2, q2⟩
  exact ⟨h2, hp2, tk2, rfl, S1.trans S2, q2⟩

theorem ev_list {es : List Expr} {t : EsT} {pos : Pos} (hes : EsOk W n sc vm es t) : EvOk W n sc vm (.List es pos) (T.list W.B t) := by
  intro env A E s loc h Q st q
  refine wpAny_List_spliced (wpAny_mono (hes env A E s loc h _ pos st q) ?_ fun _ _ x => x)
  rintro vs s' ⟨h1, hp1, tk1, rfl, S1, hlen, q1⟩
  rw [List.length_map] at hlen
  refine ⟨by rw [sizeLine_eq]; omega, ?_⟩
  have R1 := S1.rel ok st.rel
  refine ⟨_, _, tk1, rfl, S1.trans (Step.push (c := .list (vs.map er)) R1 ⟨_, ⟨0, Heap.get?_push_size _ rfl⟩, by simp⟩), q1 _ R1.size (R1.fresh (get_size_none _))⟩

theorem ev_tup {es : List Expr} {t : EsT} {kk : Nat} {pos : Pos} (hes : EsOk W n sc vm es t) : EvOk W n sc vm (.Tuple es kk pos) (T.tup W.B t) := by
  intro env A E s loc h Q st q
  refine wpAny_Tuple_spliced (wpAny_mono (hes env A E s loc h _ pos st q) ?_ fun _ _ x => x)
  rintro vs s' ⟨h1, hp1, tk1, rfl, S1, hlen, q1⟩
  rw [List.length_map] at hlen
  refine ⟨by rw [sizeLine_eq]; omega, ?_⟩
  have R1 := S1.rel ok st.rel
  refine ⟨_, _, tk1, rfl, S1.trans (Step.push (c := .tup (vs.map er)) R1 ⟨_, ⟨0, Heap.get?_push_size _ rfl⟩, by simp⟩), q1 _ R1.size (R1.fresh (get_size_none _))⟩

/-- a call of a built-in function or type by its global name -/
theorem ev_callB {x : Str} {f : Value} {np pos : Pos} {e : Expr} {es : List Expr} {t : EsT} {p} (hf : (∃ id, f = .builtin id) ∨ ∃ T, f = .type T) (g : GlobAt W x f) (hx : sc.names.lookup x = some .globalImplicit)
    (hd : (x == ("__debug__" : Str)) = false) (hes : EsOk W n sc vm (e :: es) t) (hp : FOk W n f p)
    (hs : ∀ env, starEach (e :: es) env = (false, eval e env) :: starEach es env) (hpl : ∀ env pos, (backTo pos (starEach es env)).any (·.1) = false) :
    EvOk W n sc vm (.Call (.Name x np) (e :: es) [] pos) (T.call t p) := by
  intro env A E s loc h Q st q
  refine wpAny_Call_NameR (glob_name g st hx hd ?_)
  have key : wpAny (model W.prog W.w) A (spliced (backTo pos (starEach (e :: es) env))) (fun vs s₁ => wpAny (model W.prog W.w) A (call f vs) (Res W h s Q) E s₁) E s := by
    refine wpAny_mono (hes env A E s loc h _ pos st q) ?_ fun _ _ x => x
    rintro vs s' ⟨h1, hp1, tk1, rfl, S1, q1⟩
    exact wpAny_mono (hp A E _ vs h1 Q st.cx (S1.rel ok st.rel) q1) (fun v s' r => Res.bind (tk := tk1) S1 r) fun _ _ x => x
  have hany : (backTo pos (starEach (e :: es) env)).any (·.1) = false := by
    rw [hs]
    show (false || (backTo pos (starEach es env)).any (·.1)) = false
    rw [hpl]; rfl
  rcases hf with ⟨id, rfl⟩ | ⟨T, rfl⟩
  · refine Calls.callWith_builtin hany ?_
    rw [hs] at key ⊢
    exact Calls.evalArgs_plain key
  · refine PyProof.Rows.callWith_type hany ?_
    rw [hs] at key ⊢
    exact Calls.evalArgs_plain key

/-- a call of a def by its global name -/
theorem ev_callF {x : Str} {f : Addr} {o : Obj} {fd : FuncData} {np pos : Pos} {e : Expr} {es : List Expr} {t : EsT} {p} (g : GlobAt W x (.ref f)) (hx : sc.names.lookup x = some .globalImplicit)
    (hd : (x == ("__debug__" : Str)) = false) (ho : W.h₀.get? f = some o) (hod : o.data = .func fd) (hes : EsOk W n sc vm (e :: es) t) (hp : FOk W n (.ref f) p)
    (hs : ∀ env, starEach (e :: es) env = (false, eval e env) :: starEach es env) :
    EvOk W n sc vm (.Call (.Name x np) (e :: es) [] pos) (T.call t p) := by
  intro env A E s loc h Q st q
  refine wpAny_Call_NameR (glob_name g st hx hd ?_)
  refine Calls.callWith_function (o := o) (fd := fd) ?_
  have key : wpAny (model W.prog W.w) A (spliced (backTo pos (starEach (e :: es) env))) (fun vs s₁ => (s₁.heap.get? f = some o ∧ o.data = .func fd) ∧ wpAny (model W.prog W.w) A (call (.ref f) vs) (Res W h s Q) E s₁) E s := by
    refine wpAny_mono (hes env A E s loc h _ pos st q) ?_ fun _ _ x => x
    rintro vs s' ⟨h1, hp1, tk1, rfl, S1, q1⟩
    have R1 := S1.rel ok st.rel
    exact ⟨⟨R1.base _ _ ho, hod⟩, wpAny_mono (hp A E _ vs h1 Q st.cx R1 q1) (fun v s' r => Res.bind (tk := tk1) S1 r) fun _ _ x => x⟩
  rw [hs] at key ⊢
  exact Calls.evalArgs_plain key

/-- a call of a def by its global name with one keyword -/
theorem ev_callK {x : Str} {f : Addr} {o : Obj} {fd : FuncData} {np pos kp : Pos} {e ke : Expr} {es : List Expr} {kn : Str} {t : EsT} {kt : ET} {p} (g : GlobAt W x (.ref f)) (hx : sc.names.lookup x = some .globalImplicit)
    (hd : (x == ("__debug__" : Str)) = false) (ho : W.h₀.get? f = some o) (hod : o.data = .func fd) (hes : EsOk W n sc vm (e :: es) t) (hk : EvOk W n sc vm ke kt) (hp : FkOk W n (.ref f) kn p)
    (hs : ∀ env, starEach (e :: es) env = (false, eval e env) :: starEach es env) :
    EvOk W n sc vm (.Call (.Name x np) (e :: es) [⟨some kn, ke, kp⟩] pos) (T.call (fun loc h Q => t loc h fun vs h1 => kt loc h1 fun v h2 => Q (vs ++ [v]) h2) p) := by
  intro env A E s loc h Q st q
  refine wpAny_Call_Name_kw (glob_name g st hx hd ?_)
  refine callWith_function_kw (o := o) (fd := fd) ?_
  have key : wpAny (model W.prog W.w) A (spliced (backTo pos (starEach (e :: es) env))) (fun vs s₁ => wpAny (model W.prog W.w) A (evalAll ((backToKw pos (keywordEach [⟨some kn, ke, kp⟩] env)).map (·.2)))
      (fun ks s₂ => (s₂.heap.get? f = some o ∧ o.data = .func fd) ∧ wpAny (model W.prog W.w) A (call (.ref f) ([] ++ vs) (((backToKw pos (keywordEach [⟨some kn, ke, kp⟩] env)).filterMap (·.1)).zip ks)) (Res W h s Q) E s₂) E s₁) E s := by
    refine wpAny_mono (hes env A E s loc h _ pos st q) ?_ fun _ _ x => x
    rintro vs s' ⟨h1, hp1, tk1, rfl, S1, q1⟩
    have st1 : St W n sc vm env A loc h1 { s with heap := hp1, toks := tk1 } := st.step ok S1
    show wpAny _ A (evalAll [(do let v ← eval ke env; standAt pos; pure v)]) _ _ _
    refine wpAny_evalAll_cons (wpAny_bind (hk.use ok st1 q1 fun kv h2 hp2 tk2 q2 st2 S2 => wpAny_bind (wpAny_standAt (wpAny_pure (wpAny_evalAll_nil ?_)))))
    refine ⟨⟨st2.rel.base _ _ ho, hod⟩, ?_⟩
    show wpAny _ A (call (.ref f) vs [(kn, kv)]) _ _ _
    refine wpAny_mono (hp A E _ vs kv h2 Q st.cx st2.rel ?_) (fun v s' r => Res.bind (tk := tk1) S1 (Res.bind (tk := tk2) S2 r)) fun _ _ x => x
    rw [List.map_append]; exact q2
  rw [hs] at key ⊢
  exact evalArgs_kw rfl key

/-- a call of a def that a local name holds -/
theorem ev_callV {i : Nat} {x : Str} {f : Addr} {o : Obj} {fd : FuncData} {np pos : Pos} {e : Expr} {es : List Expr} {t : EsT} {p} (hv : EvOk W n sc vm (.Name x np) (T.var i))
    (ho : W.h₀.get? f = some o) (hod : o.data = .func fd) (hes : EsOk W n sc vm (e :: es) t) (hp : FOk W n (.ref f) p)
    (hs : ∀ env, starEach (e :: es) env = (false, eval e env) :: starEach es env) :
    EvOk W n sc vm (.Call (.Name x np) (e :: es) [] pos) (T.callv i f t p) := by
  rintro env A E s loc h Q st ⟨hi, q⟩
  refine wpAny_Call_NameR (hv.use ok st (Q' := fun v h1 => v = .ref f ∧ t loc h1 fun vs h1 => p vs h1 Q) ⟨_, hi, rfl, q⟩ fun v h0 hp0 tk0 q0 st0 S0 => ?_)
  obtain ⟨hv0, q0⟩ := q0
  obtain rfl := er_ref hv0
  refine Calls.callWith_function (o := o) (fd := fd) ?_
  have key : wpAny (model W.prog W.w) A (spliced (backTo pos (starEach (e :: es) env))) (fun vs s₁ => (s₁.heap.get? f = some o ∧ o.data = .func fd) ∧ wpAny (model W.prog W.w) A (call (.ref f) vs) (Res W h s Q) E s₁) E { s with heap := hp0, toks := tk0 } := by
    refine wpAny_mono (hes env A E _ loc h0 _ pos st0 q0) ?_ fun _ _ x => x
    rintro vs s' ⟨h1, hp1, tk1, rfl, S1, q1⟩
    have R1 := S1.rel ok st0.rel
    exact ⟨⟨R1.base _ _ ho, hod⟩, wpAny_mono (hp A E _ vs h1 Q st.cx R1 q1) (fun v s' r => Res.bind (tk := tk0) S0 (Res.bind (tk := tk1) S1 r)) fun _ _ x => x⟩
  rw [hs] at key ⊢
  exact Calls.evalArgs_plain key
end

/-! the call of a def: its frame, its body -/
theorem bindL_out {k : Str → Option NameKind} {x : Str} : ∀ {binds : List (Str × Value)} {m : Str → Option Value}, x ∉ binds.map (·.1) → bindL k binds m x = m x
  | [], _, _ => rfl
  | (y, v) :: r, m, h => by
    simp only [List.map_cons, List.mem_cons, not_or] at h
    unfold bindL
    rw [bindL_out h.2]
    split
    · exact if_neg h.1
    · rfl
theorem bindC_out {k : Str → Option NameKind} {x : Str} : ∀ {binds : List (Str × Value)} {m : Str → Option Value}, x ∉ binds.map (·.1) → bindC k binds m x = m x
  | [], _, _ => rfl
  | (y, v) :: r, m, h => by
    simp only [List.map_cons, List.mem_cons, not_or] at h
    unfold bindC
    rw [bindC_out h.2]
    split
    · rfl
    · exact if_neg h.1
theorem bindL_mem {k : Str → Option NameKind} {x : Str} {v : Value} (hk : k x = some .local) : ∀ {binds : List (Str × Value)} {m : Str → Option Value}, (binds.map (·.1)).Nodup → (x, v) ∈ binds → bindL k binds m x = some v
  | (y, u) :: r, m, hn, h => by
    simp only [List.map_cons, List.nodup_cons] at hn
    unfold bindL
    rcases List.mem_cons.mp h with e | h
    · cases e
      rw [bindL_out hn.1, if_pos hk, if_pos rfl]
    · exact bindL_mem hk hn.2 h
theorem bindC_mem {k : Str → Option NameKind} {x : Str} {v : Value} (hk : k x = some .cell) : ∀ {binds : List (Str × Value)} {m : Str → Option Value}, (binds.map (·.1)).Nodup → (x, v) ∈ binds → bindC k binds m x = some v
  | (y, u) :: r, m, hn, h => by
    simp only [List.map_cons, List.nodup_cons] at hn
    unfold bindC
    rcases List.mem_cons.mp h with e | h
    · cases e
      rw [bindC_out hn.1, if_neg (by rw [hk]; decide), if_pos rfl]
    · exact bindC_mem hk hn.2 h

structure FnAt (W : Wd) (f : Addr) (fd : FuncData) (body : List Stmt) : Prop where
  obj : ∃ o, W.h₀.get? f = some o ∧ o.data = .func fd
  code : W.h₀.CodeRec fd.code fd.qualname
  clo : fd.closure = []
  glo : fd.globals = mainGlobals
  blt : fd.builtins = builtinsNs
  bdy : fd.body = .stmts body
  knd : fd.scope.kind = .function
  cor : fd.scope.isCoroutine = false
  gen : fd.scope.isGenerator = false

def FnRet (Q : AV → AH → Prop) : Fl → Loc → AH → Prop := fun f _ h => match f with | .ret v => Q v h | _ => Q .none h

/-- the body's tree, run in a new frame -/
def fnT (fill : List AV → List AV) (t : ST) : List AV → AH → (AV → AH → Prop) → Prop := fun avs h Q => t (fun i => (fill avs)[i]?) h (FnRet Q)

theorem fn_core {W : Wd} (ok : WdOk W) {n : Nat} {f : Addr} {fd : FuncData} {body : List Stmt} {vm : VM} {t : ST} {names : List Str} (FA : FnAt W f fd body) (hb : BkOk W n fd.scope vm body t)
    (hvm : ∀ i x, vm i = some x → ∀ y, names[i]? = some y → x = y) (hnd : names.Nodup) (hkind : ∀ x ∈ names, fd.scope.names.lookup x = some .local ∨ fd.scope.names.lookup x = some .cell)
    {A : Around} {E : Value → Shared → Prop} {s : Shared} {args : Args} {vals : List Value} {h : AH} {Q : AV → AH → Prop} (cx : Cx (n + 1) A) (R : Rel W h s.heap)
    (hbind : ∀ s' : Shared, (∀ b o, W.h₀.get? b = some o → s'.heap.get? b = some o) → BindsTo s' fd args (names.zip vals)) (hlen : vals.length = names.length)
    (q : t (fun i => (vals.map er)[i]?) h (FnRet Q)) : codeAny (model W.prog W.w) A (.call (.ref f) args) (fun r s' => match r with | .ok (.ret v) => Res W h s Q v s' | .ok _ => False | .error e => E e s') s := by
  obtain ⟨o, ho, hd⟩ := FA.obj
  refine codeAny_call_function (by have := cx.dp; omega) (R.base _ _ ho) hd FA.cor FA.gen FA.bdy (FA.code.keeps R.base) (hbind s R.base _ _ _ _ ?_)
  have hfst : (names.zip vals).map (·.1) = names := List.map_fst_zip (by omega)
  rw [FA.clo, FA.glo, FA.blt]
  refine wpAny_newFunctionEnv_cells FA.knd (fun x hx => ?_) (fun env henv s' X => ?_)
  · have hm : x.1 ∈ names := by rw [← hfst]; exact List.mem_map_of_mem hx
    rcases hkind x.1 hm with e | e
    · exact .inl e
    · exact .inr ⟨e, cellsFrom_some _ _ _ (.inl e)⟩
  have keep := X.toInCall.keep
  refine ⟨(ok.nolimit.keeps R.base).keeps keep, codeAny_func ?_⟩
  obtain ⟨h1, tk1, rfl, -⟩ := X.done
  have R1 : Rel W h h1 := (Step.keeps R keep).rel ok R
  have hscope : env.scope = fd.scope := by rw [henv]; rfl
  have hloc : env.locals = s.heap.objs.size := by rw [henv]; rfl
  have hcells : env.cells = cellsFrom (s.heap.objs.size + 1) fd.scope.names [] := by rw [henv]; rfl
  have above : ∀ x c, env.cells.lookup x = some c → s.heap.objs.size < c := fun x c e => hloc ▸ X.above x c (mem_of_lookup e)
  have hnone : ∀ b, s.heap.objs.size ≤ b → h b = none := fun b hb' => by
    refine R.fresh ?_
    cases q : s.heap.get? b with
    | none => rfl
    | some o => exact absurd (Heap.lt_size q) (Nat.not_lt.mpr hb')
  have inb : ∀ i x av, vm i = some x → (vals.map er)[i]? = some av → ∃ v, (x, v) ∈ names.zip vals ∧ er v = av := by
    intro i x av h1 h2
    rw [List.getElem?_map] at h2
    obtain ⟨v, hv, rfl⟩ := Option.map_eq_some_iff.mp h2
    have hi : i < vals.length := by
      rcases Nat.lt_or_ge i vals.length with q | q
      · exact q
      · rw [List.getElem?_eq_none q] at hv; cases hv
    have hn : names[i]? = some names[i] := List.getElem?_eq_getElem (by omega)
    have := hvm i x h1 _ hn
    refine ⟨v, ?_, rfl⟩
    have hz : (names.zip vals)[i]? = some (names[i], v) := by
      rw [List.getElem?_zip_eq_some]; exact ⟨hn, hv⟩
    rw [this]; exact List.mem_of_getElem? hz
  have F : Frm W env vm (fun i => (vals.map er)[i]?) h h1 := by
    refine ⟨by rw [hscope]; exact FA.knd, by rw [henv]; rfl, by rw [henv]; rfl, by rw [hloc]; exact R.size, by rw [hloc]; exact hnone _ (Nat.le_refl _), ⟨_, X.toInCall.ns, fun i x av e1 e2 e3 => ?_⟩, fun x c e => ?_, fun i x av e1 e2 e3 => ?_, fun x y c e1 e2 => ?_, fun x e => ?_⟩
    · obtain ⟨v, hv, hev⟩ := inb i x av e1 e3
      exact ⟨v, bindL_mem e2 (by rw [hfst]; exact hnd) hv, hev⟩
    · have := above x c e
      exact ⟨Nat.le_trans R.size (Nat.le_of_lt this), hnone c (Nat.le_of_lt this), by rw [hloc]; exact Nat.ne_of_gt this, _, X.cell x c e⟩
    · obtain ⟨v, hv, hev⟩ := inb i x av e1 e3
      have hc : env.kindOf x = some .cell := by
        rcases e2 with e2 | e2
        · exact e2
        · have hm : x ∈ names := by rw [← hfst]; exact List.mem_map_of_mem hv
          unfold Env.kindOf at e2
          rw [hscope] at e2
          rcases hkind x hm with e | e <;> rw [e] at e2 <;> cases e2
      have hs : (env.cells.lookup x).isSome = true := by
        rw [hcells]; exact cellsFrom_some _ _ _ (.inl (by unfold Env.kindOf at hc; rw [hscope] at hc; exact hc))
      obtain ⟨c, hc'⟩ := Option.isSome_iff_exists.mp hs
      refine ⟨c, v, hc', ?_, hev⟩
      have := X.cell x c hc'
      rw [bindC_mem hc (by rw [hfst]; exact hnd) hv] at this
      exact this
    · exact name_of_addr X.apart (mem_of_lookup e1) (mem_of_lookup e2)
    · have hs : (env.cells.lookup x).isSome = true := by
        rw [hcells]; exact cellsFrom_some _ _ _ (.inl (by unfold Env.kindOf at e; rw [hscope] at e; exact e))
      exact Option.isSome_iff_exists.mp hs
  have st : St W n fd.scope vm env (A.deeper env) (fun i => (vals.map er)[i]?) h { s with heap := h1, toks := tk1 } := ⟨hscope, cx.deeper env, F, R1⟩
  refine wpAny_mono (hb env (A.deeper env) (fun _ _ => False) _ _ h _ st q) ?_ fun _ _ x => x.elim
  rintro fl s2 ⟨loc2, h2, hp2, tk2, rfl, S2, F2, q2⟩
  have hS : Step W h s.heap h2 hp2 := by
    refine ⟨S2.cells, fun b o e c => ?_, fun b e1 e2 => ?_, S2.dom⟩
    · refine S2.keep b o (keep b o e) ?_ c
      have hlt := Heap.lt_size e
      rintro (q | ⟨x, q⟩)
      · rw [q, hloc] at hlt; exact Nat.lt_irrefl _ hlt
      · exact Nat.lt_irrefl _ (Nat.lt_trans (above x b q) hlt)
    · obtain ⟨e3, e4⟩ := S2.fresh b e1 e2
      refine ⟨?_, e4⟩
      cases q : s.heap.get? b with
      | none => rfl
      | some o => have := keep b o q; rw [e3] at this; cases this
  cases fl with
  | ret v => exact ⟨h2, hp2, tk2, rfl, hS, q2⟩
  | next => exact ⟨h2, hp2, tk2, rfl, hS, q2⟩
  | brk => exact ⟨h2, hp2, tk2, rfl, hS, q2⟩
  | cont => exact ⟨h2, hp2, tk2, rfl, hS, q2⟩

/-- positional arguments that fill the parameters -/
theorem fn_ok {W : Wd} (ok : WdOk W) {n : Nat} {f : Addr} {fd : FuncData} {body : List Stmt} {vm : VM} {t : ST} {names : List Str} (FA : FnAt W f fd body) (hb : BkOk W n fd.scope vm body t)
    (hvm : ∀ i x, vm i = some x → ∀ y, names[i]? = some y → x = y) (hnd : names.Nodup) (hkind : ∀ x ∈ names, fd.scope.names.lookup x = some .local ∨ fd.scope.names.lookup x = some .cell)
    {fill : List AV → List AV} {vfill : List Value → List Value} {k : Nat}
    (hbind : ∀ (s : Shared) vs, vs.length = k → (∀ b o, W.h₀.get? b = some o → s.heap.get? b = some o) → BindsTo s fd ⟨vs, []⟩ (names.zip (vfill vs)))
    (hlen : ∀ vs, vs.length = k → (vfill vs).length = names.length) (her : ∀ vs, vs.length = k → (vfill vs).map er = fill (vs.map er)) :
    FOk W (n + 1) (.ref f) (fun avs h Q => avs.length = k ∧ fnT fill t avs h Q) := by
  rintro A E s vs h Q cx R ⟨hk, q⟩
  rw [List.length_map] at hk
  refine wpAny_call (fn_core ok FA hb hvm hnd hkind cx R (fun s' hs => hbind s' vs hk hs) (hlen vs hk) ?_)
  rw [her vs hk]; exact q

theorem fk_ok {W : Wd} (ok : WdOk W) {n : Nat} {f : Addr} {fd : FuncData} {body : List Stmt} {vm : VM} {t : ST} {names : List Str} {kn : Str} (FA : FnAt W f fd body) (hb : BkOk W n fd.scope vm body t)
    (hvm : ∀ i x, vm i = some x → ∀ y, names[i]? = some y → x = y) (hnd : names.Nodup) (hkind : ∀ x ∈ names, fd.scope.names.lookup x = some .local ∨ fd.scope.names.lookup x = some .cell)
    {fill : List AV → List AV} {vfill : List Value → List Value} {k : Nat}
    (hbind : ∀ (s : Shared) vs v, vs.length = k → (∀ b o, W.h₀.get? b = some o → s.heap.get? b = some o) → BindsTo s fd ⟨vs, [(kn, v)]⟩ (names.zip (vfill (vs ++ [v]))))
    (hlen : ∀ vs, vs.length = k + 1 → (vfill vs).length = names.length) (her : ∀ vs, vs.length = k + 1 → (vfill vs).map er = fill (vs.map er)) :
    FkOk W (n + 1) (.ref f) kn (fun avs h Q => avs.length = k + 1 ∧ fnT fill t avs h Q) := by
  rintro A E s vs v h Q cx R ⟨hk, q⟩
  rw [List.length_map] at hk
  have hk' : vs.length = k := by rw [List.length_append, List.length_singleton] at hk; omega
  refine wpAny_call (fn_core ok FA hb hvm hnd hkind cx R (fun s' hs => hbind s' vs v hk' hs) (hlen _ hk) ?_)
  rw [her _ hk]; exact q
end Mini

/-! MiniD -/
namespace Mini

theorem map_get? {vs : Array Value} {xs : List AV} (h : vs.toList.map er = xs) {i : Nat} {v : AV} (hx : xs[i]? = some v) : ∃ x, vs[i]? = some x ∧ er x = v := by
  rw [← h, List.getElem?_map] at hx
  obtain ⟨x, h1, h2⟩ := Option.map_eq_some_iff.mp hx
  exact ⟨x, by rw [← Array.getElem?_toList]; exact h1, h2⟩
theorem map_len {vs : Array Value} {xs : List AV} (h : vs.toList.map er = xs) : vs.size = xs.length := by rw [← h, List.length_map, Array.length_toList]

def sliceA (xs : List AV) : Option Int → Option Int → List AV
  | none, none => xs
  | some a, none => xs.drop a.toNat
  | none, some b => xs.take b.toNat
  | some a, some b => (xs.take b.toNat).drop a.toNat
def ge0 : Option Int → Prop
  | none => True
  | some a => 0 ≤ a

theorem slicePick_er {vs : Array Value} {xs : List AV} (h : vs.toList.map er = xs) {lo hi : Option Int} (h1 : ge0 lo) (h2 : ge0 hi) : (slicePick vs lo hi none).toList.map er = sliceA xs lo hi := by
  subst h
  cases lo with
  | none => cases hi with
    | none => rw [slicePick_all]; rfl
    | some b =>
      obtain ⟨k, rfl⟩ := Int.eq_ofNat_of_zero_le h2
      rw [show (some (k : Int) : Option Int) = some ((k : Nat) : Int) from rfl, slicePick_upto']
      simp [sliceA, List.map_take]
  | some a =>
    obtain ⟨j, rfl⟩ := Int.eq_ofNat_of_zero_le h1
    cases hi with
    | none => rw [slicePick_from']; simp [sliceA, List.map_drop]
    | some b =>
      obtain ⟨k, rfl⟩ := Int.eq_ofNat_of_zero_le h2
      rw [slicePick_plain]
      simp only [Option.elim, clipAt_nat, sliceA, Int.toNat_natCast]
      rw [List.map_take, List.map_drop]
      generalize hys : vs.toList.map er = ys
      have hsz : vs.size = ys.length := by rw [← hys, List.length_map, Array.length_toList]
      rw [hsz]
      apply List.ext_getElem?
      intro i
      rw [List.getElem?_take, List.getElem?_drop, List.getElem?_drop, List.getElem?_take]
      by_cases h3 : i < min k ys.length - min j ys.length
      · rw [if_pos h3, if_pos (by omega)]
        congr 1; omega
      · rw [if_neg h3]
        by_cases h4 : j + i < k
        · rw [if_pos h4, List.getElem?_eq_none (by omega)]
        · rw [if_neg h4]

namespace T
def idx (o i : ET) : ET := fun loc h Q => o loc h fun a h1 => i loc h1 fun k h2 => ∃ l xs x v, a = .ref l ∧ k = .int x ∧ h2 l = some (.list xs) ∧ 0 ≤ x ∧ x < 2 ^ 62 ∧ xs[x.toNat]? = some v ∧ Q v h2
def sliceF (B : Addr) (a : AV) (Q : AV → AH → Prop) (lo hi : Option Int) (h3 : AH) : Prop :=
  ∃ l xs, a = .ref l ∧ h3 l = some (.list xs) ∧ xs.length ≤ 2 ^ 20 ∧ ge0 lo ∧ ge0 hi ∧ New B h3 (.list (sliceA xs lo hi)) Q
def part (f : Option ET) (loc : Loc) (h : AH) (k : Option Int → AH → Prop) : Prop := match f with
  | Option.none => k Option.none h
  | some f => f loc h fun v h1 => ∃ x, v = .int x ∧ k (some x) h1
def slice (B : Addr) (o : ET) (lo hi : Option ET) : ET := fun loc h Q => o loc h fun a h1 => part lo loc h1 fun x h2 => part hi loc h2 fun y h3 => sliceF B a Q x y h3
-- a list in its place: l[i] = v
def setP (B : Addr) (a k v : AV) (h : AH) (Q : AH → Prop) : Prop :=
  ∃ l xs x, a = .ref l ∧ k = .int x ∧ h l = some (.list xs) ∧ B ≤ l ∧ 0 ≤ x ∧ x < xs.length ∧ xs.length ≤ 2 ^ 20 ∧ Q (upd h l (.list (xs.set x.toNat v)))
def setidx (B : Addr) (o i e : ET) : ST := fun loc h Q => e loc h fun v h1 => o loc h1 fun a h2 => i loc h2 fun k h3 => setP B a k v h3 fun h4 => Q .next loc h4
def augidx (B : Addr) (o i e : ET) : ST := fun loc h Q => o loc h fun a h1 => i loc h1 fun k h2 => ∃ l xs x y, a = .ref l ∧ k = .int x ∧ h2 l = some (.list xs) ∧ 0 ≤ x ∧ x < 2 ^ 62 ∧ xs[x.toNat]? = some (.int y) ∧
  e loc h2 fun v h3 => ∃ z, v = .int z ∧ setP B a k (.int (y + z)) h3 fun h4 => Q .next loc h4
end T

section
variable {W : Wd} (ok : WdOk W) {n : Nat} {sc : Scope} {vm : VM}

theorem sub_any {A : Around} {E : Value → Shared → Prop} {s : Shared} {P : Value → Shared → Prop} {value slice : Expr} {o i : Value} {T id : String} (hT : s.TypeIs o T)
    (hl : typeLookup (.type T) "__getitem__" = pure (some (.builtin id))) (hs : subscripted slice false o i = operate [o, i] (getItem o i) ∨ subscripted slice false o i = operate [i, o] (getItem o i))
    (h : wpAny (model W.prog W.w) A (getItem o i) P E s) :
    wpAny (model W.prog W.w) A (getitemInPython o >>= fun b => subscripted slice b o i >>= fun r => letTemporaryGo value o r >>= fun _ => pure r) P E s := by
  rw [getitemInPython_of_ne hT.not_modules]
  refine wpAny_bind (wpAny_bind (wpAny_specialOf hT hl (wpAny_pure ?_)))
  have h' : wpAny (model W.prog W.w) A (subscripted slice false o i) P E s := by
    rcases hs with e | e <;> rw [e] <;> exact wpAny_operating h
  exact wpAny_bind (wpAny_mono h' (fun r s' hr => wpAny_bind (wpAny_letTemporaryGo (wpAny_pure hr))) fun _ _ x => x)

theorem getItem_ok {A : Around} {E : Value → Shared → Prop} {s : Shared} {h : AH} {l : Addr} {xs : List AV} {x : Int} {t : Tok} {v : AV} {P : Value → Shared → Prop} (R : Rel W h s.heap)
    (hc : h l = some (.list xs)) (h0 : 0 ≤ x) (h1 : x < 2 ^ 62) (hx : xs[x.toNat]? = some v) (k : ∀ u, er u = v → P u s) :
    wpAny (model W.prog W.w) A (getItem (.ref l) (.int x t)) P E s := by
  obtain ⟨vs, hp, hm⟩ := R.cells l _ hc
  obtain ⟨u, hu, he⟩ := map_get? hm hx
  exact wpAny_getItem_list hp.isList h0 (Int.lt_trans h1 (by decide)) hu (k u he)

/-- a store into a plain list, by its index -/
theorem setItem_ok {A : Around} {E : Value → Shared → Prop} {s : Shared} {h : AH} {l : Addr} {xs : List AV} {x : Int} {t : Tok} {v : Value} {P : Unit → Shared → Prop} (R : Rel W h s.heap)
    (hc : h l = some (.list xs)) (hB : W.B ≤ l) (h0 : 0 ≤ x) (h1 : x < xs.length) (h2 : xs.length ≤ 2 ^ 20) (k : ∀ hp, Step W h s.heap (upd h l (.list (xs.set x.toNat (er v)))) hp → P () { s with heap := hp }) :
    wpAny (model W.prog W.w) A (setItem (.ref l) (.int x t) v) P E s := by
  obtain ⟨vs, hp, hm⟩ := R.cells l _ hc
  obtain ⟨m, ho⟩ := id hp
  have hsz := map_len hm
  have hT : s.TypeIs (.ref l) "list" := ⟨_, ho, rfl⟩
  have hfit : Builtin.List.listFitsIndex x = true := fitsIndex_of h0 (by omega)
  unfold setItem
  try with_reducible refine wpAny_holding ?_
  first | refine wpAny_bind (wpAny_pure ?_) | skip
  refine wpAny_bind (wpAny_sequenceKey hT (by decide) ?_)
  refine wpAny_bind (wpAny_callSpecial?_slot (name := Str.ofString "__setitem__") hT slot_list_setitem (wpAny_call_entry slot_list_setitem hT entry_list_setitem ?_ (args_list_setitem _ _ _)))
  show wpAny _ _ (Builtin.List.listSubscript? (.int x t) >>= _) _ _ s
  refine wpAny_bind (wpAny_listSubscript_int hfit ?_)
  clear hfit
  obtain ⟨j, rfl⟩ := Int.eq_ofNat_of_zero_le h0
  have hj : j < vs.size := by omega
  show wpAny _ _ ((seqItemAt l j >>= fun r => pure (r.map (j, ·))) >>= _) _ _ s
  refine wpAny_bind (wpAny_bind (wpAny_seqItemAt ho rfl (wpAny_pure ?_)))
  rw [Array.getElem?_eq_getElem hj]
  show wpAny _ _ (setSeqItemAt l j v >>= _) _ _ s
  refine wpAny_bind (wpAny_setSeqItemAt ho rfl ?_)
  have hnew : (s.heap.update l (Obj.mapSeq (·.setIfInBounds j v))).PlainList l (vs.setIfInBounds j v) := by
    refine ⟨m, ?_⟩
    rw [Heap.get?_update_self _ ho (by simp [Obj.mapSeq]; rfl)]
    simp [Obj.mapSeq]
  have hS : Step W h s.heap (upd h l (.list (xs.set j (er v)))) (s.heap.update l (Obj.mapSeq (·.setIfInBounds j v))) :=
    Step.set R hc hB (list_notTup hp) (Heap.SameBut.update ..) ⟨_, hnew, by rw [Array.toList_setIfInBounds, List.map_set, hm]⟩
  first
    | exact wpAny_bind (wpAny_pure (wpAny_pure ⟨.none, rfl, wpAny_pure (k _ hS)⟩))
    | exact wpAny_pure ⟨.none, rfl, wpAny_pure (k _ hS)⟩
include ok

theorem ev_idx {o i : Expr} {f g : ET} {pos : Pos} (ho : EvOk W n sc vm o f) (hi : EvOk W n sc vm i g) (hs : ∀ a b, subscripted i false a b = operate [a, b] (getItem a b)) :
    EvOk W n sc vm (.Subscript o i pos) (T.idx f g) := by
  intro env A E s loc h Q st q
  rw [arm_eval_Subscript]
  refine wpAny_bind (ho.use ok st q fun a h1 hp1 tk1 q1 st1 S1 => wpAny_bind (wpAny_holding (hi.use ok st1 q1 fun b h2 hp2 tk2 q2 st2 S2 => wpAny_bind (wpAny_standAt ?_))))
  obtain ⟨l, xs, x, v, ha, hb, hl, h0, hx1, hx, q3⟩ := q2
  obtain rfl := er_ref ha
  obtain ⟨t, rfl⟩ := er_int hb
  obtain ⟨vs, hp, hm⟩ := st2.rel.cells l _ hl
  refine sub_any hp.isList.typeIs slot_list_getitem.lookup (.inl (hs _ _)) (getItem_ok st2.rel hl h0 hx1 hx fun u hu => ?_)
  exact ⟨h2, hp2, tk2, rfl, S1.trans S2, by rw [hu]; exact q3⟩

theorem ex_setidx {o i e : Expr} {f g k : ET} {p pos : Pos} (ho : EvOk W n sc vm o f) (hi : EvOk W n sc vm i g) (he : EvOk W n sc vm e k) (hs : ∀ env : Env, env.scope = sc → swapsWith e (some (.Subscript o i p)) pos.line env = pure false) :
    ExOk W n sc vm (.Assign [.Subscript o i p] e pos) (T.setidx W.B f g k) := by
  intro env A E s loc h Q st q
  refine wpAny_Assign_Subscript (he.use ok st q fun v h1 hp1 tk1 q1 st1 S1 => ho.use ok st1 q1 fun a h2 hp2 tk2 q2 st2 S2 => hi.use ok st2 q2 fun b h3 hp3 tk3 q3 st3 S3 => ?_) (hs env st.sc)
  obtain ⟨l, xs, x, ha, hb, hl, hB, h0, hx1, hx2, q4⟩ := q3
  obtain rfl := er_ref ha
  obtain ⟨t, rfl⟩ := er_int hb
  refine setItem_ok st3.rel hl hB h0 hx1 hx2 fun hp S4 => ?_
  have S := ((S1.trans S2).trans S3).trans S4
  exact ⟨loc, _, hp, tk3, rfl, S.s, st.fr.step S, q4⟩

theorem ex_augidx {o i e : Expr} {f g k : ET} {p pos : Pos} (ho : EvOk W n sc vm o f) (hi : EvOk W n sc vm i g) (he : EvOk W n sc vm e k)
    (hs : ∀ ov iv new, augStore i ov iv new = (do holding [new, ov, iv] (setItem ov iv new); release [new, ov, iv] []; pure .next)) :
    ExOk W n sc vm (.AugAssign (.Subscript o i p) .Add e pos) (T.augidx W.B f g k) := by
  intro env A E s loc h Q st q
  refine wpAny_AugAssign_SubscriptAny (ho.use ok st q fun a h1 hp1 tk1 q1 st1 S1 => hi.use ok st1 q1 fun b h2 hp2 tk2 q2 st2 S2 => ?_) hs
  obtain ⟨l, xs, x, y, ha, hb, hl, h0, hx1, hx, q3⟩ := q2
  obtain rfl := er_ref ha
  obtain ⟨t, rfl⟩ := er_int hb
  refine getItem_ok st2.rel hl h0 hx1 hx fun u hu => ?_
  obtain ⟨tu, rfl⟩ := er_int hu
  refine he.use ok st2 q3 fun v h3 hp3 tk3 q4 st3 S3 => ?_
  obtain ⟨z, hz, l', xs', x', e1, e2, hl', hB, h0', hx1', hx2', q5⟩ := q4
  obtain ⟨tz, rfl⟩ := er_int hz
  cases e1
  cases e2
  refine wpAny_iadd_int ?_
  refine setItem_ok (s := { s with heap := hp3, toks := tk3 + 1 }) st3.rel hl' hB h0' hx1' hx2' fun hp S4 => ?_
  have S := ((S1.trans S2).trans S3).trans S4
  exact ⟨loc, _, hp, tk3 + 1, rfl, S.s, st.fr.step S, q5⟩

omit ok in
theorem ev_part {p : Option Expr} {f : Option ET} (hp : match p, f with | none, none => True | some e, some g => EvOk W n sc vm e g | _, _ => False) (ok : WdOk W) {env : Env} {A : Around} {E : Value → Shared → Prop} {s : Shared} {loc : Loc} {h : AH}
    {k : Option Int → AH → Prop} {P : Value → Shared → Prop} (st : St W n sc vm env A loc h s) (q : T.part f loc h k)
    (j : ∀ v x h1 hp tk, IsPart v x → k x h1 → St W n sc vm env A loc h1 { s with heap := hp, toks := tk } → Step W h s.heap h1 hp → P v { s with heap := hp, toks := tk }) :
    wpAny (model W.prog W.w) A (evalPart p env) P E s := by
  cases p with
  | none => cases f with
    | none => exact wpAny_evalPart_none (j _ none h s.heap s.toks .none q st (Step.refl st.rel))
    | some g => exact hp.elim
  | some e => cases f with
    | none => exact hp.elim
    | some g =>
      refine wpAny_evalPart_some (EvOk.use ok hp st q fun v h1 hp1 tk1 q1 st1 S1 => ?_)
      obtain ⟨x, hx, q2⟩ := q1
      obtain ⟨t, rfl⟩ := er_int hx
      exact j _ _ h1 hp1 tk1 (.int x t) q2 st1 S1

theorem ev_slice {o : Expr} {lo hi : Option Expr} {f : ET} {g k : Option ET} {p pos : Pos} (ho : EvOk W n sc vm o f)
    (hlo : match lo, g with | none, none => True | some e, some g => EvOk W n sc vm e g | _, _ => False)
    (hhi : match hi, k with | none, none => True | some e, some g => EvOk W n sc vm e g | _, _ => False) :
    EvOk W n sc vm (.Subscript o (.Slice lo hi none p) pos) (T.slice W.B f g k) := by
  intro env A E s loc h Q st q
  rw [arm_eval_Subscript]
  refine wpAny_bind (ho.use ok st q fun a h1 hp1 tk1 q1 st1 S1 => wpAny_bind (wpAny_holding ?_))
  refine wpAny_Slice (ev_part hlo ok st1 q1 fun vl x h2 hp2 tk2 pl q2 st2 S2 => ev_part hhi ok st2 q2 fun vu y h3 hp3 tk3 pu q3 st3 S3 => wpAny_evalPart_none ?_)
  obtain ⟨l, xs, ha, hl, hsz, hx, hy, q4⟩ := q3
  obtain rfl := er_ref ha
  obtain ⟨vs, hp, hm⟩ := st3.rel.cells l _ hl
  refine wpAny_bind (wpAny_standAt ?_)
  refine sub_any (hp.isList.push _).typeIs slot_list_getitem.lookup (.inr rfl) ?_
  have hvs := map_len hm
  refine wpAny_getItem_list_slice (hp.isList.push _) (Heap.IsSliceOf.new ..) pl pu .none (by simp) ?_ (by rw [hvs, sizeLine_eq]; omega)
  have Sp : Step W h3 hp3 h3 (hp3.push { cls := .type "slice", data := .fields #[vl, vu, .none] }) := Step.keeps st3.rel fun _ _ e => Heap.get?_push_of_some _ e
  have Rp := Sp.rel ok st3.rel
  refine ⟨_, _, tk3, rfl, (((S1.trans S2).trans S3).trans Sp).trans (Step.push (c := .list (sliceA xs x y)) Rp ⟨_, ⟨0, Heap.get?_push_size _ rfl⟩, slicePick_er hm hx hy⟩), ?_⟩
  exact q4 _ Rp.size (Rp.fresh (get_size_none _))
end

/-! operators on lists -/
namespace P
def addL (B : Addr) : Op := fun a b h Q => ∃ l m xs ys, a = .ref l ∧ b = .ref m ∧ h l = some (.list xs) ∧ h m = some (.list ys) ∧ xs.length + ys.length ≤ 2 ^ 20 ∧ New B h (.list (xs ++ ys)) Q
def mulL (B : Addr) : Op := fun a b h Q => ∃ l xs y, a = .ref l ∧ b = .int y ∧ h l = some (.list [xs]) ∧ 0 ≤ y ∧ y ≤ 2 ^ 20 ∧ New B h (.list (List.replicate y.toNat xs)) Q
end P

theorem joined_one (v : Value) (k : Nat) : ∀ acc : Array Value, (List.foldl (fun x1 x2 => x1 ++ x2) acc (List.replicate k #[v])).toList = acc.toList ++ List.replicate k v := by
  induction k with
  | zero => intro acc; simp
  | succ k ih => intro acc; rw [List.replicate_succ, List.foldl_cons, ih]; simp [List.replicate_succ]

section
variable {W : Wd} {n : Nat} (ok : WdOk W)
include ok
theorem op_addL : OpOk W n .Add (P.addL W.B) := by
  rintro A E s va vb h Q cx R ⟨l, m, xs, ys, ha, hb, hl, hm, hsz, q⟩
  obtain rfl := er_ref ha
  obtain rfl := er_ref hb
  obtain ⟨vs, ⟨k1, e1⟩, m1⟩ := R.cells l _ hl
  obtain ⟨us, ⟨k2, e2⟩, m2⟩ := R.cells m _ hm
  refine P.add_list (n := k1) (n2 := k2) e1 e2 ?_ (by rw [map_len m1, map_len m2, sizeLine_eq]; omega)
  exact ⟨_, _, s.toks, rfl, Step.push (c := .list (xs ++ ys)) R ⟨_, ⟨0, Heap.get?_push_size _ rfl⟩, by simp [m1, m2]⟩, q _ R.size (R.fresh (get_size_none _))⟩

theorem op_mulL : OpOk W n .Mult (P.mulL W.B) := by
  rintro A E s va vb h Q cx R ⟨l, x, y, ha, hb, hl, h0, h1, q⟩
  obtain rfl := er_ref ha
  obtain ⟨t, rfl⟩ := er_int hb
  obtain ⟨vs, ⟨k1, e1⟩, m1⟩ := R.cells l _ hl
  have hvs : ∃ v, vs = #[v] ∧ er v = x := by
    have hl1 := map_len m1
    obtain ⟨li⟩ := vs
    cases li with
    | nil => simp at m1
    | cons v r => cases r with
      | nil => exact ⟨v, rfl, by simpa using m1⟩
      | cons w r => simp at m1
  obtain ⟨v, rfl, hv⟩ := hvs
  refine wpAny_binaryOp_repeat_ref (T := "list") (U := "int") (by decide) ⟨_, e1, rfl⟩ (fun s' => typeIs_int s' y t) noFill_list_mul F.fills_int_mul F.slot_int_rmul repeat_list F.slot_int_index.lookup ?_
  refine call_meets F.slot_int_rmul (typeIs_int s y t) F.entry_int_rmul (F.args_int_rmul_2 _ _) (int___rmul___int_list y t l #[v] k1) ⟨e1, rfl, ⟨_, e1, rfl⟩, ?_⟩
  refine call_meets F.slot_list_mul ⟨_, e1, rfl⟩ F.entry_list_mul (F.args_list_mul_2 _ _)
    (AutoListH.list___mul___list_int_3 l #[v] k1 y t (by simp [Builtin.List.listFitsIndex]; omega) (by simp; omega) (by simp [Builtin.List.listTooLong, sizeLine]; omega)) ⟨e1, ?_⟩
  refine ⟨_, _, s.toks, rfl, Step.push (c := .list (List.replicate y.toNat x)) R ⟨_, ⟨0, Heap.get?_push_size _ rfl⟩, ?_⟩, q _ R.size (R.fresh (get_size_none _))⟩
  have : (if (#[v] : Array Value).isEmpty = true then 0 else y.toNat) = y.toNat := by simp
  rw [this, joined_one]
  simp [hv]
end
end Mini

/-! MiniE -/
namespace Mini

theorem ints_items {is : List Int} : ∀ {l : List Value}, l.map er = is.map AV.int → ∃ xs : List (Int × Tok), l = xs.map (fun p => Value.int p.1 p.2) ∧ xs.map (·.1) = is := by
  induction is with
  | nil => intro l h; cases l with
    | nil => exact ⟨[], rfl, rfl⟩
    | cons v r => simp at h
  | cons i is ih => intro l h; cases l with
    | nil => simp at h
    | cons v r =>
      simp only [List.map_cons, List.cons.injEq] at h
      obtain ⟨t, rfl⟩ := er_int h.1
      obtain ⟨xs, rfl, e⟩ := ih h.2
      exact ⟨(i, t) :: xs, rfl, by simp [e]⟩
theorem ints_array {vs : Array Value} {is : List Int} (h : vs.toList.map er = is.map AV.int) : ∃ xs : Array (Int × Tok), vs = intItems xs ∧ xs.toList.map (·.1) = is := by
  obtain ⟨xs, h1, h2⟩ := ints_items h
  refine ⟨xs.toArray, ?_, h2⟩
  apply Array.toList_inj.mp
  rw [h1]; simp [intItems]

namespace F
abbrev Fn := List AV → AH → (AV → AH → Prop) → Prop
def len : Fn := fun avs h Q => ∃ l xs, avs = [.ref l] ∧ h l = some (.list xs) ∧ xs.length < 2 ^ 24 ∧ Q (.int xs.length) h
def abs : Fn := fun avs h Q => ∃ x : Int, avs = [.int x] ∧ Q (.int x.natAbs) h
def max2 : Fn := fun avs h Q => ∃ x y, avs = [.int x, .int y] ∧ Q (.int (max x y)) h
def min2 : Fn := fun avs h Q => ∃ x y, avs = [.int x, .int y] ∧ Q (.int (min x y)) h
def maxL : Fn := fun avs h Q => ∃ l is, avs = [.ref l] ∧ h l = some (.list (is.map AV.int)) ∧ is ≠ [] ∧ ∀ M, M ∈ is → (∀ a, a ∈ is → a ≤ M) → Q (.int M) h
def minL : Fn := fun avs h Q => ∃ l is, avs = [.ref l] ∧ h l = some (.list (is.map AV.int)) ∧ is ≠ [] ∧ ∀ M, M ∈ is → (∀ a, a ∈ is → M ≤ a) → Q (.int M) h
def sum : Fn := fun avs h Q => ∃ l, ∃ is : List Int, avs = [.ref l] ∧ h l = some (.list (is.map AV.int)) ∧ Q (.int is.sum) h
def listOf (B : Addr) : Fn := fun avs h Q => ∃ l xs, avs = [.ref l] ∧ h l = some (.list xs) ∧ xs.length ≤ 2 ^ 20 ∧ New B h (.list xs) Q
def append (B : Addr) : Fn := fun avs h Q => ∃ l xs v, avs = [.ref l, v] ∧ h l = some (.list xs) ∧ B ≤ l ∧ xs.length < 2 ^ 20 ∧ Q .none (upd h l (.list (xs ++ [v])))
def insert (B : Addr) : Fn := fun avs h Q => ∃ l xs x v, avs = [.ref l, .int x, v] ∧ h l = some (.list xs) ∧ B ≤ l ∧ xs.length < 2 ^ 20 ∧ 0 ≤ x ∧ x ≤ xs.length ∧ Q .none (upd h l (.list (xs.take x.toNat ++ v :: xs.drop x.toNat)))
end F

theorem map1 {vs : List Value} {a : AV} (h : vs.map er = [a]) : ∃ v, vs = [v] ∧ er v = a := by
  cases vs with
  | nil => simp at h
  | cons v r => cases r with
    | nil => exact ⟨v, rfl, by simpa using h⟩
    | cons w r => simp at h
theorem map2 {vs : List Value} {a b : AV} (h : vs.map er = [a, b]) : ∃ v w, vs = [v, w] ∧ er v = a ∧ er w = b := by
  cases vs with
  | nil => simp at h
  | cons v r =>
    simp only [List.map_cons, List.cons.injEq] at h
    obtain ⟨w, rfl, hw⟩ := map1 h.2
    exact ⟨v, w, rfl, h.1, hw⟩
theorem map3 {vs : List Value} {a b c : AV} (h : vs.map er = [a, b, c]) : ∃ v w x, vs = [v, w, x] ∧ er v = a ∧ er w = b ∧ er x = c := by
  cases vs with
  | nil => simp at h
  | cons v r =>
    simp only [List.map_cons, List.cons.injEq] at h
    obtain ⟨w, x, rfl, hw⟩ := map2 h.2
    exact ⟨v, w, x, rfl, h.1, hw⟩

section
variable {W : Wd} {n : Nat} (ok : WdOk W)
include ok

theorem fo_len : FOk W n (.builtin "len") F.len := by
  rintro A E s vs h Q cx R ⟨l, xs, e, hl, hsz, q⟩
  obtain ⟨v, rfl, hv⟩ := map1 e
  obtain rfl := er_ref hv
  obtain ⟨us, hp, hm⟩ := R.cells l _ hl
  have := map_len hm
  refine Calls.call_len_list hp.isList (by omega) ⟨h, s.heap, s.toks + 1 + 1, rfl, Step.refl R, ?_⟩
  show Q (.int us.size) h
  rw [this]; exact q

theorem fo_abs : FOk W n (.builtin "abs") F.abs := by
  rintro A E s vs h Q cx R ⟨x, e, q⟩
  obtain ⟨v, rfl, hv⟩ := map1 e
  obtain ⟨t, rfl⟩ := er_int hv
  refine call_abs_int fun u tk => ⟨h, s.heap, tk, rfl, Step.refl R, ?_⟩
  have : (if x < 0 then -x else x) = (x.natAbs : Int) := by split <;> omega
  show Q (.int (if x < 0 then -x else x)) h
  rw [this]; exact q

theorem fo_max2 : FOk W n (.builtin "max") F.max2 := by
  rintro A E s vs h Q cx R ⟨x, y, e, q⟩
  obtain ⟨v, w, rfl, hv, hw⟩ := map2 e
  obtain ⟨t, rfl⟩ := er_int hv
  obtain ⟨u, rfl⟩ := er_int hw
  refine max_two_ints cx.hd fun h' tk hk => ⟨h, h', tk, rfl, Step.keeps R hk, ?_⟩
  have : er (if y > x then Value.int y u else Value.int x t) = .int (max x y) := by
    by_cases c : y > x
    · rw [if_pos c]; show AV.int y = _; congr 1; omega
    · rw [if_neg c]; show AV.int x = _; congr 1; omega
  rw [this]; exact q
theorem fo_min2 : FOk W n (.builtin "min") F.min2 := by
  rintro A E s vs h Q cx R ⟨x, y, e, q⟩
  obtain ⟨v, w, rfl, hv, hw⟩ := map2 e
  obtain ⟨t, rfl⟩ := er_int hv
  obtain ⟨u, rfl⟩ := er_int hw
  refine min_two_ints cx.hd fun h' tk hk => ⟨h, h', tk, rfl, Step.keeps R hk, ?_⟩
  have : er (if y < x then Value.int y u else Value.int x t) = .int (min x y) := by
    by_cases c : y < x
    · rw [if_pos c]; show AV.int y = _; congr 1; omega
    · rw [if_neg c]; show AV.int x = _; congr 1; omega
  rw [this]; exact q

theorem fo_maxL : FOk W n (.builtin "max") F.maxL := by
  rintro A E s vs h Q cx R ⟨l, is, e, hl, hne, q⟩
  obtain ⟨v, rfl, hv⟩ := map1 e
  obtain rfl := er_ref hv
  obtain ⟨us, hp, hm⟩ := R.cells l _ hl
  obtain ⟨xs, rfl, hx⟩ := ints_array hm
  have hlen : xs.size = is.length := by rw [← hx]; simp
  have hpos : 0 < xs.size := by rw [hlen]; exact List.length_pos_iff.mpr hne
  refine max_intList cx.hd hp.isList hpos fun v h' tk hv hk => ⟨h, h', tk, rfl, Step.keeps R hk, ?_⟩
  obtain ⟨t, rfl⟩ := intItems_at hv
  obtain ⟨h1, h2⟩ := argBest_gt (numAt xs) (xs.size - 1)
  refine q _ ?_ fun a ha => ?_
  · rw [numAt_eq, hx]; exact getD_mem (by omega)
  · obtain ⟨j, hj, rfl⟩ := mem_getD ha
    rw [← hx, ← numAt_eq]; exact h2 j (by omega)
theorem fo_minL : FOk W n (.builtin "min") F.minL := by
  rintro A E s vs h Q cx R ⟨l, is, e, hl, hne, q⟩
  obtain ⟨v, rfl, hv⟩ := map1 e
  obtain rfl := er_ref hv
  obtain ⟨us, hp, hm⟩ := R.cells l _ hl
  obtain ⟨xs, rfl, hx⟩ := ints_array hm
  have hlen : xs.size = is.length := by rw [← hx]; simp
  have hpos : 0 < xs.size := by rw [hlen]; exact List.length_pos_iff.mpr hne
  refine min_intList cx.hd hp.isList hpos fun v h' tk hv hk => ⟨h, h', tk, rfl, Step.keeps R hk, ?_⟩
  obtain ⟨t, rfl⟩ := intItems_at hv
  obtain ⟨h1, h2⟩ := argBest_lt (numAt xs) (xs.size - 1)
  refine q _ ?_ fun a ha => ?_
  · rw [numAt_eq, hx]; exact getD_mem (by omega)
  · obtain ⟨j, hj, rfl⟩ := mem_getD ha
    rw [← hx, ← numAt_eq]; exact h2 j (by omega)

theorem fo_sum : FOk W n (.builtin "sum") F.sum := by
  rintro A E s vs h Q cx R ⟨l, is, e, hl, q⟩
  obtain ⟨v, rfl, hv⟩ := map1 e
  obtain rfl := er_ref hv
  obtain ⟨us, hp, hm⟩ := R.cells l _ hl
  obtain ⟨xs, rfl, hx⟩ := ints_array hm
  refine sum_intListG cx.hd hp.isList fun h' tk t' hk => ⟨h, h', tk, rfl, Step.keeps R hk, ?_⟩
  show Q (.int (preSum (numAt xs) xs.size)) h
  rw [preSum_eq, List.take_of_length_le (by simp), hx]; exact q

theorem fo_list : FOk W n (.type "list") (F.listOf W.B) := by
  rintro A E s vs h Q cx R ⟨l, xs, e, hl, hsz, q⟩
  obtain ⟨v, rfl, hv⟩ := map1 e
  obtain rfl := er_ref hv
  obtain ⟨us, ⟨k, ho⟩, hm⟩ := R.cells l _ hl
  refine call_list_seq (T := "list") l (.inl rfl) ho rfl rfl (fun h' c' hk hnew => ?_) (by rw [map_len hm, sizeLine_eq]; omega)
  refine ⟨_, h', s.toks, rfl, Step.alloc R (get_size_none _) R.size hk (c := .list xs) ⟨us, ⟨c', hnew⟩, hm⟩, q _ R.size (R.fresh (get_size_none _))⟩

theorem fo_append : FOk W n (.builtin "list.append") (F.append W.B) := by
  rintro A E s vs h Q cx R ⟨l, xs, a, e, hl, hB, hsz, q⟩
  obtain ⟨v, w, rfl, hv, hw⟩ := map2 e
  obtain rfl := er_ref hv
  obtain ⟨us, hp, hm⟩ := R.cells l _ hl
  refine wpAny_list_append_plain hp (fun h' hp' hs => ⟨_, h', s.toks, rfl, Step.set R hl hB (list_notTup hp) hs (c' := .list (xs ++ [a])) ⟨_, hp', ?_⟩, q⟩) (by rw [map_len hm, sizeLine_eq]; omega)
  simp [hm, hw]

theorem fo_insert : FOk W n (.builtin "list.insert") (F.insert W.B) := by
  rintro A E s vs h Q cx R ⟨l, xs, x, a, e, hl, hB, hsz, h0, h1, q⟩
  obtain ⟨v, w, u, rfl, hv, hw, hu⟩ := map3 e
  obtain rfl := er_ref hv
  obtain ⟨t, rfl⟩ := er_int hw
  obtain ⟨us, hp, hm⟩ := R.cells l _ hl
  obtain ⟨k, ho⟩ := id hp
  have hlen := map_len hm
  refine call_meets F.slot_list_insert ⟨_, ho, rfl⟩ F.entry_list_insert (F.args_list_insert_3 _ _ _)
    (AutoSeq1.list_insert_list_int_val_1 l us k x t u (by simp [Builtin.List.listFitsIndex]; omega) (by rw [hlen, sizeLine_eq]; omega)) ⟨ho, ?_⟩
  refine ⟨_, _, s.toks, rfl, Step.set R hl hB (list_notTup hp) (Heap.SameBut.update ..) (c' := .list (xs.take x.toNat ++ a :: xs.drop x.toNat)) ?_, q⟩
  have hx : ¬ x < 0 := by omega
  have hk : min x.toNat us.size = x.toNat := by omega
  refine ⟨(us.extract 0 x.toNat).push u ++ us.extract x.toNat, ?_, ?_⟩
  · have hz : ((us.extract 0 x.toNat).push u ++ us.extract x.toNat).size = us.size + 1 := by simp; omega
    refine ⟨k + 1, ?_⟩
    rw [Heap.get?_update_self _ ho (by simp only [Obj.mapSeq]; rfl)]
    simp only [Obj.mapSeq, if_neg hx, hk]
    rw [if_neg (by rw [hz]; simp)]
  · have e2 : ((us.extract 0 x.toNat).push u ++ us.extract x.toNat).toList = us.toList.take x.toNat ++ u :: us.toList.drop x.toNat := by
      simp
      exact List.take_of_length_le (by simp)
    rw [e2]
    simp [hm, hu, List.map_take, List.map_drop]
end
end Mini

/-! MiniF -/
namespace Mini

/-! methods -/
namespace T
def meth (f : ET) (t : EsT) (p : F.Fn) : ET := fun loc h Q => f loc h fun a h1 => (∃ l xs, a = .ref l ∧ h1 l = some (.list xs)) ∧ t loc h1 fun vs h2 => p (a :: vs) h2 Q
end T

section
variable {W : Wd} (ok : WdOk W) {n : Nat} {sc : Scope} {vm : VM}
include ok
theorem ev_meth {o : Expr} {name : Str} {id : String} {apos pos : Pos} {e : Expr} {es : List Expr} {f : ET} {t : EsT} {p : F.Fn} (slot : Slot "list" name id) (hty : typeOf (.builtin id) = pure (.type "method_descriptor"))
    (hbase : ∀ env, attributeBase o name env (eval o env) = eval o env)
    (hfew : ∀ env, ((backTo pos (starEach (e :: es) env)).all (fun x => !x.1) && (backToKw pos (keywordEach [] env)).all (fun x => x.1.isSome)
      && decide ((e :: es).length + ([] : List Keyword).length + (if ([] : List Keyword).isEmpty then 0 else 1) < 30)) = true)
    (hline : (apos.endLine == pos.line) = true) (ho : EvOk W n sc vm o f) (hes : EsOk W n sc vm (e :: es) t) (hp : FOk W n (.builtin id) p)
    (hs : ∀ env, starEach (e :: es) env = (false, eval e env) :: starEach es env) (hpl : ∀ env pos, (backTo pos (starEach es env)).any (·.1) = false) :
    EvOk W n sc vm (.Call (.Attribute o name apos) (e :: es) [] pos) (T.meth f t p) := by
  intro env A E s loc h Q st q
  refine wpAny_Call_method (T := "list") (id := id) (hbase env) (hfew env) hline F.plainAttrs_list slot hty (ho.use ok st q fun a h1 hp1 tk1 q1 st1 S1 => ?_)
  obtain ⟨⟨l, xs, ha, hl⟩, q1⟩ := q1
  obtain rfl := er_ref ha
  obtain ⟨vs, ⟨k, ho1⟩, hm⟩ := st1.rel.cells l _ hl
  refine ⟨⟨_, ho1, rfl⟩, fun a e => by cases e; exact ⟨_, ho1, rfl⟩, ?_⟩
  have hany : (backTo pos (starEach (e :: es) env)).any (·.1) = false := by
    rw [hs]
    show (false || (backTo pos (starEach es env)).any (·.1)) = false
    rw [hpl]; rfl
  refine Calls.callWith_builtin hany ?_
  have key : wpAny (model W.prog W.w) A (spliced (backTo pos (starEach (e :: es) env))) (fun vs s₁ => wpAny (model W.prog W.w) A (call (.builtin id) (.ref l :: vs)) (Res W h s Q) E s₁) E { s with heap := hp1, toks := tk1 } := by
    refine wpAny_mono (hes env A E _ loc h1 _ pos st1 q1) ?_ fun _ _ x => x
    rintro vs s' ⟨h2, hp2, tk2, rfl, S2, q2⟩
    exact wpAny_mono (hp A E _ (.ref l :: vs) h2 Q st.cx (S2.rel ok st1.rel) q2) (fun v s' r => Res.bind (tk := tk1) S1 (Res.bind (tk := tk2) S2 r)) fun _ _ x => x
  rw [hs] at key ⊢
  exact Calls.evalArgs_plain key
end

/-! iterators -/
inductive Src where
  | list (a : Addr)
  | tup (a : Addr)
  | range (lo step : Int) (n : Nat)

def rangeL (lo step : Int) (n : Nat) : List Int := (List.range n).map fun (i : Nat) => lo + (i : Int) * step
def Src.items : Src → AH → Option (List AV)
  | .list a, h => match h a with | some (.list xs) => some xs | _ => none
  | .tup a, h => match h a with | some (.tup xs) => some xs | _ => none
  | .range lo step n, _ => some ((rangeL lo step n).map AV.int)

def ItAt : Src → Heap → Addr → Nat → Prop
  | .list a, hp, it, i => hp.IsListIter it a i
  | .tup a, hp, it, i => hp.IsTupleIter it a i
  | .range lo step n, hp, it, i => i ≤ n ∧ IsRangeIter hp it (lo + (i : Int) * step) ((n : Int) - i) step

theorem ItAt.mono {src : Src} {hp hp' : Heap} {it : Addr} {i : Nat} (x : ItAt src hp it i) (k : ∀ o, hp.get? it = some o → hp'.get? it = some o) : ItAt src hp' it i := by
  cases src with
  | list a => obtain ⟨o, ho, r⟩ := x; exact ⟨o, k o ho, r⟩
  | tup a => obtain ⟨o, ho, r⟩ := x; exact ⟨o, k o ho, r⟩
  | range lo st n => exact ⟨x.1, k _ x.2⟩
theorem ItAt.obj {src : Src} {hp : Heap} {it : Addr} {i : Nat} (x : ItAt src hp it i) : ∃ o, hp.get? it = some o ∧ ¬ IsTupO o := by
  cases src with
  | list a => obtain ⟨o, ho, r, _⟩ := x; exact ⟨o, ho, fun q => by rw [q.1] at r; exact absurd r (by decide)⟩
  | tup a => obtain ⟨o, ho, r, _⟩ := x; exact ⟨o, ho, fun q => by rw [q.1] at r; exact absurd r (by decide)⟩
  | range lo st n => exact ⟨_, x.2, fun q => absurd (Value.type.inj q.1) (by decide)⟩

section
variable {W : Wd} {n : Nat}

theorem next_ok {A : Around} {E : Value → Shared → Prop} {s : Shared} {h : AH} {src : Src} {it : Addr} {i : Nat} {xs : List AV} {P : Option Value → Shared → Prop} (cx : Cx n A) (R : ∀ a c, h a = some c → CellAt W s.heap a c)
    (hi : ItAt src s.heap it i) (hx : src.items h = some xs)
    (kn : xs[i]? = none → ∀ hp, Heap.ExtBut it s.heap hp → P none { s with heap := hp })
    (ks : ∀ av, xs[i]? = some av → ∀ v hp tk, er v = av → ItAt src hp it (i + 1) → Heap.ExtBut it s.heap hp → P (some v) { s with heap := hp, toks := tk }) :
    wpAny (model W.prog W.w) A (pyNext (.ref it)) P E s := by
  cases src with
  | list a =>
    have ⟨ys, hy⟩ : ∃ ys, h a = some (.list ys) := by
      simp only [Src.items] at hx; split at hx
      · exact ⟨_, by assumption⟩
      · cases hx
    have : ys = xs := by simp only [Src.items, hy] at hx; exact Option.some.inj hx
    subst this
    obtain ⟨vs, hp, hm⟩ := R a _ hy
    cases hq : ys[i]? with
    | none =>
      refine wpAny_pyNext_list_end cx.hd hi hp.isList ?_ fun h' e => kn hq h' e
      rw [Array.getElem?_eq_none_iff, map_len hm]; exact List.getElem?_eq_none_iff.mp hq
    | some av =>
      obtain ⟨v, hv, he⟩ := map_get? hm hq
      exact wpAny_pyNext_list_item hi hp.isList hv fun h' hi' hs => ks av hq v h' s.toks he hi' hs.extBut
  | tup a =>
    have ⟨ys, hy⟩ : ∃ ys, h a = some (.tup ys) := by
      simp only [Src.items] at hx; split at hx
      · exact ⟨_, by assumption⟩
      · cases hx
    have : ys = xs := by simp only [Src.items, hy] at hx; exact Option.some.inj hx
    subst this
    obtain ⟨vs, hp, hm⟩ := R a _ hy
    cases hq : ys[i]? with
    | none =>
      refine wpAny_pyNext_tuple_end cx.hd hi hp.isTuple ?_ fun h' e => kn hq h' e
      rw [Array.getElem?_eq_none_iff, map_len hm]; exact List.getElem?_eq_none_iff.mp hq
    | some av =>
      obtain ⟨v, hv, he⟩ := map_get? hm hq
      exact wpAny_pyNext_tuple_item hi hp.isTuple hv fun h' hi' hs => ks av hq v h' s.toks he hi' hs.extBut
  | range lo step k =>
    obtain rfl : (rangeL lo step k).map AV.int = xs := Option.some.inj hx
    obtain ⟨hik, hit⟩ := hi
    have hlen : ((rangeL lo step k).map AV.int).length = k := by simp [rangeL]
    by_cases hlt : i < k
    · refine wpAny_pyNext_range_item hit (by omega) fun h' hi' hs => ks (.int (lo + (i : Int) * step)) ?_ _ h' _ rfl ⟨by omega, ?_⟩ hs.extBut
      · simp [rangeL, hlt]
      · have e1 : lo + ((i + 1 : Nat) : Int) * step = lo + (i : Int) * step + step := by rw [Int.natCast_add, Int.add_mul]; simp; omega
        have e2 : (k : Int) - ((i + 1 : Nat) : Int) = (k : Int) - i - 1 := by omega
        rw [e1, e2]; exact hi'
    · refine wpAny_pyNext_range_end cx.hd hit (by omega) fun h' e => kn ?_ h' e
      rw [List.getElem?_eq_none_iff, hlen]; omega
end

/-! what changes an object that is no cell -/
theorem Frm.ext {W : Wd} {env : Env} {vm : VM} {loc : Loc} {h : AH} {hp hp' : Heap} {it : Addr} (F : Frm W env vm loc h hp) (e : Heap.ExtBut it hp hp') (hn : ¬ Own env it) : Frm W env vm loc h hp' := by
  have h1 : env.locals ≠ it := fun q => hn (.inl q.symm)
  have h2 : ∀ x c, env.cells.lookup x = some c → c ≠ it := fun x c q r => hn (.inr ⟨x, r ▸ q⟩)
  obtain ⟨m, hm, hm2⟩ := F.ns
  refine ⟨F.hk, F.hg, F.hb, F.LB, F.nL, ⟨m, hm.extBut e h1, hm2⟩, fun x c q => ?_, fun i x av q1 q2 q3 => ?_, F.ap, F.hc⟩
  · obtain ⟨a1, a2, a3, v, o, ho, hv⟩ := F.cl x c q; exact ⟨a1, a2, a3, v, o, e c o (h2 x c q) ho, hv⟩
  · obtain ⟨c, v, q4, ⟨o, ho, hv⟩, q5⟩ := F.cv i x av q1 q2 q3
    exact ⟨c, v, q4, ⟨o, e c o (h2 x c q4) ho, hv⟩, q5⟩

theorem cells_ext {W : Wd} {h : AH} {hp hp' : Heap} {it : Addr} (R : ∀ a c, h a = some c → CellAt W hp a c) (e : Heap.ExtBut it hp hp') (hn : h it = none) (ht : ∀ o, hp.get? it = some o → ¬ IsTupO o) :
    ∀ a c, h a = some c → CellAt W hp' a c := fun a c q =>
  (R a c q).mono (fun o => e a o (fun r => by rw [r, hn] at q; cases q)) (fun b o h1 h2 => e b o (fun r => ht o (r ▸ h1) h2) h1)

theorem SStep.ext {W : Wd} {env : Env} {h0 h : AH} {hp0 hp hp' : Heap} {it : Addr} (S : SStep W env h0 hp0 h hp) (e : Heap.ExtBut it hp hp') (hn : h it = none) (h0n : hp0.get? it = none)
    (ht : ∀ o, hp.get? it = some o → ¬ IsTupO o) : SStep W env h0 hp0 h hp' :=
  ⟨cells_ext S.cells e hn ht, fun b o q1 q2 q3 => e b o (fun r => by rw [r, h0n] at q1; cases q1) (S.keep b o q1 q2 q3), S.fresh, S.dom⟩
theorem Step.ext {W : Wd} {h0 h : AH} {hp0 hp hp' : Heap} {it : Addr} (S : Step W h0 hp0 h hp) (e : Heap.ExtBut it hp hp') (hn : h it = none) (h0n : hp0.get? it = none)
    (ht : ∀ o, hp.get? it = some o → ¬ IsTupO o) : Step W h0 hp0 h hp' :=
  ⟨cells_ext S.cells e hn ht, fun b o q1 q3 => e b o (fun r => by rw [r, h0n] at q1; cases q1) (S.keep b o q1 q3), S.fresh, S.dom⟩

/-! what a for runs over -/
abbrev ItT := Loc → AH → (Src → AH → Prop) → Prop
def ItRes (W : Wd) (h : AH) (s : Shared) (Q : Src → AH → Prop) : Value → Shared → Prop :=
  fun v s' => ∃ src I h' hp tk, v = .ref I ∧ s' = { s with heap := hp, toks := tk } ∧ Step W h s.heap h' hp ∧ s.heap.get? I = none ∧ h' I = none ∧ W.B ≤ I ∧ ItAt src hp I 0 ∧ Q src h'
def ItOk (W : Wd) (n : Nat) (sc : Scope) (vm : VM) (e : Expr) (t : ItT) : Prop :=
  ∀ env A E s loc h Q, St W n sc vm env A loc h s → t loc h Q → wpAny (model W.prog W.w) A (eval e env) (fun x s1 => wpAny (model W.prog W.w) A (pyIter x) (ItRes W h s Q) E s1) E s

namespace T
def itL (f : ET) : ItT := fun loc h Q => f loc h fun v h1 => ∃ a xs, v = .ref a ∧ h1 a = some (.list xs) ∧ Q (.list a) h1
def itT (f : ET) : ItT := fun loc h Q => f loc h fun v h1 => ∃ a xs, v = .ref a ∧ h1 a = some (.tup xs) ∧ Q (.tup a) h1
def small (x : Int) : Prop := -(2 ^ 40) ≤ x ∧ x ≤ 2 ^ 40
def itR1 (f : EsT) : ItT := fun loc h Q => f loc h fun vs h1 => ∃ b, vs = [.int b] ∧ small b ∧ Q (.range 0 1 b.toNat) h1
def itR2 (f : EsT) : ItT := fun loc h Q => f loc h fun vs h1 => ∃ a b, vs = [.int a, .int b] ∧ small a ∧ small b ∧ Q (.range a 1 (b - a).toNat) h1
-- downwards by one
def itRd (f : EsT) : ItT := fun loc h Q => f loc h fun vs h1 => ∃ a b, vs = [.int a, .int b, .int (-1)] ∧ small a ∧ small b ∧ Q (.range a (-1) (a - b).toNat) h1
end T

theorem small_fits {x : Int} (h : T.small x) : Builtin.Range.rangeFitsLong x = true := by
  obtain ⟨h1, h2⟩ := h
  unfold Builtin.Range.rangeFitsLong
  simp only [Bool.and_eq_true, decide_eq_true_eq]
  omega

section
variable {W : Wd} (ok : WdOk W) {n : Nat} {sc : Scope} {vm : VM}
include ok

theorem it_list {e : Expr} {f : ET} (he : EvOk W n sc vm e f) : ItOk W n sc vm e (T.itL f) := by
  intro env A E s loc h Q st q
  refine he.use ok st q fun v h1 hp1 tk1 q1 st1 S1 => ?_
  obtain ⟨a, xs, hv, ha, q2⟩ := q1
  obtain rfl := er_ref hv
  obtain ⟨vs, hp, hm⟩ := st1.rel.cells a _ ha
  refine wpAny_pyIter_list hp.isList ?_
  exact ⟨.list a, hp1.objs.size, h1, _, tk1, rfl, rfl, S1.trans (Step.keeps st1.rel fun _ _ e => Heap.get?_push_of_some _ e), S1.free (get_size_none _) (st1.rel.fresh (get_size_none _)), st1.rel.fresh (get_size_none _), st1.rel.size,
    ⟨_, Heap.get?_push_size _ rfl, rfl, rfl⟩, q2⟩

theorem it_tup {e : Expr} {f : ET} (he : EvOk W n sc vm e f) : ItOk W n sc vm e (T.itT f) := by
  intro env A E s loc h Q st q
  refine he.use ok st q fun v h1 hp1 tk1 q1 st1 S1 => ?_
  obtain ⟨a, xs, hv, ha, q2⟩ := q1
  obtain rfl := er_ref hv
  obtain ⟨vs, hp, hm⟩ := st1.rel.cells a _ ha
  refine wpAny_pyIter_tuple hp.isTuple ?_
  exact ⟨.tup a, hp1.objs.size, h1, _, tk1, rfl, rfl, S1.trans (Step.keeps st1.rel fun _ _ e => Heap.get?_push_of_some _ e), S1.free (get_size_none _) (st1.rel.fresh (get_size_none _)), st1.rel.fresh (get_size_none _), st1.rel.size,
    ⟨_, Heap.get?_push_size _ rfl, rfl, rfl⟩, q2⟩

omit ok in
theorem range_it {A : Around} {E : Value → Shared → Prop} {s : Shared} {h h1 : AH} {hp : Heap} {tk : Nat} {Q : Src → AH → Prop} {r : Addr} {a b c : Int} {t u v : Tok} {k : Nat} (R : Rel W h1 hp) (S : Step W h s.heap h1 hp)
    (hr : IsRange hp r a b c t u v) (hs : Builtin.Range.small a b c = true) (hk : Builtin.Range.rangeSize a b c = (k : Int)) (q : Q (.range a c k) h1) :
    wpAny (model W.prog W.w) A (pyIter (.ref r)) (ItRes W h s Q) E { s with heap := hp, toks := tk } := by
  refine wpAny_pyIter_range hr hs ?_
  exact ⟨.range a c k, hp.objs.size, h1, _, tk, rfl, rfl, S.trans (Step.keeps R fun _ _ e => Heap.get?_push_of_some _ e), S.free (get_size_none _) (R.fresh (get_size_none _)), R.fresh (get_size_none _), R.size,
    ⟨Nat.zero_le _, by show Heap.get? (hp.push _) hp.objs.size = _; rw [Heap.get?_push_size _ rfl, hk]; simp⟩, q⟩

theorem it_range1 {x : Str} {np pos : Pos} {e : Expr} {f : EsT} (g : GlobAt W x (.type "range")) (hx : sc.names.lookup x = some .globalImplicit) (hd : (x == ("__debug__" : Str)) = false) (hes : EsOk W n sc vm [e] f)
    (hs : ∀ env, starEach [e] env = (false, eval e env) :: starEach [] env) : ItOk W n sc vm (.Call (.Name x np) [e] [] pos) (T.itR1 f) := by
  intro env A E s loc h Q st q
  refine wpAny_Call_NameR (glob_name g st hx hd ?_)
  refine PyProof.Rows.callWith_type (by rw [hs]; rfl) ?_
  have key := hes env A E s loc h _ pos st q
  rw [hs] at key ⊢
  refine Calls.evalArgs_plain (wpAny_mono key ?_ fun _ _ x => x)
  rintro vs s' ⟨h1, hp1, tk1, rfl, S1, b, e, hb, q1⟩
  obtain ⟨v, rfl, hv⟩ := map1 e
  obtain ⟨t, rfl⟩ := er_int hv
  have st1 : St W n sc vm env A loc h1 { s with heap := hp1, toks := tk1 } := st.step ok S1
  refine call_range_1 ?_
  have Sp : Step W h1 hp1 h1 (hp1.push { cls := .type "range", data := .fields #[.int 0 tk1, .int b t, .int 1 (tk1 + 1)] }) := Step.keeps st1.rel fun _ _ e => Heap.get?_push_of_some _ e
  refine range_it (Sp.rel ok st1.rel) (S1.trans Sp) (a := 0) (b := b) (c := 1) (Heap.get?_push_size _ rfl) ?_ ?_ q1
  · obtain ⟨h1, h2⟩ := hb
    unfold Builtin.Range.small Builtin.Range.rangeSize Builtin.Range.rangeFitsLong
    simp; split <;> (try simp) <;> omega
  · unfold Builtin.Range.rangeSize; simp; split <;> omega

theorem it_range2 {x : Str} {np pos : Pos} {e e2 : Expr} {f : EsT} (g : GlobAt W x (.type "range")) (hx : sc.names.lookup x = some .globalImplicit) (hd : (x == ("__debug__" : Str)) = false) (hes : EsOk W n sc vm [e, e2] f)
    (hs : ∀ env, starEach [e, e2] env = (false, eval e env) :: starEach [e2] env) (hs2 : ∀ env, starEach [e2] env = [(false, eval e2 env)]) : ItOk W n sc vm (.Call (.Name x np) [e, e2] [] pos) (T.itR2 f) := by
  intro env A E s loc h Q st q
  refine wpAny_Call_NameR (glob_name g st hx hd ?_)
  refine PyProof.Rows.callWith_type (by rw [hs, hs2]; rfl) ?_
  have key := hes env A E s loc h _ pos st q
  rw [hs] at key ⊢
  refine Calls.evalArgs_plain (wpAny_mono key ?_ fun _ _ x => x)
  rintro vs s' ⟨h1, hp1, tk1, rfl, S1, a, b, e, ha, hb, q1⟩
  obtain ⟨v, w, rfl, hv, hw⟩ := map2 e
  obtain ⟨t, rfl⟩ := er_int hv
  obtain ⟨u, rfl⟩ := er_int hw
  have st1 : St W n sc vm env A loc h1 { s with heap := hp1, toks := tk1 } := st.step ok S1
  refine call_range_2 ?_
  have Sp : Step W h1 hp1 h1 (hp1.push { cls := .type "range", data := .fields #[.int a t, .int b u, .int 1 tk1] }) := Step.keeps st1.rel fun _ _ e => Heap.get?_push_of_some _ e
  refine range_it (Sp.rel ok st1.rel) (S1.trans Sp) (a := a) (b := b) (c := 1) (Heap.get?_push_size _ rfl) ?_ ?_ q1
  · obtain ⟨h1, h2⟩ := hb
    obtain ⟨h3, h4⟩ := ha
    unfold Builtin.Range.small Builtin.Range.rangeSize Builtin.Range.rangeFitsLong
    simp; split <;> (try simp) <;> omega
  · unfold Builtin.Range.rangeSize; simp; split <;> omega

theorem it_rangeD {x : Str} {np pos : Pos} {e e2 e3 : Expr} {f : EsT} (g : GlobAt W x (.type "range")) (hx : sc.names.lookup x = some .globalImplicit) (hd : (x == ("__debug__" : Str)) = false) (hes : EsOk W n sc vm [e, e2, e3] f)
    (hs : ∀ env, starEach [e, e2, e3] env = (false, eval e env) :: starEach [e2, e3] env) (hs2 : ∀ env, starEach [e2, e3] env = [(false, eval e2 env), (false, eval e3 env)]) : ItOk W n sc vm (.Call (.Name x np) [e, e2, e3] [] pos) (T.itRd f) := by
  intro env A E s loc h Q st q
  refine wpAny_Call_NameR (glob_name g st hx hd ?_)
  refine PyProof.Rows.callWith_type (by rw [hs, hs2]; rfl) ?_
  have key := hes env A E s loc h _ pos st q
  rw [hs] at key ⊢
  refine Calls.evalArgs_plain (wpAny_mono key ?_ fun _ _ x => x)
  rintro vs s' ⟨h1, hp1, tk1, rfl, S1, a, b, e, ha, hb, q1⟩
  obtain ⟨v, w, z, rfl, hv, hw, hz⟩ := map3 e
  obtain ⟨t, rfl⟩ := er_int hv
  obtain ⟨u, rfl⟩ := er_int hw
  obtain ⟨y, rfl⟩ := er_int hz
  have st1 : St W n sc vm env A loc h1 { s with heap := hp1, toks := tk1 } := st.step ok S1
  refine call_range_3 (by decide) ?_ (.inl (PyProof.noPylong_small (by decide)))
  have Sp : Step W h1 hp1 h1 (hp1.push { cls := .type "range", data := .fields #[.int a t, .int b u, .int (-1) y] }) := Step.keeps st1.rel fun _ _ e => Heap.get?_push_of_some _ e
  refine range_it (Sp.rel ok st1.rel) (S1.trans Sp) (a := a) (b := b) (c := -1) (Heap.get?_push_size _ rfl) ?_ ?_ q1
  · obtain ⟨h1, h2⟩ := hb
    obtain ⟨h3, h4⟩ := ha
    unfold Builtin.Range.small Builtin.Range.rangeSize Builtin.Range.rangeFitsLong
    simp; split <;> (try simp) <;> omega
  · unfold Builtin.Range.rangeSize; simp; split <;> omega
end
end Mini

/-! MiniG -/
namespace Mini

abbrev AsT := AV → Loc → AH → (Loc → AH → Prop) → Prop
def AsRes (W : Wd) (env : Env) (vm : VM) (h : AH) (s : Shared) (Q : Loc → AH → Prop) : Unit → Shared → Prop :=
  fun _ s' => ∃ loc' h' hp tk, s' = { s with heap := hp, toks := tk } ∧ SStep W env h s.heap h' hp ∧ Frm W env vm loc' h' hp ∧ Q loc' h'
def AsOk (W : Wd) (n : Nat) (sc : Scope) (vm : VM) (e : Expr) (t : AsT) : Prop :=
  ∀ env A E s loc h v Q, St W n sc vm env A loc h s → t (er v) loc h Q → wpAny (model W.prog W.w) A (assign e env v) (AsRes W env vm h s Q) E s
def LgOk (W : Wd) (e : Expr) : Prop :=
  ∀ A E (s : Shared) src it i v (P : Unit → Shared → Prop), ItAt src s.heap it i → P () s → wpAny (model W.prog W.w) A (letOwnedTupleGo e (.ref it) v) P E s

namespace T
def asN (i : Nat) : AsT := fun v loc h Q => Q (upd loc i v) h
def asL : List Nat → List AV → Loc → AH → (Loc → AH → Prop) → Prop
  | [], [], loc, h, Q => Q loc h
  | i :: is, a :: as, loc, h, Q => asL is as (upd loc i a) h Q
  | _, _, _, _, _ => False
def asT (is : List Nat) : AsT := fun v loc h Q => ∃ a xs, v = .ref a ∧ (h a = some (.list xs) ∨ h a = some (.tup xs)) ∧ xs.length = is.length ∧ asL is xs loc h Q
def for_ (it : ItT) (asg : AsT) (b : ST) : ST := fun loc h Q => it loc h fun src h1 => ∃ (I : Nat → Loc → AH → Prop) (N : Nat), I 0 loc h1 ∧ ∀ i loc h, I i loc h → ∃ xs, src.items h = some xs ∧ xs.length ≤ N ∧
  match xs[i]? with
  | Option.none => Q .next loc h
  | some v => asg v loc h fun loc1 h1 => b loc1 h1 fun f loc2 h2 => match f with
      | .next | .cont => I (i + 1) loc2 h2
      | .brk => Q .next loc2 h2
      | .ret v => Q (.ret v) loc2 h2
def asgT (is : List Nat) (e : ET) : ST := fun loc h Q => e loc h fun v h1 => asT is v loc h1 fun loc2 h2 => Q .next loc2 h2
end T

theorem lg_name {W : Wd} {x : Str} {p : Pos} : LgOk W (.Name x p) := fun _ _ _ _ _ _ _ _ _ q => wpAny_pure q
theorem lg_tuple {W : Wd} {es : List Expr} {k : Nat} {p : Pos} : LgOk W (.Tuple es k p) := by
  intro A E s src it i v P hi q
  have key : ∃ o c fs, s.heap.get? it = some o ∧ o.cls = .type c ∧ o.data = .fields fs ∧ (["enumerate", "zip", "dict_itemiterator", "dict_reverseitemiterator", "odict_iterator", "itertools.zip_longest", "itertools.pairwise"].contains c) = false := by
    cases src with
    | list a => obtain ⟨o, ho, hc, hd⟩ := hi; exact ⟨o, _, _, ho, hc, hd, by decide⟩
    | tup a => obtain ⟨o, ho, hc, hd⟩ := hi; exact ⟨o, _, _, ho, hc, hd, by decide⟩
    | range lo st n => exact ⟨_, _, _, hi.2, rfl, rfl, by decide⟩
  obtain ⟨o, c, fs, ho, hc, hd, hn⟩ := key
  cases v with
  | ref a =>
    unfold letOwnedTupleGo
    refine wpAny_bind (wpAny_load ho ?_)
    rw [hc, hd]
    show wpAny _ A (if (["enumerate", "zip", "dict_itemiterator", "dict_reverseitemiterator", "odict_iterator", "itertools.zip_longest", "itertools.pairwise"].contains c && fs[0]? == some (rawInt a)) = true then _ else _) P E s
    rw [if_neg (by rw [hn, Bool.false_and]; exact Bool.false_ne_true)]
    exact wpAny_pure q
  | _ => exact wpAny_pure q

section
variable {W : Wd} (ok : WdOk W) {n : Nat} {sc : Scope} {vm : VM}
include ok

theorem as_name (hj : VInj vm) {i : Nat} {x : Str} {p : Pos} (hv : vm i = some x) (hl : sc.names.lookup x = some .local ∨ sc.names.lookup x = some .cell) : AsOk W n sc vm (.Name x p) (T.asN i) := by
  intro env A E s loc h v Q st q
  refine wpAny_assign_Name (store_ok hj st.fr st.rel hv (by unfold Env.kindOf; rw [st.sc]; exact hl) fun hp tk S F => ?_)
  exact ⟨_, h, hp, tk, rfl, S, F, q⟩

omit ok in
theorem draw_ok {A : Around} {E : Value → Shared → Prop} {h : AH} {src : Src} {it : Addr} {xs : List AV} (cx : Cx n A) (hx : src.items h = some xs) (hn : h it = none) : ∀ (k i : Nat) (s : Shared) (P : List Value → Shared → Prop), (∀ a c, h a = some c → CellAt W s.heap a c) →
    ItAt src s.heap it i → i + k ≤ xs.length →
    (∀ vs hp tk, vs.map er = (xs.drop i).take k → ItAt src hp it (i + k) → Heap.ExtBut it s.heap hp → P vs { s with heap := hp, toks := tk }) → wpAny (model W.prog W.w) A (draw (.ref it) k) P E s
  | 0, i, s, P, R, hi, hle, k => wpAny_pure (k [] s.heap s.toks (by simp) (by simpa using hi) (fun _ _ _ e => e))
  | k + 1, i, s, P, R, hi, hle, kk => by
    show wpAny _ _ (pyNext (.ref it) >>= _) P E s
    refine wpAny_bind (next_ok cx R hi hx (fun q => ?_) fun av q v hp tk hv hi' he => ?_)
    · rw [List.getElem?_eq_none_iff] at q; omega
    · obtain ⟨o, ho, hnt⟩ := hi.obj
      have R' := cells_ext R he hn (fun o' ho' => by rw [ho] at ho'; cases ho'; exact hnt)
      refine wpAny_bind (wpAny_holding (draw_ok cx hx hn k (i + 1) { s with heap := hp, toks := tk } _ R' hi' (by omega) fun vs hp2 tk2 hvs hi2 he2 => wpAny_pure (kk (v :: vs) hp2 tk2 ?_ ?_ (he.trans he2))))
      · have hlt : i < xs.length := by omega
        rw [List.map_cons, hvs, hv, List.drop_eq_getElem_cons hlt, List.take_succ_cons]
        rw [List.getElem?_eq_getElem hlt] at q
        rw [Option.some.inj q]
      · rw [show i + (k + 1) = i + 1 + k from by omega]; exact hi2

omit ok in
theorem unpack_core {A : Around} {E : Value → Shared → Prop} {s : Shared} {h : AH} {v : Value} {src : Src} {xs : List AV} {T id : String} {o0 : Obj} {P : List Value → Shared → Prop} (cx : Cx n A) (R : Rel W h s.heap)
    (hT : s.TypeIs v T) (hl : typeLookup (.type T) "__iter__" = pure (some (.builtin id)))
    (hit : ∀ P' : Value → Shared → Prop, (∀ o, ItAt src (s.heap.push o) s.heap.objs.size 0 → P' (.ref s.heap.objs.size) { s with heap := s.heap.push o }) → wpAny (model W.prog W.w) A (pyIter v) P' E s)
    (hx : src.items h = some xs) (k : ∀ vs hp tk, vs.map er = xs → (∀ b o, s.heap.get? b = some o → hp.get? b = some o) → P vs { s with heap := hp, toks := tk }) :
    wpAny (model W.prog W.w) A (unpackItems v xs.length none) P E s := by
  unfold unpackItems
  refine wpAny_bind ?_
  · unfold notIterableAtAll
    refine wpAny_bind (wpAny_specialOf hT hl ?_)
    refine wpAny_pure ?_
    simp only [Bool.false_eq_true, if_false]
    refine wpAny_bind (wpAny_holding (hit _ fun o hi => ?_))
    have hn : h s.heap.objs.size = none := R.fresh (get_size_none _)
    have Sp : Step W h s.heap h (s.heap.push o) := Step.keeps R fun _ _ e => Heap.get?_push_of_some _ e
    refine wpAny_bind (wpAny_holding (draw_ok cx hx hn xs.length 0 _ _ Sp.cells hi (by omega) fun vs hp tk hvs hi1 he => ?_))
    rw [List.drop_zero, List.take_length] at hvs
    have hlen : vs.length = xs.length := by rw [← hvs, List.length_map]
    rw [if_neg (by omega)]
    obtain ⟨o', ho', hnt⟩ := hi.obj
    have R' := cells_ext Sp.cells he hn (fun o'' ho'' => by rw [ho'] at ho''; cases ho''; exact hnt)
    refine wpAny_bind (wpAny_holding (next_ok cx R' hi1 hx (fun q hp2 he2 => ?_) fun av q => ?_))
    · simp only [Option.isSome_none, Bool.false_eq_true, if_false]
      refine wpAny_pure (k vs hp2 tk hvs fun b o e => ?_)
      have hb : b ≠ s.heap.objs.size := Nat.ne_of_lt (Heap.lt_size e)
      exact he2 b o hb (he b o hb (Heap.get?_push_of_some _ e))
    · rw [Nat.zero_add, List.getElem?_eq_none (Nat.le_refl _)] at q; cases q

theorem as_tuple (hj : VInj vm) {es : List Expr} {is : List Nat} {kk : Nat} {p : Pos} (hlen : ∀ env, (assignEach es env).length = is.length) (hstar : ∀ env, (assignEach es env).findIdx? (·.1) = none)
    (hes : ∀ env A E s loc h vs Q, St W n sc vm env A loc h s → T.asL is (vs.map er) loc h Q → wpAny (model W.prog W.w) A (assignInOrder ((assignEach es env).map (·.2)) vs) (AsRes W env vm h s Q) E s) :
    AsOk W n sc vm (.Tuple es kk p) (T.asT is) := by
  rintro env A E s loc h v Q st ⟨a, xs, hv, hc, hxl, q⟩
  obtain rfl := er_ref hv
  rw [arm_assign_Tuple]
  refine wpAny_bind (wpAny_standAt ?_)
  unfold unpack
  rw [hlen, hstar, ← hxl]
  have fin : ∀ vs hp tk, vs.map er = xs → (∀ b o, s.heap.get? b = some o → hp.get? b = some o) →
      wpAny (model W.prog W.w) A (assignInOrder ((assignEach es env).map (·.2)) vs) (AsRes W env vm h s Q) E { s with heap := hp, toks := tk } := by
    intro vs hp tk hvs hk
    have S : Step W h s.heap h hp := Step.keeps st.rel hk
    have st1 : St W n sc vm env A loc h { s with heap := hp, toks := tk } := st.step ok S
    refine wpAny_mono (hes env A E _ loc h vs Q st1 (by rw [hvs]; exact q)) ?_ fun _ _ x => x
    rintro _ s' ⟨loc2, h2, hp2, tk2, rfl, S2, F2, q2⟩
    exact ⟨loc2, h2, hp2, tk2, rfl, S.s.trans S2 st1.fr.how, F2, q2⟩
  rcases hc with hc | hc
  · obtain ⟨us, hp, hm⟩ := st.rel.cells a _ hc
    refine wpAny_bind (wpAny_holding (unpack_core (src := .list a) (o0 := default) st.cx st.rel hp.isList.typeIs slot_list_iter.lookup (fun P' k => wpAny_pyIter_list hp.isList (k _ ⟨_, Heap.get?_push_size _ rfl, rfl, rfl⟩)) ?_ fin))
    simp only [Src.items, hc]
  · obtain ⟨us, hp, hm⟩ := st.rel.cells a _ hc
    refine wpAny_bind (wpAny_holding (unpack_core (src := .tup a) (o0 := default) st.cx st.rel hp.isTuple.typeIs F.slot_tuple_iter.lookup (fun P' k => wpAny_pyIter_tuple hp.isTuple (k _ ⟨_, Heap.get?_push_size _ rfl, rfl, rfl⟩)) ?_ fin))
    simp only [Src.items, hc]

omit ok in
theorem asl_nil {env : Env} {A : Around} {E : Value → Shared → Prop} {s : Shared} {loc : Loc} {h : AH} {vs : List Value} {Q : Loc → AH → Prop} (st : St W n sc vm env A loc h s) (q : T.asL [] (vs.map er) loc h Q) :
    wpAny (model W.prog W.w) A (assignInOrder ((assignEach [] env).map (·.2)) vs) (AsRes W env vm h s Q) E s := by
  cases vs with
  | nil => exact wpAny_assignInOrder_none ⟨loc, h, s.heap, s.toks, rfl, (Step.refl st.rel).s, st.fr, q⟩
  | cons v r => exact q.elim

theorem asl_cons (hj : VInj vm) {i : Nat} {is : List Nat} {x : Str} {p : Pos} {es : List Expr} (hv : vm i = some x) (hl : sc.names.lookup x = some .local ∨ sc.names.lookup x = some .cell)
    (hes : ∀ env A E s loc h vs Q, St W n sc vm env A loc h s → T.asL is (vs.map er) loc h Q → wpAny (model W.prog W.w) A (assignInOrder ((assignEach es env).map (·.2)) vs) (AsRes W env vm h s Q) E s) :
    ∀ env A E s loc h vs Q, St W n sc vm env A loc h s → T.asL (i :: is) (vs.map er) loc h Q → wpAny (model W.prog W.w) A (assignInOrder ((assignEach (.Name x p :: es) env).map (·.2)) vs) (AsRes W env vm h s Q) E s := by
  intro env A E s loc h vs Q st q
  cases vs with
  | nil => exact q.elim
  | cons v r =>
    show wpAny _ A (assignInOrder (assign (.Name x p) env :: (assignEach es env).map (·.2)) (v :: r)) _ E s
    refine wpAny_assignInOrder_more (wpAny_mono (as_name ok hj hv hl env A E s loc h v (fun loc' h' => T.asL is (r.map er) loc' h' Q) st q) ?_ fun _ _ x => x)
    rintro _ s' ⟨loc1, h1, hp1, tk1, rfl, S1, F1, q1⟩
    refine wpAny_mono (hes env A E _ loc1 h1 r Q (st.after ok (tk := tk1) S1 F1) q1) ?_ fun _ _ x => x
    rintro _ s' ⟨loc2, h2, hp2, tk2, rfl, S2, F2, q2⟩
    exact ⟨loc2, h2, hp2, tk2, rfl, S1.trans S2 F1.how, F2, q2⟩

theorem ex_asgT {es : List Expr} {is : List Nat} {kk : Nat} {e : Expr} {f : ET} {p pos : Pos} (he : EvOk W n sc vm e f) (ht : AsOk W n sc vm (.Tuple es kk p) (T.asT is))
    (hs : ∀ env : Env, env.scope = sc → swapsWithSole [.Tuple es kk p] e pos.line env = pure false) (hw : ∀ env : Env, env.scope = sc → swappedStores [.Tuple es kk p] e env = pure none) :
    ExOk W n sc vm (.Assign [.Tuple es kk p] e pos) (T.asgT is f) := by
  intro env A E s loc h Q st q
  refine PyProof.Rows.Assign_Tuple (he.use ok st q fun v h1 hp1 tk1 q1 st1 S1 => ?_) (hs env st.sc) (hw env st.sc)
  refine wpAny_mono (ht env A E _ loc h1 v _ st1 q1) ?_ fun _ _ x => x
  rintro _ s' ⟨loc2, h2, hp2, tk2, rfl, S2, F2, q2⟩
  exact ⟨loc2, h2, hp2, tk2, rfl, S1.s.trans S2 st1.fr.how, F2, q2⟩

theorem ex_for {target iter : Expr} {body : List Stmt} {it : ItT} {asg : AsT} {b : ST} {pos : Pos} (hi : ItOk W n sc vm iter it) (ha : AsOk W n sc vm target asg) (hb : BkOk W n sc vm body b) (hlg : LgOk W target)
    (hs : ∀ (env : Env) x, foldedSetIterable iter env x = pure x) : ExOk W n sc vm (.For target iter body [] pos) (T.for_ it asg b) := by
  intro env A E s loc h Q st q
  refine wpAny_For (wpAny_mono (hi env A E s loc h _ st q) ?_ fun _ _ x => x) (hs env)
  intro xv s1 h1
  refine wpAny_mono h1 ?_ fun _ _ x => x
  rintro _ _ ⟨src, I0, h1, hp1, tk1, rfl, rfl, S1, hnone, hI0, hB, hit, I, N, hI, turn⟩
  have st1 : St W n sc vm env A loc h1 { s with heap := hp1, toks := tk1 } := st.step ok S1
  have hown : ¬ Own env I0 := fun o => by obtain ⟨ob, e⟩ := st.fr.how I0 o; rw [hnone] at e; cases e
  refine codeAny_forLoop_any (prog := W.prog) (w := W.w) (fun m s' => ∃ i loc' h' hp tk, m = N + 1 - i ∧ s' = { s with heap := hp, toks := tk } ∧ SStep W env h s.heap h' hp ∧ Frm W env vm loc' h' hp ∧ h' I0 = none ∧ ItAt src hp I0 i ∧ I i loc' h') ?_ (N + 1)
    ⟨0, loc, h1, hp1, tk1, rfl, rfl, S1.s, st1.fr, hI0, hit, hI⟩
  rintro m _ ⟨i, loc2, h2, hp2, tk2, rfl, rfl, S2, F2, hI2, hit2, hinv⟩
  obtain ⟨xs, hx, hN, hm⟩ := turn i loc2 h2 hinv
  obtain ⟨o, ho, hnt⟩ := hit2.obj
  have hnt' : ∀ o', hp2.get? I0 = some o' → ¬ IsTupO o' := fun o' e => by rw [ho] at e; cases e; exact hnt
  refine next_ok st.cx S2.cells hit2 hx (fun e hp3 he => ?_) fun av e v hp3 tk3 hv hit3 he => ?_
  · rw [e] at hm
    exact wpAny_execs_nil ⟨loc2, h2, hp3, tk2, rfl, S2.ext he hI2 hnone hnt', F2.ext he hown, hm⟩
  · rw [e] at hm
    have S3 := S2.ext he hI2 hnone hnt'
    have F3 := F2.ext he hown
    have hlt : i < xs.length := by
      rcases Nat.lt_or_ge i xs.length with q | q
      · exact q
      · rw [List.getElem?_eq_none q] at e; cases e
    have st3 : St W n sc vm env A loc2 h2 { s with heap := hp3, toks := tk3 } := st.after ok S3 F3
    refine hlg _ _ _ src I0 (i + 1) v _ hit3 ?_
    refine wpAny_mono (ha env A (fun _ _ => False) _ loc2 h2 v _ st3 (by rw [hv]; exact hm)) ?_ fun _ _ x => x.elim
    rintro _ s' ⟨loc4, h4, hp4, tk4, rfl, S4, F4, q4⟩
    have st4 : St W n sc vm env A loc4 h4 { s with heap := hp4, toks := tk4 } := st3.after ok S4 F4
    refine wpAny_mono (hb env A (fun _ _ => False) _ loc4 h4 _ st4 q4) ?_ fun _ _ x => x.elim
    rintro f s' ⟨loc5, h5, hp5, tk5, rfl, S5, F5, q5⟩
    have S := (S3.trans S4 F3.how).trans S5 F4.how
    obtain ⟨o3, ho3, _⟩ := hit3.obj
    have hI4 : h4 I0 = none := S4.stay ho3 hI2
    have hit4 : ItAt src hp4 I0 (i + 1) := hit3.mono fun o e => S4.keep I0 o e hown (.inl hI2)
    obtain ⟨o4, ho4, _⟩ := hit4.obj
    have hI5 : h5 I0 = none := S5.stay ho4 hI4
    have hit5 : ItAt src hp5 I0 (i + 1) := hit4.mono fun o e => S5.keep I0 o e hown (.inl hI4)
    cases f with
    | next => exact ⟨N + 1 - (i + 1), by omega, i + 1, loc5, h5, hp5, tk5, rfl, rfl, S, F5, hI5, hit5, q5⟩
    | cont => exact ⟨N + 1 - (i + 1), by omega, i + 1, loc5, h5, hp5, tk5, rfl, rfl, S, F5, hI5, hit5, q5⟩
    | brk => exact ⟨loc5, h5, hp5, tk5, rfl, S, F5, q5⟩
    | ret v => exact ⟨loc5, h5, hp5, tk5, rfl, S, F5, q5⟩
end
end Mini

/-! MiniH -/
namespace Mini

/-! the scope that a comprehension's block is run in -/
def relabelS (scope sc : Scope) : Scope :=
  { scope with names := scope.names.map fun (n, k) => if (k == .free && sc.kind == .function && sc.names.lookup n == some .cell) then (n, .cell) else (n, k) }
theorem relabel_eq {scope sc : Scope} {env : Env} (h : env.scope = sc) : relabel scope env = relabelS scope sc := by
  subst h; rfl

/-! the closure -/
def clOf (cs : List (Str × Addr)) : List (Str × NameKind) → List (Str × Addr) → List (Str × Addr)
  | [], acc => acc
  | (n, k) :: r, acc => if k == .free then clOf cs r ((n, (cs.lookup n).getD 0) :: acc) else clOf cs r acc

theorem closure_ok {scope : Scope} {env : Env} (h : ∀ x, (x, NameKind.free) ∈ scope.names → (env.cells.lookup x).isSome = true) : closureFor scope env = pure (clOf env.cells scope.names []) := by
  have key : ∀ (names : List (Str × NameKind)) (acc : List (Str × Addr)), (∀ x, (x, NameKind.free) ∈ names → (env.cells.lookup x).isSome = true) →
      (forIn names acc fun (p : Str × NameKind) (cs : List (Str × Addr)) => (do if p.2 == .free then pure (ForInStep.yield ((p.1, ← cellOf env p.1) :: cs)) else pure (ForInStep.yield cs) : Sem (ForInStep (List (Str × Addr))))) = (pure (clOf env.cells names acc) : Sem (List (Str × Addr))) := by
    intro names
    induction names with
    | nil => intro acc _; rfl
    | cons p r ih =>
      intro acc hh
      obtain ⟨n, k⟩ := p
      rw [List.forIn_cons]
      by_cases hk : k = .free
      · subst hk
        obtain ⟨c, hc⟩ := Option.isSome_iff_exists.mp (hh n (List.mem_cons_self ..))
        have hco : cellOf env n = pure c := by unfold cellOf; rw [hc]
        simp only [hco, beq_self_eq_true, if_true, pure_bind]
        rw [ih _ fun x hx => hh x (List.mem_cons_of_mem _ hx)]
        simp [clOf, hc]
      · have hb : (k == NameKind.free) = false := by simpa using hk
        simp only [hb, Bool.false_eq_true, if_false, pure_bind]
        rw [ih _ fun x hx => hh x (List.mem_cons_of_mem _ hx)]
        simp [clOf, hb]
  unfold closureFor
  have := key scope.names [] h
  simp only [bind_pure_comp, Functor.map_map] at this ⊢
  first
    | (rw [← this]; rfl)
    | (simpa using this)

theorem clOf_lookup {cs : List (Str × Addr)} {x : Str} : ∀ {names : List (Str × NameKind)} {acc : List (Str × Addr)}, (∀ p ∈ names, p.1 = x → p.2 ≠ .free) → (clOf cs names acc).lookup x = acc.lookup x
  | [], _, _ => rfl
  | (n, k) :: r, acc, h => by
    have hr : ∀ p ∈ r, p.1 = x → p.2 ≠ .free := fun p hp => h p (List.mem_cons_of_mem _ hp)
    unfold clOf
    split
    · rename_i hk
      rw [clOf_lookup hr, List.lookup_cons]
      have : (x == n) = false := by
        cases q : x == n with
        | false => rfl
        | true => exact absurd (by simpa using hk) (h (n, k) (List.mem_cons_self ..) (beq_iff_eq.mp q).symm)
      rw [this]
    · exact clOf_lookup hr
theorem clOf_free {cs : List (Str × Addr)} {x : Str} : ∀ {names : List (Str × NameKind)} {acc : List (Str × Addr)}, (names.map (·.1)).Nodup → (x, NameKind.free) ∈ names → (clOf cs names acc).lookup x = some ((cs.lookup x).getD 0)
  | (n, k) :: r, acc, hn, h => by
    simp only [List.map_cons, List.nodup_cons] at hn
    rcases List.mem_cons.mp h with e | h
    · cases e
      unfold clOf
      rw [if_pos (show (NameKind.free == NameKind.free) = true from rfl), clOf_lookup (fun p hp e _ => hn.1 (by rw [← e]; exact List.mem_map_of_mem (f := fun x : Str × NameKind => x.1) hp)), List.lookup_cons, beq_self_eq_true]
    · unfold clOf
      split <;> exact clOf_free hn.2 h
theorem clOf_src {cs : List (Str × Addr)} {x : Str} {c : Addr} : ∀ {names : List (Str × NameKind)} {acc : List (Str × Addr)}, (∀ y, (y, NameKind.free) ∈ names → (cs.lookup y).isSome = true) → (clOf cs names acc).lookup x = some c → acc.lookup x = some c ∨ cs.lookup x = some c
  | [], _, _, h => .inl h
  | (n, k) :: r, acc, hh, h => by
    have hr : ∀ y, (y, NameKind.free) ∈ r → (cs.lookup y).isSome = true := fun y hy => hh y (List.mem_cons_of_mem _ hy)
    unfold clOf at h
    split at h
    · rename_i hk
      have hk' : k = .free := by simpa using hk
      subst hk'
      rcases clOf_src hr h with e | e
      · rw [List.lookup_cons] at e
        split at e
        · rename_i q
          have q' : x = n := by simpa using q
          subst q'
          obtain ⟨d, hd⟩ := Option.isSome_iff_exists.mp (hh x (List.mem_cons_self ..))
          rw [hd] at e; exact .inr (hd.trans e)
        · exact .inl e
      · exact .inr e
    · exact clOf_src hr h

/-! the block's own new cells -/
theorem cells_new : ∀ (names : List (Str × NameKind)) (n : Nat) (acc : List (Str × Addr)) (x : Str) (c : Addr), (cellsFrom n names acc).lookup x = some c → acc.lookup x = some c ∨ (n ≤ c ∧ (x, NameKind.cell) ∈ names)
  | [], _, _, _, _, h => .inl h
  | (m, k) :: r, n, acc, x, c, h => by
    unfold cellsFrom at h
    split at h
    · rename_i hk
      have hk' : k = .cell := by simpa using hk
      subst hk'
      rcases cells_new r (n + 1) _ x c h with e | ⟨e1, e2⟩
      · rw [List.lookup_cons] at e
        split at e
        · rename_i q
          have q' : x = m := by simpa using q
          subst q'
          cases e
          exact .inr ⟨Nat.le_refl _, List.mem_cons_self ..⟩
        · exact .inl e
      · exact .inr ⟨by omega, List.mem_cons_of_mem _ e2⟩
    · rcases cells_new r n acc x c h with e | ⟨e1, e2⟩
      · exact .inl e
      · exact .inr ⟨e1, List.mem_cons_of_mem _ e2⟩

theorem cells_other {x : Str} : ∀ (names : List (Str × NameKind)) (n : Nat) (acc : List (Str × Addr)), (x, NameKind.cell) ∉ names → (cellsFrom n names acc).lookup x = acc.lookup x
  | [], _, _, _ => rfl
  | (m, k) :: r, n, acc, h => by
    have hr : (x, NameKind.cell) ∉ r := fun q => h (List.mem_cons_of_mem _ q)
    unfold cellsFrom
    split
    · rename_i hk
      have hk' : k = .cell := by simpa using hk
      subst hk'
      rw [cells_other r _ _ hr, List.lookup_cons]
      have : (x == m) = false := by
        cases q : x == m with
        | false => rfl
        | true => exact absurd (by rw [beq_iff_eq.mp q]; exact List.mem_cons_self ..) h
      rw [this]
    · exact cells_other r _ _ hr

/-- where the new cells lie, and that two names do not share one -/
theorem cells_spec : ∀ (names : List (Str × NameKind)) (h : Heap) (acc : List (Str × Addr)), (∀ x y c, acc.lookup x = some c → acc.lookup y = some c → x = y) → (∀ x c, acc.lookup x = some c → c < h.objs.size) →
    (∀ x y c, (cellsFrom h.objs.size names acc).lookup x = some c → (cellsFrom h.objs.size names acc).lookup y = some c → x = y) ∧
    (∀ x c, (cellsFrom h.objs.size names acc).lookup x = some c → acc.lookup x = some c ∨ (h.objs.size ≤ c ∧ (pushCells h names).IsCell c none))
  | [], h, acc, ha, _ => ⟨ha, fun x c e => .inl e⟩
  | (m, k) :: r, h, acc, ha, hb => by
    unfold cellsFrom pushCells
    split
    · have hsz : (h.push { cls := .type "cell", data := .cell none }).objs.size = h.objs.size + 1 := Heap.size_push ..
      obtain ⟨i1, i2⟩ := cells_spec r (h.push { cls := .type "cell", data := .cell none }) ((m, h.objs.size) :: acc) (fun x y c e1 e2 => by
          rw [List.lookup_cons] at e1 e2
          cases q1 : x == m <;> cases q2 : y == m <;> rw [q1] at e1 <;> rw [q2] at e2
          · exact ha x y c e1 e2
          · have := hb x c e1; cases e2; exact absurd this (Nat.lt_irrefl _)
          · have := hb y c e2; cases e1; exact absurd this (Nat.lt_irrefl _)
          · rw [beq_iff_eq.mp q1, beq_iff_eq.mp q2]) (fun x c e => by
          rw [hsz]
          rw [List.lookup_cons] at e
          cases q1 : x == m <;> rw [q1] at e
          · exact Nat.lt_succ_of_lt (hb x c e)
          · cases e; exact Nat.lt_succ_self _)
      rw [hsz] at i1 i2
      refine ⟨i1, fun x c e => ?_⟩
      rcases i2 x c e with e | ⟨e1, e2⟩
      · rw [List.lookup_cons] at e
        cases q1 : x == m <;> rw [q1] at e
        · exact .inl e
        · cases e
          exact .inr ⟨Nat.le_refl _, _, pushCells_keeps r _ _ _ (Heap.get?_push_size _ rfl), rfl⟩
      · exact .inr ⟨by omega, e2⟩
    · exact cells_spec r h acc ha hb

theorem Frm.weaken {W : Wd} {env : Env} {vm : VM} {loc loc' : Loc} {h : AH} {hp : Heap} (F : Frm W env vm loc h hp) (k : ∀ i av, loc' i = some av → loc i = some av) : Frm W env vm loc' h hp := by
  obtain ⟨m, hm, hm2⟩ := F.ns
  exact ⟨F.hk, F.hg, F.hb, F.LB, F.nL, ⟨m, hm, fun i x av h1 h2 h3 => hm2 i x av h1 h2 (k i av h3)⟩, F.cl, fun i x av h1 h2 h3 => F.cv i x av h1 h2 (k i av h3), F.ap, F.hc⟩

/-! the new environment of a comprehension's block -/
theorem compEnv_ok {M : Model} {A : Around} {E : Value → Shared → Prop} {s : Shared} {scope : Scope} {env : Env} {cl : List (Str × Addr)} {P : Env → Shared → Prop}
    (h : ∀ hp, hp = pushCells (s.heap.push { cls := .type "dict", data := .dict #[] }) scope.names → P (newEnv scope s.heap.objs.size env.globals (cellsFrom (s.heap.objs.size + 1) scope.names cl) env.qual none .none (some env) builtinsNs) { s with heap := hp }) :
    wpAny M A (newFunctionEnv scope env.globals cl [] env.qual none .none (some env)) P E s := by
  simp only [newFunctionEnv, Option.isSome_some, if_true]
  refine wpAny_bind (wpAny_alloc ?_)
  refine wpAny_bind (wpAny_layCells _ (fun name kind cells => by cases hkc : kind == NameKind.cell <;> simp [hkc]) _ _ _ _ ?_)
  rw [show ({ s with heap := s.heap.push { cls := .type "dict", data := .dict #[] } } : Shared).heap.objs.size = s.heap.objs.size + 1 from Heap.size_push ..]
  simp only [List.forIn_nil]
  first
    | exact wpAny_bind (wpAny_pure (wpAny_pure (h _ rfl)))
    | exact wpAny_pure (h _ rfl)
theorem lookup_of_mem {names : List (Str × NameKind)} {x : Str} {k : NameKind} (hn : (names.map (·.1)).Nodup) (h : (x, k) ∈ names) : names.lookup x = some k := by
  induction names with
  | nil => cases h
  | cons p r ih =>
    obtain ⟨m, j⟩ := p
    simp only [List.map_cons, List.nodup_cons] at hn
    rcases List.mem_cons.mp h with e | h
    · cases e; rw [List.lookup_cons, beq_self_eq_true]
    · have hx : (x == m) = false := by
        cases q : x == m with
        | false => rfl
        | true => exact absurd (beq_iff_eq.mp q ▸ List.mem_map_of_mem (f := (·.1)) h) hn.1
      rw [List.lookup_cons, hx]; exact ih hn.2 h

theorem relabelS_lookup {scope sc : Scope} {x : Str} : (relabelS scope sc).names.lookup x = (scope.names.lookup x).map fun k => if (k == .free && sc.kind == .function && sc.names.lookup x == some .cell) then .cell else k := by
  unfold relabelS
  simp only
  induction scope.names with
  | nil => rfl
  | cons p r ih =>
    obtain ⟨m, j⟩ := p
    simp only [List.map_cons]
    by_cases hc : (j == .free && sc.kind == .function && sc.names.lookup m == some .cell) = true
    · rw [if_pos hc]
      by_cases hx : x = m
      · subst hx; simp only [List.lookup_cons, beq_self_eq_true, Option.map_some]; rw [if_pos hc]
      · have hx' : (x == m) = false := by simpa using hx
        simp only [List.lookup_cons, hx']; exact ih
    · rw [if_neg hc]
      by_cases hx : x = m
      · subst hx; simp only [List.lookup_cons, beq_self_eq_true, Option.map_some]; rw [if_neg hc]
      · have hx' : (x == m) = false := by simpa using hx
        simp only [List.lookup_cons, hx']; exact ih

namespace T
def comp (B : Addr) (it : ItT) (i : Nat) (c : TT) (e : ET) : ET := fun loc h Q => it loc h fun src h1 => ∀ D, B ≤ D → h1 D = Option.none →
  ∃ (I : Nat → List AV → AH → Prop) (N : Nat), I 0 [] (upd h1 D (.list [])) ∧ ∀ k ys h, I k ys h → h D = some (.list ys) ∧ ys.length < 2 ^ 20 ∧ ∃ xs, src.items h = some xs ∧ xs.length ≤ N ∧
    match xs[k]? with
    | Option.none => Q (.ref D) h
    | some v => c (upd loc i v) h fun b h2 => if b then e (upd loc i v) h2 fun y h3 => h3 D = some (.list ys) ∧ I (k + 1) (ys ++ [y]) (upd h3 D (.list (ys ++ [y]))) else I (k + 1) ys h2
def yes : TT := fun _ h Q => Q true h
end T

/-- the tests of a clause -/
def TstOk (W : Wd) (n : Nat) (sc : Scope) (vm : VM) (ifs : List Expr) (t : TT) : Prop :=
  ∀ env A E s loc h Q, St W n sc vm env A loc h s → t loc h Q →
    wpAny (model W.prog W.w) A (forIn ifs true fun c r => if r = true then do let ok ← isTrue c env (eval c env); pure (ForInStep.yield ok) else pure (ForInStep.yield r)) (ResB W h s Q) E s
theorem tst_nil {W : Wd} {n : Nat} {sc : Scope} {vm : VM} : TstOk W n sc vm [] T.yes := by
  intro env A E s loc h Q st q
  exact wpAny_tests_nil ⟨h, s.heap, s.toks, rfl, Step.refl st.rel, q⟩
theorem tst_one {W : Wd} {n : Nat} {sc : Scope} {vm : VM} {c : Expr} {t : TT} (hc : TsOk W n sc vm c t) : TstOk W n sc vm [c] t := by
  intro env A E s loc h Q st q
  exact wpAny_tests_one (hc env A E s loc h Q st q)

section
variable {W : Wd} (ok : WdOk W) {n : Nat} {sc : Scope} {vm vm' : VM}
include ok

/-- a comprehension's block, run to its end -/
theorem comp_core {elt iter : Expr} {x : Str} {px pos : Pos} {ifs : List Expr} {scope : Scope} {it : ItT} {i : Nat} {c : TT} {e : ET}
    (hi : ItOk W n sc vm iter it) (hk : scope.kind = .function) (hnd : (scope.names.map (·.1)).Nodup)
    (hfree : ∀ y, (y, NameKind.free) ∈ scope.names → sc.names.lookup y = some .cell) (hskn : sc.kind = .function)
    (hx : scope.names.lookup x = some .local ∨ scope.names.lookup x = some .cell) (hvi : vm' i = some x) (hj : VInj vm')
    (hvm : ∀ j y, vm' j = some y → j ≠ i → vm j = some y ∧ scope.names.lookup y = some .free)
    (hc : TstOk W n (relabelS scope sc) vm' ifs c) (he : EvOk W n (relabelS scope sc) vm' elt e)
    {env : Env} {A : Around} {E : Value → Shared → Prop} {s : Shared} {loc : Loc} {h : AH} {Q : AV → AH → Prop} (st : St W n sc vm env A loc h s) (q : T.comp W.B it i c e loc h Q)
    {RR : Value → Addr → Result → Shared → Prop}
    (fin : ∀ D C hf hp tk, Step W h s.heap hf hp → Q (.ref D) hf → (∃ m, hp.Ns C m) → s.heap.get? C = none → hf C = none → RR (.ref D) C (.ok .next) { s with heap := hp, toks := tk }) :
    wpAny (model W.prog W.w) A (eval iter env) (fun xv s₁ => wpAny (model W.prog W.w) A (pyIter xv) (fun it s₂ => wpAny (model W.prog W.w) A (newList []) (fun acc s₃ =>
      wpAny (model W.prog W.w) A (newFunctionEnv scope env.globals (clOf env.cells scope.names []) [] env.qual none .none (some env)) (fun cenv s₄ =>
        codeAny (model W.prog W.w) A (.compStart (.ListComp elt [⟨.Name x px, iter, ifs, 0⟩] scope pos) 0 it acc { cenv with scope := relabel scope env }) (RR acc cenv.locals) s₄) E s₃) E s₂) E s₁) E s := by
  have hsome : ∀ y, (y, NameKind.free) ∈ scope.names → (env.cells.lookup y).isSome = true := fun y hy => by
    obtain ⟨d, hd⟩ := st.fr.hc y (by unfold Env.kindOf; rw [st.sc]; exact hfree y hy)
    rw [hd]; rfl
  refine wpAny_mono (hi env A E s loc h _ st q) ?_ fun _ _ x => x
  intro xv s1 h1
  refine wpAny_mono h1 ?_ fun _ _ x => x
  rintro _ _ ⟨src, I0, h1, hp1, tk1, rfl, rfl, S1, hnone, hI0, hB, hit, q1⟩
  have st1 : St W n sc vm env A loc h1 { s with heap := hp1, toks := tk1 } := st.step ok S1
  refine wpAny_newList ?_ (by decide)
  -- the list
  obtain ⟨I, N, hI, turn⟩ := q1 hp1.objs.size st1.rel.size (st1.rel.fresh (get_size_none _))
  have S2 : Step W h1 hp1 (upd h1 hp1.objs.size (.list [])) (hp1.push { cls := .type "list", data := .seq #[] }) := Step.push (c := .list []) st1.rel ⟨_, ⟨0, Heap.get?_push_size _ rfl⟩, rfl⟩
  have st2 : St W n sc vm env A loc (upd h1 hp1.objs.size (.list [])) { s with heap := hp1.push { cls := .type "list", data := .seq #[] }, toks := tk1 } := ⟨st1.sc, st1.cx, st1.fr.step S2, S2.rel ok st1.rel⟩
  have hDn : s.heap.get? hp1.objs.size = none := S1.free (get_size_none _) (st1.rel.fresh (get_size_none _))
  have hDI : hp1.objs.size ≠ I0 := by obtain ⟨o, ho, _⟩ := hit.obj; exact fun q => Nat.lt_irrefl _ (q ▸ Heap.lt_size ho)
  generalize hD : hp1.objs.size = D at *
  generalize hH2 : hp1.push { cls := .type "list", data := .seq #[] } = hp2 at *
  have hit2 : ItAt src hp2 I0 0 := hit.mono fun o e => by rw [← hH2]; exact Heap.get?_push_of_some _ e
  have hI2 : upd h1 D (.list []) I0 = none := by rw [upd_ne (Ne.symm hDI)]; exact hI0
  generalize upd h1 D (.list []) = h2 at *
  have S12 := S1.trans S2
  refine compEnv_ok fun hp3 hhp3 => ?_
  -- the block's environment
  have hC3 : ∀ b o, hp2.get? b = some o → hp3.get? b = some o := fun b o e => by rw [hhp3]; exact pushCells_keeps _ _ b o (Heap.get?_push_of_some _ e)
  have S3 : Step W h2 hp2 h2 hp3 := Step.keeps st2.rel hC3
  have R3 : Rel W h2 hp3 := S3.rel ok st2.rel
  have hCn2 : h2 hp2.objs.size = none := st2.rel.fresh (get_size_none _)
  have hge : ∀ b, hp2.objs.size ≤ b → hp2.get? b = none := fun b hb => by
    cases q : hp2.get? b with
    | none => rfl
    | some o => exact absurd (Heap.lt_size q) (Nat.not_lt.mpr hb)
  have hfr : ∀ b, hp2.objs.size ≤ b → h2 b = none ∧ s.heap.get? b = none := fun b hb => ⟨st2.rel.fresh (hge b hb), S12.free (hge b hb) (st2.rel.fresh (hge b hb))⟩
  have hclsrc : ∀ y d, (clOf env.cells scope.names []).lookup y = some d → env.cells.lookup y = some d := fun y d e => by
    rcases clOf_src hsome e with e | e
    · cases e
    · exact e
  have hsz3 : (hp2.push { cls := .type "dict", data := .dict #[] }).objs.size = hp2.objs.size + 1 := Heap.size_push ..
  have spec := cells_spec scope.names (hp2.push { cls := .type "dict", data := .dict #[] }) (clOf env.cells scope.names []) (fun a b d e1 e2 => st.fr.ap a b d (hclsrc _ _ e1) (hclsrc _ _ e2))
    (fun a d e => by
      obtain ⟨_, _, _, v, o, ho, _⟩ := st2.fr.cl a d (hclsrc _ _ e)
      rw [hsz3]; exact Nat.lt_succ_of_lt (Heap.lt_size ho))
  rw [hsz3, ← hhp3] at spec
  obtain ⟨spec1, spec2⟩ := spec
  have hNs3 : hp3.Ns hp2.objs.size fun _ => none := by rw [hhp3]; exact (Heap.Ns.new hp2 (.type "dict")).keeps (pushCells_keeps _ _)
  generalize hcells : cellsFrom (hp2.objs.size + 1) scope.names (clOf env.cells scope.names []) = cells at *
  generalize hcenv : ({ newEnv scope hp2.objs.size env.globals cells env.qual none .none (some env) builtinsNs with scope := relabel scope env } : Env) = cenv
  have ceL : cenv.locals = hp2.objs.size := by rw [← hcenv]; rfl
  have ceC : cenv.cells = cells := by rw [← hcenv]; rfl
  have ceS : cenv.scope = relabelS scope sc := by rw [← hcenv, ← relabel_eq st.sc]
  have ceK : ∀ y, cenv.kindOf y = (scope.names.lookup y).map fun k => if (k == .free && sc.kind == .function && sc.names.lookup y == some .cell) then .cell else k := fun y => by
    unfold Env.kindOf; rw [ceS]; exact relabelS_lookup
  have hfreeL : ∀ y, scope.names.lookup y = some .free → cells.lookup y = env.cells.lookup y := fun y hy => by
    have hmem := mem_of_lookup hy
    have hnc : (y, NameKind.cell) ∉ scope.names := fun q => by rw [lookup_of_mem hnd q] at hy; cases hy
    rw [← hcells, cells_other _ _ _ hnc, clOf_free hnd hmem]
    obtain ⟨d, hd⟩ := Option.isSome_iff_exists.mp (hsome y hmem)
    rw [hd]; rfl
  let locC : Loc := fun j => if j = i then none else loc j
  have hupd : ∀ v, upd locC i v = upd loc i v := fun v => by
    funext j
    by_cases hji : j = i
    · subst hji; rw [upd_same, upd_same]
    · rw [upd_ne hji, upd_ne hji]; exact if_neg hji
  have F3 : Frm W cenv vm' locC h2 hp3 := by
    refine ⟨by rw [ceS]; exact hk, by rw [← hcenv]; exact st.fr.hg, by rw [← hcenv]; exact st.fr.hb, by rw [ceL]; exact st2.rel.size, by rw [ceL]; exact hCn2, ⟨_, by rw [ceL]; exact hNs3, fun j y av e1 e2 e3 => ?_⟩, fun y d e => ?_, fun j y av e1 e2 e3 => ?_, fun a b d e1 e2 => ?_, fun y e => ?_⟩
    · by_cases hji : j = i
      · simp only [locC, if_pos hji] at e3; cases e3
      · obtain ⟨_, hfr'⟩ := hvm j y e1 hji
        rw [ceK, hfr'] at e2
        simp only [Option.map_some] at e2
        split at e2 <;> cases e2
    · rw [ceC] at e
      rw [ceL]
      rcases spec2 y d e with e | ⟨e1, e2⟩
      · obtain ⟨a1, a2, a3, v, o, ho, hv⟩ := st2.fr.cl y d (hclsrc _ _ e)
        exact ⟨a1, a2, fun q => Nat.lt_irrefl _ (q ▸ Heap.lt_size ho), v, o, hC3 _ _ ho, hv⟩
      · have e1' : hp2.objs.size < d := e1
        exact ⟨Nat.le_trans st2.rel.size (Nat.le_of_lt e1'), (hfr d (Nat.le_of_lt e1')).1, fun q => Nat.lt_irrefl _ (q ▸ e1'), none, e2⟩
    · by_cases hji : j = i
      · simp only [locC, if_pos hji] at e3; cases e3
      · simp only [locC, if_neg hji] at e3
        obtain ⟨hvo, hfr'⟩ := hvm j y e1 hji
        have hcell : sc.names.lookup y = some .cell := hfree y (mem_of_lookup hfr')
        obtain ⟨d, v, e4, ⟨o, ho, hv⟩, e5⟩ := st2.fr.cv j y av hvo (.inl (by unfold Env.kindOf; rw [st.sc]; exact hcell)) e3
        exact ⟨d, v, by rw [ceC, hfreeL y hfr']; exact e4, ⟨o, hC3 _ _ ho, hv⟩, e5⟩
    · rw [ceC] at e1 e2; exact spec1 a b d e1 e2
    · rw [ceC]
      rw [ceK] at e
      cases hl : scope.names.lookup y with
      | none => rw [hl] at e; cases e
      | some k =>
        rw [hl] at e
        simp only [Option.map_some] at e
        by_cases hkc : k = .cell
        · subst hkc
          have := cellsFrom_some (x := y) scope.names (hp2.objs.size + 1) (clOf env.cells scope.names []) (.inl hl)
          rw [hcells] at this
          exact Option.isSome_iff_exists.mp this
        · have hkf : k = .free := by
            split at e
            · rename_i q; simp only [Bool.and_eq_true, beq_iff_eq] at q; exact q.1.1
            · exact absurd (Option.some.inj e) hkc
          subst hkf
          rw [hfreeL y hl]
          exact Option.isSome_iff_exists.mp (hsome y (mem_of_lookup hl))
  have hI3 : ItAt src hp3 I0 0 := hit2.mono fun o e => hC3 _ o e
  have hown : ∀ b, b = cenv.locals ∨ (∃ y, (y, NameKind.cell) ∈ scope.names ∧ cenv.cells.lookup y = some b) → s.heap.get? b = none ∧ b ≠ I0 := fun b hb => by
    have hI0lt : I0 < hp2.objs.size := by obtain ⟨o, ho, _⟩ := hit2.obj; exact Heap.lt_size ho
    rcases hb with hb | ⟨y, hy, hb⟩
    · rw [hb, ceL]; exact ⟨(hfr _ (Nat.le_refl _)).2, fun q => Nat.lt_irrefl _ (q ▸ hI0lt)⟩
    · rw [ceC] at hb
      rcases spec2 y b hb with e | ⟨e, _⟩
      · exfalso
        have : (clOf env.cells scope.names []).lookup y = ([] : List (Str × Addr)).lookup y := clOf_lookup (fun p hp e q => by
          obtain ⟨a, k⟩ := p
          simp only at e q
          subst e; subst q
          have h1 := lookup_of_mem hnd hp
          rw [lookup_of_mem hnd hy] at h1; cases h1)
        rw [this] at e; cases e
      · have e1' : hp2.objs.size < b := e
        exact ⟨(hfr b (Nat.le_of_lt e1')).2, fun q => Nat.lt_irrefl _ (Nat.lt_trans (q ▸ e1') hI0lt)⟩
  have loop : ∀ s4 : Shared, s4 = { s with heap := hp3, toks := tk1 } → codeAny (model W.prog W.w) A (.compLoop (.ListComp elt [⟨.Name x px, iter, ifs, 0⟩] scope pos) 0 (.ref I0) (.ref D) cenv) (RR (.ref D) hp2.objs.size) s4 := by
    rintro s4 rfl
    refine codeAny_compLoop_tests (prog := W.prog) (w := W.w) (fun m s' => ∃ k ys h' hp tk, m = N + 1 - k ∧ s' = { s with heap := hp, toks := tk } ∧ Step W h s.heap h' hp ∧ Frm W cenv vm' locC h' hp ∧ h' I0 = none ∧ ItAt src hp I0 k ∧ I k ys h') ?_ (N + 1)
      ⟨0, [], h2, hp3, tk1, rfl, rfl, S12.trans S3, F3, hI2, hI3, hI⟩ (by intro _; rfl)
    rintro m _ ⟨k, ys, h4, hp4, tk4, rfl, rfl, S4, F4, hI4, hit4, hinv⟩
    obtain ⟨hDl, hylen, xs, hxs, hN, hm⟩ := turn k ys h4 hinv
    obtain ⟨o, ho, hnt⟩ := hit4.obj
    have hnt' : ∀ o', hp4.get? I0 = some o' → ¬ IsTupO o' := fun o' e => by rw [ho] at e; cases e; exact hnt
    have hownI : ¬ Own cenv I0 := fun q => by
      rcases q with q | ⟨y, q⟩
      · exact (hown I0 (.inl q)).2 rfl
      · have := (F4.cl y I0 q).2.2.2
        obtain ⟨v, o', ho', hv'⟩ := this
        rw [ho] at ho'; cases ho'
        cases src with
        | list a => obtain ⟨o'', e1, e2, e3⟩ := hit4; rw [ho] at e1; cases e1; rw [hv'] at e3; cases e3
        | tup a => obtain ⟨o'', e1, e2, e3⟩ := hit4; rw [ho] at e1; cases e1; rw [hv'] at e3; cases e3
        | range a b c => have e1 : hp4.get? I0 = some _ := hit4.2; rw [ho] at e1; cases e1; cases hv'
    refine next_ok st.cx S4.cells hit4 hxs (fun e hp5 hex => ?_) fun av e v hp5 tk5 hv hit5 hex => ?_
    · rw [e] at hm
      have S5 := S4.ext hex hI4 hnone hnt'
      have F5 := F4.ext hex hownI
      obtain ⟨mm, hmm, _⟩ := F5.ns
      rw [ceL] at hmm
      exact fin D hp2.objs.size h4 hp5 tk4 S5 hm ⟨mm, hmm⟩ (hfr _ (Nat.le_refl _)).2 (by have := F5.nL; rw [ceL] at this; exact this)
    · rw [e] at hm
      have S5 := S4.ext hex hI4 hnone hnt'
      have F5 := F4.ext hex hownI
      have hlt : k < xs.length := by
        rcases Nat.lt_or_ge k xs.length with q | q
        · exact q
        · rw [List.getElem?_eq_none q] at e; cases e
      have hxk : cenv.kindOf x = some .local ∨ cenv.kindOf x = some .cell := by
        rw [ceK]
        rcases hx with hx | hx <;> rw [hx]
        · exact .inl rfl
        · exact .inr rfl
      refine wpAny_assign_Name (store_core (vm := vm') hj F5 hvi hxk fun a hp6 tk6 ha hant han haB hsb F6 => ?_)
      have hab : s.heap.get? a = none ∧ a ≠ I0 := by
        refine hown a (ha.imp id fun q => ⟨x, ?_, q.2⟩)
        rcases hx with hx | hx
        · have := q.1; rw [ceK, hx] at this; cases this
        · exact mem_of_lookup hx
      have S6 := S5.ext hsb.extBut han hab.1 hant
      rw [hupd, hv] at F6
      have hit6 : ItAt src hp6 I0 (k + 1) := hit5.mono fun o e => hsb.extBut _ o (Ne.symm hab.2) e
      have hR6 : Rel W h4 hp6 := S6.rel ok st.rel
      have st6 : St W n (relabelS scope sc) vm' cenv A (upd loc i av) h4 { s with heap := hp6, toks := tk6 } := ⟨ceS, st.cx, F6, hR6⟩
      refine wpAny_mono (hc cenv A (fun _ _ => False) _ _ h4 _ st6 hm) ?_ fun _ _ x => x.elim
      rintro b s' ⟨h7, hp7, tk7, rfl, S7, q7⟩
      have F7 := F6.step S7
      have S67 := S6.trans S7
      obtain ⟨o6, ho6, _⟩ := hit6.obj
      have hI7 : h7 I0 = none := S7.stay ho6 hI4
      have hit7 : ItAt src hp7 I0 (k + 1) := hit6.mono fun o e => S7.keep I0 o e (.inl hI4)
      have wk : ∀ j av', locC j = some av' → upd loc i av j = some av' := fun j av' e => by
        by_cases hji : j = i
        · simp only [locC, if_pos hji] at e; cases e
        · rw [upd_ne hji]; simp only [locC, if_neg hji] at e; exact e
      cases b with
      | false => exact ⟨N + 1 - (k + 1), by omega, k + 1, ys, h7, hp7, tk7, rfl, rfl, S67, F7.weaken wk, hI7, hit7, q7⟩
      | true =>
        have st7 : St W n (relabelS scope sc) vm' cenv A (upd loc i av) h7 { s with heap := hp7, toks := tk7 } := ⟨ceS, st.cx, F7, S67.rel ok st.rel⟩
        refine wpAny_mono (he cenv A (fun _ _ => False) _ _ h7 _ st7 q7) ?_ fun _ _ x => x.elim
        rintro y s' ⟨h8, hp8, tk8, rfl, S8, hD8, q8⟩
        have F8 := F7.step S8
        have S78 := S67.trans S8
        have R8 : Rel W h8 hp8 := S78.rel ok st.rel
        obtain ⟨us, hpl, hus⟩ := R8.cells D _ hD8
        obtain ⟨o7, ho7, _⟩ := hit7.obj
        have hI8 : h8 I0 = none := S8.stay ho7 hI7
        have hit8 : ItAt src hp8 I0 (k + 1) := hit7.mono fun o e => S8.keep I0 o e (.inl hI7)
        have hDB : W.B ≤ D := by rw [← hD]; exact st1.rel.size
        refine wpAny_list_append_plain hpl (fun hp9 hpl9 hs9 => ?_) (by rw [map_len hus, sizeLine_eq]; omega)
        have S9 : Step W h8 hp8 (upd h8 D (.list (ys ++ [er y]))) hp9 := Step.set R8 hD8 hDB (list_notTup hpl) hs9 ⟨_, hpl9, by simp [hus]⟩
        have F9 := F8.step S9
        obtain ⟨o8, ho8, _⟩ := hit8.obj
        exact ⟨N + 1 - (k + 1), by omega, k + 1, ys ++ [er y], _, hp9, tk8, rfl, rfl, S78.trans S9, F9.weaken wk, S9.stay ho8 hI8, hit8.mono fun o e => S9.keep I0 o e (.inl hI8), q8⟩
  refine codeAny_compStart_list (loop _ rfl) ?_
  cases src with
  | list a => exact wpAny_pyIter_listiter hI3 (loop _ rfl)
  | tup a => exact wpAny_pyIter_tupleiter hI3 (loop _ rfl)
  | range a b c => exact wpAny_pyIter_rangeiter hI3.2 (loop _ rfl)
end
end Mini

/-! MiniI -/
namespace Mini

section
variable {W : Wd} (ok : WdOk W) {n : Nat} {sc : Scope} {vm vm' : VM}
include ok

theorem closure_st {scope : Scope} {env : Env} {A : Around} {s : Shared} {loc : Loc} {h : AH} (st : St W n sc vm env A loc h s) (hfree : ∀ y, (y, NameKind.free) ∈ scope.names → sc.names.lookup y = some .cell) :
    closureFor scope env = pure (clOf env.cells scope.names []) :=
  closure_ok fun y hy => by
    obtain ⟨d, hd⟩ := st.fr.hc y (by unfold Env.kindOf; rw [st.sc]; exact hfree y hy)
    rw [hd]; rfl

theorem ev_comp {elt iter : Expr} {x : Str} {px pos : Pos} {ifs : List Expr} {scope : Scope} {it : ItT} {i : Nat} {c : TT} {e : ET}
    (hi : ItOk W n sc vm iter it) (hk : scope.kind = .function) (hnd : (scope.names.map (·.1)).Nodup)
    (hfree : ∀ y, (y, NameKind.free) ∈ scope.names → sc.names.lookup y = some .cell) (hskn : sc.kind = .function)
    (hx : scope.names.lookup x = some .local ∨ scope.names.lookup x = some .cell) (hvi : vm' i = some x) (hj : VInj vm')
    (hvm : ∀ j y, vm' j = some y → j ≠ i → vm j = some y ∧ scope.names.lookup y = some .free)
    (hc : TstOk W n (relabelS scope sc) vm' ifs c) (he : EvOk W n (relabelS scope sc) vm' elt e)
    (hs : ∀ (env : Env) x, foldedSetIterable iter env x = pure x) :
    EvOk W n sc vm (.ListComp elt [⟨.Name x px, iter, ifs, 0⟩] scope pos) (T.comp W.B it i c e) := by
  intro env A E s loc h Q st q
  rw [eval_ListComp]
  refine wpAny_comprehension_free (use := none) rfl (hs env) (closure_st ok st hfree) hk (fun y hy hl => lookup_of_mem hnd (by rw [← hl]; exact hy)) ?_
  refine comp_core ok (vm' := vm') hi hk hnd hfree hskn hx hvi hj hvm hc he st q (RR := fun acc C => compPost (model W.prog W.w) A E none (Res W h s Q) acc C) ?_
  intro D C hf hp tk S hQ hC hCn hCf
  obtain ⟨m, hm⟩ := hC
  refine ⟨m, hm, fun h' hs' => ⟨hf, h', tk, rfl, S.ext hs'.extBut hCf hCn (ns_notTup hm), hQ⟩⟩

/-- a comprehension bound at once to a local name of the same row -/
theorem ex_asgcomp (hjo : VInj vm) {elt iter : Expr} {x y : Str} {px py pos spos : Pos} {ifs : List Expr} {scope : Scope} {it : ItT} {i k : Nat} {c : TT} {e : ET}
    (hi : ItOk W n sc vm iter it) (hk : scope.kind = .function) (hnd : (scope.names.map (·.1)).Nodup)
    (hfree : ∀ y, (y, NameKind.free) ∈ scope.names → sc.names.lookup y = some .cell) (hskn : sc.kind = .function)
    (hx : scope.names.lookup x = some .local ∨ scope.names.lookup x = some .cell) (hvi : vm' i = some x) (hj : VInj vm')
    (hvm : ∀ j y, vm' j = some y → j ≠ i → vm j = some y ∧ scope.names.lookup y = some .free)
    (hc : TstOk W n (relabelS scope sc) vm' ifs c) (he : EvOk W n (relabelS scope sc) vm' elt e)
    (hs : ∀ (env : Env) x, foldedSetIterable iter env x = pure x) (hvk : vm k = some y) (hly : sc.names.lookup y = some .local)
    (hsw : ∀ env : Env, env.scope = sc → swapsWith (.ListComp elt [⟨.Name x px, iter, ifs, 0⟩] scope pos) (some (.Name y py)) spos.line env = pure true) :
    ExOk W n sc vm (.Assign [.Name y py] (.ListComp elt [⟨.Name x px, iter, ifs, 0⟩] scope pos) spos) (T.asg k (T.comp W.B it i c e)) := by
  intro env A E s loc h Q st q
  rw [exec_Assign_Name_used _ _ _ _ (hsw env st.sc)]
  refine wpAny_bind (wpAny_standAt (wpAny_bind ?_))
  show wpAny _ A (do let _ ← comprehension (.ListComp elt [⟨.Name x px, iter, ifs, 0⟩] scope pos) scope env _ (newList []) false (eval iter env) (some (assign (.Name y py) env))) _ _ s
  refine wpAny_bind (wpAny_mono (wpAny_comprehension_free (use := some (assign (.Name y py) env)) (Q := fun _ s' => SRes W env vm h s Q .next s') rfl (hs env) (closure_st ok st hfree) hk
    (fun y hy hl => lookup_of_mem hnd (by rw [← hl]; exact hy)) ?_) (fun _ s' hq => wpAny_pure (wpAny_pure hq)) fun _ _ e => e)
  refine comp_core ok (vm' := vm') hi hk hnd hfree hskn hx hvi hj hvm hc he st q (RR := fun acc C => compPost (model W.prog W.w) A E (some (assign (.Name y py) env)) (fun _ s' => SRes W env vm h s Q .next s') acc C) ?_
  intro D C hf hp tk S hQ hC hCn hCf
  obtain ⟨m, hm⟩ := hC
  have F1 := st.fr.step S
  have R1 := S.rel ok st.rel
  show wpAny _ A (assign (.Name y py) env (.ref D)) _ _ _
  have hCo : ¬ Own env C := fun o => by obtain ⟨ob, e⟩ := st.fr.how C o; rw [hCn] at e; cases e
  refine wpAny_assign_Name (store_core hjo (s := { s with heap := hp, toks := tk }) F1 hvk (.inl (by unfold Env.kindOf; rw [st.sc]; exact hly)) fun a hp2 tk2 ha hnt hn hB hsb F2 => ?_)
  have ho : Own env a := ha.imp id fun q => ⟨y, q.2⟩
  have haC : a ≠ C := fun q => hCo (q ▸ ho)
  have S2 : SStep W env hf hp hf hp2 := by
    have hkk : ∀ b o, b ≠ a → hp.get? b = some o → hp2.get? b = some o := fun b o hb e => (hsb.2 b hb).trans e
    exact ⟨cells_ext R1.cells hsb.extBut hn hnt, fun b o e n _ => hkk b o (fun q => n (q ▸ ho)) e, fun b h1 h2 => absurd h1 h2, fun _ e => e⟩
  have hm2 : hp2.Ns C m := hm.sameBut hsb (Ne.symm haC)
  refine ⟨m, hm2, fun h' hs' => ⟨_, hf, h', tk2, rfl, (S.s.trans S2 F1.how).ext hs'.extBut hCf hCn (ns_notTup hm2), F2.ext hs'.extBut hCo, hQ⟩⟩
end

/-! equality of lists of ints -/
theorem ints_are {is : List Int} : ∀ {l : List Value}, l.map er = is.map AV.int → IntsAre l is := by
  induction is with
  | nil => intro l h; cases l with
    | nil => exact .nil
    | cons v r => simp at h
  | cons i is ih => intro l h; cases l with
    | nil => simp at h
    | cons v r =>
      simp only [List.map_cons, List.cons.injEq] at h
      obtain ⟨t, rfl⟩ := er_int h.1
      exact .cons i t (ih h.2)

namespace P
def eqIL : Cm := fun a b h Q => ∃ l m, ∃ is js : List Int, a = .ref l ∧ b = .ref m ∧ h l = some (.list (is.map AV.int)) ∧ h m = some (.list (js.map AV.int)) ∧ Q (decide (is = js)) h
def neIL : Cm := fun a b h Q => ∃ l m, ∃ is js : List Int, a = .ref l ∧ b = .ref m ∧ h l = some (.list (is.map AV.int)) ∧ h m = some (.list (js.map AV.int)) ∧ Q (!decide (is = js)) h
end P

section
variable {W : Wd} {n : Nat}
theorem cm_eqIL : CmpOk W n .Eq P.eqIL := by
  rintro A E s va vb h Q cx R ⟨l, m, is, js, ha, hb, hl, hm, q⟩
  obtain rfl := er_ref ha
  obtain rfl := er_ref hb
  obtain ⟨vs, hp1, e1⟩ := R.cells l _ hl
  obtain ⟨us, hp2, e2⟩ := R.cells m _ hm
  refine eq_intsK (vs := vs.toList) (us := us.toList) (by rw [Array.toArray_toList]; exact hp1.isList) (ints_are e1) (by rw [Array.toArray_toList]; exact hp2.isList) (ints_are e2) (by have := cx.un; omega) ?_
  exact ⟨h, s.heap, s.toks, rfl, Step.refl R, _, rfl, q⟩
theorem cm_neIL : CmpOk W n .NotEq P.neIL := by
  rintro A E s va vb h Q cx R ⟨l, m, is, js, ha, hb, hl, hm, q⟩
  obtain rfl := er_ref ha
  obtain rfl := er_ref hb
  obtain ⟨vs, hp1, e1⟩ := R.cells l _ hl
  obtain ⟨us, hp2, e2⟩ := R.cells m _ hm
  refine ne_intsK (vs := vs.toList) (us := us.toList) (by rw [Array.toArray_toList]; exact hp1.isList) (ints_are e1) (by rw [Array.toArray_toList]; exact hp2.isList) (ints_are e2) (by have := cx.un; omega) ?_
  exact ⟨h, s.heap, s.toks, rfl, Step.refl R, _, rfl, q⟩
end
end Mini

/-! MiniJ -/
namespace Mini

def vmOf (l : List (Nat × Str)) : VM := fun i => l.lookup i

theorem vm_mem : ∀ {l : List (Nat × Str)} {i : Nat} {x : Str}, l.lookup i = some x → (i, x) ∈ l
  | (j, y) :: r, i, x, h => by
    rw [List.lookup_cons] at h
    cases q : i == j with
    | true => rw [q] at h; cases h; rw [beq_iff_eq.mp q]; exact List.mem_cons_self ..
    | false => rw [q] at h; exact List.mem_cons_of_mem _ (vm_mem h)

theorem pair_inj : ∀ {l : List (Nat × Str)} {i j : Nat} {x : Str}, (l.map (·.2)).Nodup → (i, x) ∈ l → (j, x) ∈ l → i = j
  | (k, y) :: r, i, j, x, hn, h1, h2 => by
    simp only [List.map_cons, List.nodup_cons] at hn
    have out : ∀ {m}, (m, y) ∈ r → False := fun h => hn.1 (List.mem_map_of_mem (f := fun p : Nat × Str => p.2) h)
    rcases List.mem_cons.mp h1 with e1 | h1 <;> rcases List.mem_cons.mp h2 with e2 | h2
    · cases e1; cases e2; rfl
    · cases e1; exact (out h2).elim
    · cases e2; exact (out h1).elim
    · exact pair_inj hn.2 h1 h2

theorem vinj_of {l : List (Nat × Str)} (h : decide ((l.map (·.2)).Nodup) = true) : VInj (vmOf l) :=
  fun _ _ _ h1 h2 => pair_inj (of_decide_eq_true h) (vm_mem h1) (vm_mem h2)

def cvm (l : List (Nat × Str)) (scope : Scope) (i : Nat) (x : Str) : List (Nat × Str) := (i, x) :: l.filter fun p => scope.names.lookup p.2 == some .free

theorem lookup_filter {l : List (Nat × Str)} {f : Nat × Str → Bool} (hn : (l.map (·.1)).Nodup) {j : Nat} {y : Str} (h : (l.filter f).lookup j = some y) : l.lookup j = some y ∧ f (j, y) = true := by
  have hm := vm_mem h
  obtain ⟨h1, h2⟩ := List.mem_filter.mp hm
  refine ⟨?_, h2⟩
  clear h hm
  induction l with
  | nil => cases h1
  | cons p r ih =>
    obtain ⟨k, z⟩ := p
    simp only [List.map_cons, List.nodup_cons] at hn
    rcases List.mem_cons.mp h1 with e | h1
    · cases e; rw [List.lookup_cons, beq_self_eq_true]
    · have hk : (j == k) = false := by
        cases q : j == k with
        | false => rfl
        | true => exact absurd (by rw [← beq_iff_eq.mp q]; exact List.mem_map_of_mem (f := fun p : Nat × Str => p.1) h1) hn.1
      rw [List.lookup_cons, hk]
      exact ih hn.2 h1

def compChk (l : List (Nat × Str)) (sc scope : Scope) (i : Nat) (x : Str) : Bool :=
  decide ((scope.names.map (·.1)).Nodup) && scope.names.all (fun p => p.2 != .free || sc.names.lookup p.1 == some .cell) && (scope.names.lookup x == some .local || scope.names.lookup x == some .cell) &&
  decide ((l.map (·.1)).Nodup) && scope.kind == .function && sc.kind == .function && decide (((cvm l scope i x).map (·.2)).Nodup)

section
variable {W : Wd} (ok : WdOk W) {n : Nat} {sc : Scope} {l : List (Nat × Str)}
include ok

theorem ev_comp' {elt iter : Expr} {x : Str} {px pos : Pos} {ifs : List Expr} {scope : Scope} {it : ItT} {i : Nat} {c : TT} {e : ET}
    (chk : compChk l sc scope i x = true) (hi : ItOk W n sc (vmOf l) iter it)
    (hc : TstOk W n (relabelS scope sc) (vmOf (cvm l scope i x)) ifs c) (he : EvOk W n (relabelS scope sc) (vmOf (cvm l scope i x)) elt e)
    (hs : ∀ (env : Env) x, foldedSetIterable iter env x = pure x) :
    EvOk W n sc (vmOf l) (.ListComp elt [⟨.Name x px, iter, ifs, 0⟩] scope pos) (T.comp W.B it i c e) := by
  unfold compChk at chk
  simp only [Bool.and_eq_true, Bool.or_eq_true, decide_eq_true_eq, beq_iff_eq, List.all_eq_true] at chk
  obtain ⟨⟨⟨⟨⟨⟨c1, c2⟩, c3⟩, c4⟩, c5⟩, c6⟩, c7⟩ := chk
  refine ev_comp ok (vm' := vmOf (cvm l scope i x)) hi c5 c1 (fun y hy => ?_) c6 c3 ?_ (vinj_of (decide_eq_true c7)) (fun j y h hj => ?_) hc he hs
  · have := c2 _ hy
    simpa using this
  · show List.lookup i ((i, x) :: _) = some x
    rw [List.lookup_cons, beq_self_eq_true]
  · have h' : List.lookup j ((i, x) :: l.filter fun p => scope.names.lookup p.2 == some .free) = some y := h
    rw [List.lookup_cons] at h'
    have hji : (j == i) = false := by simpa using hj
    rw [hji] at h'
    obtain ⟨h1, h2⟩ := lookup_filter c4 h'
    exact ⟨h1, by simpa using h2⟩

theorem ex_asgcomp' {elt iter : Expr} {x y : Str} {px py pos spos : Pos} {ifs : List Expr} {scope : Scope} {it : ItT} {i k : Nat} {c : TT} {e : ET}
    (chk : compChk l sc scope i x = true) (hjo : VInj (vmOf l)) (hi : ItOk W n sc (vmOf l) iter it)
    (hc : TstOk W n (relabelS scope sc) (vmOf (cvm l scope i x)) ifs c) (he : EvOk W n (relabelS scope sc) (vmOf (cvm l scope i x)) elt e)
    (hs : ∀ (env : Env) x, foldedSetIterable iter env x = pure x) (hvk : vmOf l k = some y) (hly : sc.names.lookup y = some .local)
    (hsw : ∀ env : Env, env.scope = sc → swapsWith (.ListComp elt [⟨.Name x px, iter, ifs, 0⟩] scope pos) (some (.Name y py)) spos.line env = pure true) :
    ExOk W n sc (vmOf l) (.Assign [.Name y py] (.ListComp elt [⟨.Name x px, iter, ifs, 0⟩] scope pos) spos) (T.asg k (T.comp W.B it i c e)) := by
  unfold compChk at chk
  simp only [Bool.and_eq_true, Bool.or_eq_true, decide_eq_true_eq, beq_iff_eq, List.all_eq_true] at chk
  obtain ⟨⟨⟨⟨⟨⟨c1, c2⟩, c3⟩, c4⟩, c5⟩, c6⟩, c7⟩ := chk
  refine ex_asgcomp ok (vm' := vmOf (cvm l scope i x)) hjo hi c5 c1 (fun y hy => ?_) c6 c3 ?_ (vinj_of (decide_eq_true c7)) (fun j y h hj => ?_) hc he hs hvk hly hsw
  · have := c2 _ hy
    simpa using this
  · show List.lookup i ((i, x) :: _) = some x
    rw [List.lookup_cons, beq_self_eq_true]
  · have h' : List.lookup j ((i, x) :: l.filter fun p => scope.names.lookup p.2 == some .free) = some y := h
    rw [List.lookup_cons] at h'
    have hji : (j == i) = false := by simpa using hj
    rw [hji] at h'
    obtain ⟨h1, h2⟩ := lookup_filter c4 h'
    exact ⟨h1, by simpa using h2⟩
end

/-! what is not reached; minus -/
namespace T
def bad : ET := fun _ _ _ => False
def sbad : ST := fun _ _ _ => False
def neg (f : ET) : ET := fun loc h Q => f loc h fun v h1 => ∃ x, v = .int x ∧ Q (.int (-x)) h1
def ekw (t : EsT) (k : ET) : EsT := fun loc h Q => t loc h fun vs h1 => k loc h1 fun v h2 => Q (vs ++ [v]) h2
end T
section
variable {W : Wd} (ok : WdOk W) {n : Nat} {sc : Scope} {vm : VM}
theorem ev_bad {e : Expr} : EvOk W n sc vm e T.bad := fun _ _ _ _ _ _ _ _ q => q.elim
theorem ex_bad {e : Stmt} : ExOk W n sc vm e T.sbad := fun _ _ _ _ _ _ _ _ q => q.elim
theorem bk_bad {e : List Stmt} : BkOk W n sc vm e T.sbad := fun _ _ _ _ _ _ _ _ q => q.elim
include ok
theorem ev_neg {e : Expr} {f : ET} {pos : Pos} (he : EvOk W n sc vm e f) : EvOk W n sc vm (.UnaryOp .USub e pos) (T.neg f) := by
  intro env A E s loc h Q st q
  refine wpAny_UnaryOp (he.use ok st q fun v h1 hp1 tk1 q1 st1 S1 => ?_)
  obtain ⟨x, hx, q2⟩ := q1
  obtain ⟨t, rfl⟩ := er_int hx
  exact PyProof.Rows.neg_int ⟨h1, hp1, tk1 + 1, rfl, S1, q2⟩
end

structure DefAt (W : Wd) (x : Str) (f : Addr) : Prop where
  g : GlobAt W x (.ref f)
  obj : ∃ o fd, W.h₀.get? f = some o ∧ o.data = .func fd

section
variable {W : Wd} (ok : WdOk W) {n : Nat} {sc : Scope} {vm : VM}
include ok
theorem ev_def {x : Str} {f : Addr} {np pos : Pos} {e : Expr} {es : List Expr} {t : EsT} {p} (D : DefAt W x f) (hx : sc.names.lookup x = some .globalImplicit)
    (hd : (x == ("__debug__" : Str)) = false) (hes : EsOk W n sc vm (e :: es) t) (hp : FOk W n (.ref f) p)
    (hs : ∀ env, starEach (e :: es) env = (false, eval e env) :: starEach es env) :
    EvOk W n sc vm (.Call (.Name x np) (e :: es) [] pos) (T.call t p) := by
  obtain ⟨o, fd, ho, hod⟩ := D.obj
  exact ev_callF ok D.g hx hd ho hod hes hp hs
theorem ev_defK {x : Str} {f : Addr} {np pos kp : Pos} {e ke : Expr} {es : List Expr} {kn : Str} {t : EsT} {kt : ET} {p} (D : DefAt W x f) (hx : sc.names.lookup x = some .globalImplicit)
    (hd : (x == ("__debug__" : Str)) = false) (hes : EsOk W n sc vm (e :: es) t) (hk : EvOk W n sc vm ke kt) (hp : FkOk W n (.ref f) kn p)
    (hs : ∀ env, starEach (e :: es) env = (false, eval e env) :: starEach es env) :
    EvOk W n sc vm (.Call (.Name x np) (e :: es) [⟨some kn, ke, kp⟩] pos) (T.call (T.ekw t kt) p) := by
  obtain ⟨o, fd, ho, hod⟩ := D.obj
  exact ev_callK ok D.g hx hd ho hod hes hk hp hs
theorem ev_defV {y : Str} {i : Nat} {x : Str} {f : Addr} {np pos : Pos} {e : Expr} {es : List Expr} {t : EsT} {p} (D : DefAt W y f) (hv : EvOk W n sc vm (.Name x np) (T.var i)) (hes : EsOk W n sc vm (e :: es) t) (hp : FOk W n (.ref f) p)
    (hs : ∀ env, starEach (e :: es) env = (false, eval e env) :: starEach es env) :
    EvOk W n sc vm (.Call (.Name x np) (e :: es) [] pos) (T.callv i f t p) := by
  obtain ⟨o, fd, ho, hod⟩ := D.obj
  exact ev_callV ok hv ho hod hes hp hs
end

/-! the program's text -/
def bodyAt (p : Program) (k : Nat) : List Stmt := match p.main.body[k]? with
  | some (.FunctionDef _ _ b _ _ _ _ _ _ _) => b
  | _ => []
def scopeAt (p : Program) (k : Nat) : Scope := match p.main.body[k]? with
  | some (.FunctionDef _ _ _ _ _ _ s _ _ _) => s
  | _ => default
end Mini

/-! MiniK -/
namespace Mini

def Ext (h h' : AH) : Prop := ∀ a c, h a = some c → h' a = some c
theorem Ext.refl (h : AH) : Ext h h := fun _ _ e => e
theorem Ext.trans {a b c : AH} (x : Ext a b) (y : Ext b c) : Ext a c := fun p q e => y p q (x p q e)
theorem Ext.new {h : AH} {a : Addr} {c : Cell} (ha : h a = none) : Ext h (upd h a c) := fun p q e => by
  by_cases hp : p = a
  · subst hp; rw [ha] at e; cases e
  · rw [upd_ne hp]; exact e
theorem Ext.set {h h' : AH} {a : Addr} {c : Cell} (x : Ext h h') (ha : h a = none) : Ext h (upd h' a c) := fun p q e => by
  by_cases hp : p = a
  · subst hp; rw [ha] at e; cases e
  · rw [upd_ne hp]; exact x p q e
theorem Ext.none {h h' : AH} (x : Ext h h') {a : Addr} (ha : h' a = none) : h a = none := by
  cases q : h a with
  | none => rfl
  | some c => rw [x a c q] at ha; cases ha
theorem ne_of {h : AH} {a b : Addr} {c : Cell} (ha : h a = some c) (hb : h b = none) : a ≠ b := fun q => by rw [q, hb] at ha; cases ha

def Incr (is : List Int) : Prop := ∀ i j (hi : i < is.length) (hj : j < is.length), i ≤ j → is[i] ≤ is[j]
def SIncr (is : List Int) : Prop := is.Pairwise (· < ·)
theorem SIncr.incr {is : List Int} (h : SIncr is) : Incr is := fun i j hi hj hij => by
  rcases Nat.lt_or_eq_of_le hij with q | q
  · exact Int.le_of_lt (List.pairwise_iff_getElem.mp h i j hi hj q)
  · subst q; exact Int.le_refl _

theorem getI {is : List Int} {i : Nat} (h : i < is.length) : (is.map AV.int)[i]? = some (.int is[i]) := by
  rw [List.getElem?_map, List.getElem?_eq_getElem h]; rfl
theorem rangeL_get {lo st : Int} {n i : Nat} (h : i < n) : ((rangeL lo st n).map AV.int)[i]? = some (.int (lo + (i : Int) * st)) := by simp [rangeL, h]
theorem rangeL_end {lo st : Int} {n i : Nat} (h : n ≤ i) : ((rangeL lo st n).map AV.int)[i]? = none := by
  rw [List.getElem?_eq_none_iff]; simp [rangeL]; exact h
theorem rangeL_len {lo st : Int} {n : Nat} : ((rangeL lo st n).map AV.int).length = n := by simp [rangeL]
theorem items_list {h : AH} {a : Addr} {xs : List AV} (e : h a = some (.list xs)) : (Src.list a).items h = some xs := by simp only [Src.items, e]

/-- a comprehension whose test and element change nothing -/
theorem comp_pure {B : Addr} {src : Src} {h1 : AH} {xs : List AV} {loc : Loc} {i : Nat} {c : TT} {e : ET} {Q : AV → AH → Prop} {p : AV → Bool} {g : AV → AV}
    (hs : src.items h1 = some xs) (hl : xs.length ≤ 2 ^ 19)
    (he : ∀ v, v ∈ xs → ∀ h2 : AH, Ext h1 h2 → (∀ Q' : Bool → AH → Prop, Q' (p v) h2 → c (upd loc i v) h2 Q') ∧ (p v = true → ∀ Q' : AV → AH → Prop, Q' (g v) h2 → e (upd loc i v) h2 Q'))
    (hQ : ∀ D, B ≤ D → h1 D = none → Q (.ref D) (upd h1 D (.list ((xs.filter p).map g)))) :
    ∀ D, B ≤ D → h1 D = none → ∃ (I : Nat → List AV → AH → Prop) (N : Nat), I 0 [] (upd h1 D (.list [])) ∧ ∀ k ys h, I k ys h → h D = some (.list ys) ∧ ys.length < 2 ^ 20 ∧ ∃ xs, src.items h = some xs ∧ xs.length ≤ N ∧
      match xs[k]? with
      | Option.none => Q (.ref D) h
      | some v => c (upd loc i v) h fun b h2 => if b then e (upd loc i v) h2 fun y h3 => h3 D = some (.list ys) ∧ I (k + 1) (ys ++ [y]) (upd h3 D (.list (ys ++ [y]))) else I (k + 1) ys h2 := by
  intro D hB hD
  have hitems : ∀ ys, src.items (upd h1 D (.list ys)) = some xs := fun ys => by
    cases src with
    | list a =>
      simp only [Src.items] at hs ⊢
      have : a ≠ D := fun q => by rw [q, hD] at hs; cases hs
      rw [upd_ne this]; exact hs
    | tup a =>
      simp only [Src.items] at hs ⊢
      have : a ≠ D := fun q => by rw [q, hD] at hs; cases hs
      rw [upd_ne this]; exact hs
    | range _ _ _ => exact hs
  have hupd : ∀ ys zs, upd (upd h1 D (.list ys)) D (.list zs) = upd h1 D (.list zs) := fun ys zs => by
    funext b
    by_cases hb : b = D
    · subst hb; rw [upd_same, upd_same]
    · rw [upd_ne hb, upd_ne hb, upd_ne hb]
  refine ⟨fun k ys h => h = upd h1 D (.list ys) ∧ k ≤ xs.length ∧ ys = ((xs.take k).filter p).map g, xs.length, ⟨rfl, Nat.zero_le _, by simp⟩, ?_⟩
  rintro k _ _ ⟨rfl, hk, rfl⟩
  have hlen : (((xs.take k).filter p).map g).length < 2 ^ 20 := by
    rw [List.length_map]
    have h1 := List.length_filter_le p (xs.take k)
    rw [List.length_take] at h1
    omega
  refine ⟨upd_same .., hlen, xs, hitems _, Nat.le_refl _, ?_⟩
  cases q : xs[k]? with
  | none =>
    rw [List.getElem?_eq_none_iff] at q
    have : xs.take k = xs := List.take_of_length_le (by omega)
    rw [this]; exact hQ D hB hD
  | some v =>
    have hlt : k < xs.length := by
      rcases Nat.lt_or_ge k xs.length with r | r
      · exact r
      · rw [List.getElem?_eq_none r] at q; cases q
    have hv : v ∈ xs := List.mem_of_getElem? q
    have hstep : xs.take (k + 1) = xs.take k ++ [v] := by
      rw [List.take_add_one, q]; rfl
    obtain ⟨hc, hee⟩ := he v hv (upd h1 D (.list (((xs.take k).filter p).map g))) (Ext.new hD)
    refine hc _ ?_
    cases hp : p v with
    | true =>
      rw [if_pos rfl]
      refine hee hp _ ⟨upd_same .., hupd _ _, hlt, ?_⟩
      rw [hstep, List.filter_append]; simp [hp]
    | false =>
      rw [if_neg (by decide)]
      refine ⟨rfl, hlt, ?_⟩
      rw [hstep, List.filter_append]; simp [hp]

theorem T.yes_ok {loc : Loc} {h : AH} {Q : Bool → AH → Prop} (q : Q true h) : T.yes loc h Q := q

theorem comp_map {B : Addr} {src : Src} {h1 : AH} {xs : List AV} {loc : Loc} {i : Nat} {e : ET} {Q : AV → AH → Prop} {g : AV → AV}
    (hs : src.items h1 = some xs) (hl : xs.length ≤ 2 ^ 19)
    (he : ∀ v, v ∈ xs → ∀ h2 : AH, Ext h1 h2 → ∀ Q' : AV → AH → Prop, Q' (g v) h2 → e (upd loc i v) h2 Q')
    (hQ : ∀ D, B ≤ D → h1 D = none → Q (.ref D) (upd h1 D (.list (xs.map g)))) :
    ∀ D, B ≤ D → h1 D = none → ∃ (I : Nat → List AV → AH → Prop) (N : Nat), I 0 [] (upd h1 D (.list [])) ∧ ∀ k ys h, I k ys h → h D = some (.list ys) ∧ ys.length < 2 ^ 20 ∧ ∃ xs, src.items h = some xs ∧ xs.length ≤ N ∧
      match xs[k]? with
      | Option.none => Q (.ref D) h
      | some v => T.yes (upd loc i v) h fun b h2 => if b then e (upd loc i v) h2 fun y h3 => h3 D = some (.list ys) ∧ I (k + 1) (ys ++ [y]) (upd h3 D (.list (ys ++ [y]))) else I (k + 1) ys h2 :=
  comp_pure (p := fun _ => true) (g := g) hs hl (fun v hv h2 hx => ⟨fun Q' q => q, fun _ => he v hv h2 hx⟩) (fun D hB hD => by
    have : xs.filter (fun _ => true) = xs := List.filter_eq_self.mpr (fun _ _ => rfl)
    rw [this]; exact hQ D hB hD)

/-- a new item in its place keeps a rising list rising -/
theorem ins_sorted {ms : List Int} {v : Int} {p : Nat} (h : SIncr ms) (hp : p ≤ ms.length) (h1 : ∀ i (hi : i < ms.length), i < p → ms[i] < v) (h2 : ∀ i (hi : i < ms.length), p ≤ i → v < ms[i]) : SIncr (ms.take p ++ v :: ms.drop p) := by
  unfold SIncr at *
  rw [List.pairwise_append]
  refine ⟨h.sublist (List.take_sublist _ _), ?_, ?_⟩
  · rw [List.pairwise_cons]
    refine ⟨fun y hy => ?_, h.sublist (List.drop_sublist _ _)⟩
    obtain ⟨i, hi, rfl⟩ := List.getElem_of_mem hy
    rw [List.getElem_drop]
    exact h2 _ _ (by omega)
  · intro x hx y hy
    obtain ⟨i, hi, rfl⟩ := List.getElem_of_mem hx
    rw [List.length_take] at hi
    rw [List.getElem_take]
    have hxv := h1 i (by omega) (by omega)
    rcases List.mem_cons.mp hy with rfl | hy
    · exact hxv
    · obtain ⟨j, hj, rfl⟩ := List.getElem_of_mem hy
      rw [List.getElem_drop]
      rw [List.length_drop] at hj
      exact Int.lt_trans hxv (h2 _ (by omega) (by omega))
theorem mem_ins {ms : List Int} {v w : Int} {p : Nat} : w ∈ ms.take p ++ v :: ms.drop p ↔ w = v ∨ w ∈ ms := by
  rw [List.mem_append, List.mem_cons]
  constructor
  · rintro (h | h | h)
    · exact .inr (List.mem_of_mem_take h)
    · exact .inl h
    · exact .inr (List.mem_of_mem_drop h)
  · rintro (h | h)
    · exact .inr (.inl h)
    · rw [← List.take_append_drop p ms, List.mem_append] at h
      rcases h with h | h
      · exact .inl h
      · exact .inr (.inr h)
end Mini

/-! MiniL -/
namespace Mini

/-! the transformers, entered one at a time -/
section
variable {B : Addr} {loc : Loc} {h : AH} {i : Nat}
theorem i_seq {a b : ST} {Q : Fl → Loc → AH → Prop} (q : a loc h fun f loc1 h1 => match f with | .next => b loc1 h1 Q | f => Q f loc1 h1) : T.seq a b loc h Q := q
theorem i_asg {e : ET} {Q : Fl → Loc → AH → Prop} (q : e loc h fun v h1 => Q .next (upd loc i v) h1) : T.asg i e loc h Q := q
theorem i_ret {e : ET} {Q : Fl → Loc → AH → Prop} (q : e loc h fun v h1 => Q (.ret v) loc h1) : T.ret e loc h Q := q
theorem i_expr {e : ET} {Q : Fl → Loc → AH → Prop} (q : e loc h fun v h1 => Q .next loc h1) : T.expr e loc h Q := q
theorem i_skip {Q : Fl → Loc → AH → Prop} (q : Q .next loc h) : T.skip loc h Q := q
theorem i_ife {t : TT} {a b : ST} {Q : Fl → Loc → AH → Prop} (q : t loc h fun c h1 => if c then a loc h1 Q else b loc h1 Q) : T.ife t a b loc h Q := q
theorem i_var {v : AV} {Q : AV → AH → Prop} (hv : loc i = some v) (q : Q v h) : T.var i loc h Q := ⟨v, hv, q⟩
theorem i_int {k : Int} {Q : AV → AH → Prop} (q : Q (.int k) h) : T.int k loc h Q := q
theorem i_bin {p : P.Op} {a b : ET} {Q : AV → AH → Prop} (q : a loc h fun x h1 => b loc h1 fun y h2 => p x y h2 Q) : T.bin p a b loc h Q := q
theorem i_cmp {p : P.Cm} {a b : ET} {Q : Bool → AH → Prop} (q : a loc h fun x h1 => b loc h1 fun y h2 => p x y h2 Q) : T.cmp p a b loc h Q := q
theorem i_add {x y : Int} {Q : AV → AH → Prop} (q : Q (.int (x + y)) h) : P.add (.int x) (.int y) h Q := ⟨x, y, rfl, rfl, q⟩
theorem i_sub {x y : Int} {Q : AV → AH → Prop} (q : Q (.int (x - y)) h) : P.sub (.int x) (.int y) h Q := ⟨x, y, rfl, rfl, q⟩
theorem i_call {t : EsT} {p : F.Fn} {Q : AV → AH → Prop} (q : t loc h fun vs h1 => p vs h1 Q) : T.call t p loc h Q := q
theorem i_nil {Q : List AV → AH → Prop} (q : Q [] h) : T.enil loc h Q := q
theorem i_cons {f : ET} {g : EsT} {Q : List AV → AH → Prop} (q : f loc h fun v h1 => g loc h1 fun vs h2 => Q (v :: vs) h2) : T.econs f g loc h Q := q
theorem i_list {t : EsT} {Q : AV → AH → Prop} (q : t loc h fun vs h1 => vs.length ≤ 2 ^ 20 ∧ New B h1 (.list vs) Q) : T.list B t loc h Q := q
theorem i_itL {a : Addr} {xs : List AV} {Q : Src → AH → Prop} (hv : loc i = some (.ref a)) (ha : h a = some (.list xs)) (q : Q (.list a) h) : T.itL (T.var i) loc h Q := ⟨_, hv, a, xs, rfl, ha, q⟩
theorem i_itR1 {f : EsT} {Q : Src → AH → Prop} (q : f loc h fun vs h1 => ∃ b : Int, vs = [.int b] ∧ T.small b ∧ Q (.range 0 1 b.toNat) h1) : T.itR1 f loc h Q := q
theorem i_len {l : Addr} {xs : List AV} {Q : AV → AH → Prop} (hi : loc i = some (.ref l)) (hl : h l = some (.list xs)) (hs : xs.length < 2 ^ 24) (q : Q (.int xs.length) h) :
    T.call (T.econs (T.var i) T.enil) F.len loc h Q := ⟨_, hi, l, xs, rfl, hl, hs, q⟩
theorem i_idx {l : Addr} {xs : List AV} {k : Nat} {v : AV} {Q : AV → AH → Prop} (hi : loc i = some (.ref l)) (hl : h l = some (.list xs)) (hk : k < 2 ^ 62) (hx : xs[k]? = some v) (q : Q v h) :
    T.idx (T.var i) (T.int k) loc h Q := ⟨_, hi, l, xs, k, v, rfl, rfl, hl, by omega, by omega, hx, q⟩
theorem i_comp {it : ItT} {c : TT} {e : ET} {Q : AV → AH → Prop} (q : it loc h fun src h1 => ∀ D, B ≤ D → h1 D = none →
  ∃ (I : Nat → List AV → AH → Prop) (N : Nat), I 0 [] (upd h1 D (.list [])) ∧ ∀ k ys h, I k ys h → h D = some (.list ys) ∧ ys.length < 2 ^ 20 ∧ ∃ xs, src.items h = some xs ∧ xs.length ≤ N ∧
    match xs[k]? with
    | Option.none => Q (.ref D) h
    | some v => c (upd loc i v) h fun b h2 => if b then e (upd loc i v) h2 fun y h3 => h3 D = some (.list ys) ∧ I (k + 1) (ys ++ [y]) (upd h3 D (.list (ys ++ [y]))) else I (k + 1) ys h2) : T.comp B it i c e loc h Q := q
end
end Mini

/-! MiniM -/
namespace Mini

theorem cells_fresh {W : Wd} {h : AH} {hp : Heap} (Rc : ∀ a c, h a = some c → CellAt W hp a c) {a : Addr} (ha : hp.get? a = Option.none) : h a = Option.none := by
  cases q : h a with
  | none => rfl
  | some c =>
    have := Rc a c q
    cases c with
    | list xs => obtain ⟨vs, ⟨o, ho⟩, _⟩ := this; rw [ha] at ho; cases ho
    | tup xs => obtain ⟨vs, ⟨o, ho⟩, _⟩ := this; rw [ha] at ho; cases ho
    | idict es => obtain ⟨kvs, ⟨o, es, ep, ho, r⟩, e⟩ := this; rw [ha] at ho; cases ho
    | tdict es => obtain ⟨kvs, ⟨o, es, ep, ho, r⟩, e⟩ := this; rw [ha] at ho; cases ho

/-- the call at the top: the given heap has no witness of its own -/
theorem fn_top {W : Wd} (ok : WdOk W) {n : Nat} {f : Addr} {fd : FuncData} {body : List Stmt} {vm : VM} {t : ST} {names : List Str} (FA : FnAt W f fd body) (hb : BkOk W n fd.scope vm body t)
    (hvm : ∀ i x, vm i = some x → ∀ y, names[i]? = some y → x = y) (hnd : names.Nodup) (hkind : ∀ x ∈ names, fd.scope.names.lookup x = some .local ∨ fd.scope.names.lookup x = some .cell)
    {A : Around} {E : Value → Shared → Prop} {s : Shared} {args : Args} {vals : List Value} {h : AH} {Q : AV → AH → Prop} (cx : Cx (n + 1) A) (Rc : ∀ a c, h a = some c → CellAt W s.heap a c) (Rb : ∀ b o, W.h₀.get? b = some o → s.heap.get? b = some o) (Rs : W.B ≤ s.heap.objs.size)
    (hbind : ∀ s' : Shared, (∀ b o, W.h₀.get? b = some o → s'.heap.get? b = some o) → BindsTo s' fd args (names.zip vals)) (hlen : vals.length = names.length)
    (q : t (fun i => (vals.map er)[i]?) h (FnRet Q)) : codeAny (model W.prog W.w) A (.call (.ref f) args) (fun r s' => match r with | .ok (.ret v) => Res W h s Q v s' | .ok _ => False | .error e => E e s') s := by
  obtain ⟨o, ho, hd⟩ := FA.obj
  refine codeAny_call_function (by have := cx.dp; omega) (Rb _ _ ho) hd FA.cor FA.gen FA.bdy (FA.code.keeps Rb) (hbind s Rb _ _ _ _ ?_)
  have hfst : (names.zip vals).map (·.1) = names := List.map_fst_zip (by omega)
  rw [FA.clo, FA.glo, FA.blt]
  refine wpAny_newFunctionEnv_cells FA.knd (fun x hx => ?_) (fun env henv s' X => ?_)
  · have hm : x.1 ∈ names := by rw [← hfst]; exact List.mem_map_of_mem hx
    rcases hkind x.1 hm with e | e
    · exact .inl e
    · exact .inr ⟨e, cellsFrom_some _ _ _ (.inl e)⟩
  have keep := X.toInCall.keep
  refine ⟨(ok.nolimit.keeps Rb).keeps keep, codeAny_func ?_⟩
  obtain ⟨h1, tk1, rfl, -⟩ := X.done
  have hscope : env.scope = fd.scope := by rw [henv]; rfl
  have hloc : env.locals = s.heap.objs.size := by rw [henv]; rfl
  have hcells : env.cells = cellsFrom (s.heap.objs.size + 1) fd.scope.names [] := by rw [henv]; rfl
  have above : ∀ x c, env.cells.lookup x = some c → s.heap.objs.size < c := fun x c e => hloc ▸ X.above x c (mem_of_lookup e)
  have hnone : ∀ b, s.heap.objs.size ≤ b → h b = none := fun b hb' => by
    refine cells_fresh Rc ?_
    cases q : s.heap.get? b with
    | none => rfl
    | some o => exact absurd (Heap.lt_size q) (Nat.not_lt.mpr hb')
  have R1 : Rel W h h1 := by
    obtain ⟨oL, hoL⟩ := ns_some X.toInCall.ns
    exact ⟨fun a c e => (Rc a c e).mono (fun o => keep a o) (fun b o e _ => keep b o e), fun b o e => keep b o (Rb b o e), ⟨_, oL, by rw [hloc]; exact Rs, by rw [hloc]; exact hnone _ (Nat.le_refl _), hoL⟩⟩
  have inb : ∀ i x av, vm i = some x → (vals.map er)[i]? = some av → ∃ v, (x, v) ∈ names.zip vals ∧ er v = av := by
    intro i x av h1 h2
    rw [List.getElem?_map] at h2
    obtain ⟨v, hv, rfl⟩ := Option.map_eq_some_iff.mp h2
    have hi : i < vals.length := by
      rcases Nat.lt_or_ge i vals.length with q | q
      · exact q
      · rw [List.getElem?_eq_none q] at hv; cases hv
    have hn : names[i]? = some names[i] := List.getElem?_eq_getElem (by omega)
    have := hvm i x h1 _ hn
    refine ⟨v, ?_, rfl⟩
    have hz : (names.zip vals)[i]? = some (names[i], v) := by
      rw [List.getElem?_zip_eq_some]; exact ⟨hn, hv⟩
    rw [this]; exact List.mem_of_getElem? hz
  have F : Frm W env vm (fun i => (vals.map er)[i]?) h h1 := by
    refine ⟨by rw [hscope]; exact FA.knd, by rw [henv]; rfl, by rw [henv]; rfl, by rw [hloc]; exact Rs, by rw [hloc]; exact hnone _ (Nat.le_refl _), ⟨_, X.toInCall.ns, fun i x av e1 e2 e3 => ?_⟩, fun x c e => ?_, fun i x av e1 e2 e3 => ?_, fun x y c e1 e2 => ?_, fun x e => ?_⟩
    · obtain ⟨v, hv, hev⟩ := inb i x av e1 e3
      exact ⟨v, bindL_mem e2 (by rw [hfst]; exact hnd) hv, hev⟩
    · have := above x c e
      exact ⟨Nat.le_trans Rs (Nat.le_of_lt this), hnone c (Nat.le_of_lt this), by rw [hloc]; exact Nat.ne_of_gt this, _, X.cell x c e⟩
    · obtain ⟨v, hv, hev⟩ := inb i x av e1 e3
      have hc : env.kindOf x = some .cell := by
        rcases e2 with e2 | e2
        · exact e2
        · have hm : x ∈ names := by rw [← hfst]; exact List.mem_map_of_mem hv
          unfold Env.kindOf at e2
          rw [hscope] at e2
          rcases hkind x hm with e | e <;> rw [e] at e2 <;> cases e2
      have hs : (env.cells.lookup x).isSome = true := by
        rw [hcells]; exact cellsFrom_some _ _ _ (.inl (by unfold Env.kindOf at hc; rw [hscope] at hc; exact hc))
      obtain ⟨c, hc'⟩ := Option.isSome_iff_exists.mp hs
      refine ⟨c, v, hc', ?_, hev⟩
      have := X.cell x c hc'
      rw [bindC_mem hc (by rw [hfst]; exact hnd) hv] at this
      exact this
    · exact name_of_addr X.apart (mem_of_lookup e1) (mem_of_lookup e2)
    · have hs : (env.cells.lookup x).isSome = true := by
        rw [hcells]; exact cellsFrom_some _ _ _ (.inl (by unfold Env.kindOf at e; rw [hscope] at e; exact e))
      exact Option.isSome_iff_exists.mp hs
  have st : St W n fd.scope vm env (A.deeper env) (fun i => (vals.map er)[i]?) h { s with heap := h1, toks := tk1 } := ⟨hscope, cx.deeper env, F, R1⟩
  refine wpAny_mono (hb env (A.deeper env) (fun _ _ => False) _ _ h _ st q) ?_ fun _ _ x => x.elim
  rintro fl s2 ⟨loc2, h2, hp2, tk2, rfl, S2, F2, q2⟩
  have hS : Step W h s.heap h2 hp2 := by
    refine ⟨S2.cells, fun b o e c => ?_, fun b e1 e2 => ?_, S2.dom⟩
    · refine S2.keep b o (keep b o e) ?_ c
      have hlt := Heap.lt_size e
      rintro (q | ⟨x, q⟩)
      · rw [q, hloc] at hlt; exact Nat.lt_irrefl _ hlt
      · exact Nat.lt_irrefl _ (Nat.lt_trans (above x b q) hlt)
    · obtain ⟨e3, e4⟩ := S2.fresh b e1 e2
      refine ⟨?_, e4⟩
      cases q : s.heap.get? b with
      | none => rfl
      | some o => have := keep b o q; rw [e3] at this; cases this
  cases fl with
  | ret v => exact ⟨h2, hp2, tk2, rfl, hS, q2⟩
  | next => exact ⟨h2, hp2, tk2, rfl, hS, q2⟩
  | brk => exact ⟨h2, hp2, tk2, rfl, hS, q2⟩
  | cont => exact ⟨h2, hp2, tk2, rfl, hS, q2⟩

/-! what the written part of the heap says -/
section
variable {K : Frag} {prog : Program} {w : World} {h₀ : Heap} {B : Addr}
theorem glob_def {p : Program} {loose : List Str} {mean : ExcName → Option Value} {mg mb : Str → Option Value} (X : K.In h₀) (T : Top p loose mean mg mb h₀) {x : Str} {v : Value} (e : nsIn K mainGlobals x = some (some v)) :
    GlobAt ⟨prog, w, h₀, B⟩ x v := fun hp k => ⟨mg, mb, (T.keeps k).g, (T.keeps k).b, .inl (mg_of X T.g e)⟩
theorem glob_blt {p : Program} {loose : List Str} {mean : ExcName → Option Value} {mg mb : Str → Option Value} (X : K.In h₀) (T : Top p loose mean mg mb h₀) {x : Str} {v : Value} (e : nsIn K mainGlobals x = some none)
    (hv : bootBuiltins x = some v) (hn : x ≠ "__name__") : GlobAt ⟨prog, w, h₀, B⟩ x v := fun hp k => ⟨mg, mb, (T.keeps k).g, (T.keeps k).b, .inr ⟨mg_none_of X T.g e, (T.builtins x hn).trans hv⟩⟩

/-- a def's record in the written part -/
structure FnIn (K : Frag) (f : Addr) (fd : FuncData) (body : List Stmt) (sc : Scope) : Prop where
  obj : ∃ c d sl, K.lookup f = some ⟨c, d, .func fd, sl⟩
  code : codeIn K fd.code fd.qualname = true
  clo : fd.closure = []
  glo : fd.globals = mainGlobals
  blt : fd.builtins = builtinsNs
  bdy : fd.body = .stmts body
  scp : fd.scope = sc
theorem FnIn.at {f : Addr} {fd : FuncData} {body : List Stmt} {sc : Scope} (F : FnIn K f fd body sc) (X : K.In h₀) (knd : sc.kind = .function) (cor : sc.isCoroutine = false) (gen : sc.isGenerator = false) : FnAt ⟨prog, w, h₀, B⟩ f fd body := by
  obtain ⟨c, d, sl, e⟩ := F.obj
  exact ⟨⟨_, X _ _ e, rfl⟩, codeRec_of X F.code, F.clo, F.glo, F.blt, F.bdy, by rw [F.scp]; exact knd, by rw [F.scp]; exact cor, by rw [F.scp]; exact gen⟩
theorem FnIn.def {p : Program} {loose : List Str} {mean : ExcName → Option Value} {mg mb : Str → Option Value} {f : Addr} {fd : FuncData} {body : List Stmt} {sc : Scope} {x : Str} (F : FnIn K f fd body sc) (X : K.In h₀) (T : Top p loose mean mg mb h₀) (e : nsIn K mainGlobals x = some (some (.ref f))) :
    DefAt ⟨prog, w, h₀, B⟩ x f := by
  obtain ⟨c, d, sl, e2⟩ := F.obj
  exact ⟨glob_def X T e, _, _, X _ _ e2, rfl⟩
theorem binds_peek {fd : FuncData} {args : Args} {binds : List (Str × Value)} (X : K.In h₀) (e : ∀ S : Setting, peek K S (bindArgs fd args) = some binds) (s : Shared) (k : ∀ b o, h₀.get? b = some o → s.heap.get? b = some o) : BindsTo s fd args binds :=
  fun M A E Q q => Looks.of_peek (X.keeps k) (e _) A Q E s (fun _ _ e => e) q
end

theorem vm_names {l : List (Nat × Str)} {names : List Str} (h : (l.all fun p => match names[p.1]? with | some y => p.2 == y | none => true) = true) : ∀ i x, vmOf l i = some x → ∀ y, names[i]? = some y → x = y := by
  intro i x h1 y h2
  have := List.all_eq_true.mp h _ (vm_mem h1)
  dsimp only at this
  rw [h2] at this
  exact beq_iff_eq.mp this

def fdOf (K : Frag) (a : Addr) : FuncData := match K.lookup a with
  | some ⟨_, _, .func fd, _⟩ => fd
  | _ => default
end Mini

/-! MiniN -/
namespace Mini

/-! dicts whose keys are ints -/
def lookD (es : List (Int × AV)) (k : Int) : Option AV := (es.find? fun p => decide (p.1 = k)).map (·.2)
def storeD (es : List (Int × AV)) (k : Int) (v : AV) : List (Int × AV) :=
  if (lookD es k).isSome then es.map (fun p => if p.1 = k then (p.1, v) else p) else es ++ [(k, v)]
def dropD (es : List (Int × AV)) (k : Int) : List (Int × AV) := es.filter fun p => decide (p.1 ≠ k)

theorem lookD_er (kvs : List (Int × Value)) (k : Int) : lookD (kvs.map fun p => (p.1, er p.2)) k = (valueAt kvs k).map er := by
  unfold lookD valueAt
  induction kvs with
  | nil => rfl
  | cons p r ih =>
    rw [List.map_cons, List.find?_cons, List.find?_cons]
    by_cases h : p.1 = k
    · simp [h]
    · simp only [h, decide_false]; exact ih
theorem storeD_er (kvs : List (Int × Value)) (k : Int) (v : Value) : storeD (kvs.map fun p => (p.1, er p.2)) k (er v) = (stored kvs k v).map fun p => (p.1, er p.2) := by
  unfold storeD stored
  rw [lookD_er, Option.isSome_map, valueAt_isSome_eq_any]
  split
  · rw [List.map_map, List.map_map]
    refine List.map_congr_left fun p _ => ?_
    simp only [Function.comp]
    split <;> rfl
  · rw [List.map_append]; rfl
theorem dropD_er (kvs : List (Int × Value)) (k : Int) : dropD (kvs.map fun p => (p.1, er p.2)) k = (without kvs k).map fun p => (p.1, er p.2) := by
  unfold dropD without
  rw [List.filter_map]; rfl

theorem dict_notTup {hp : Heap} {c : Addr} {prog : Program} {w : World} {kvs : List (Int × Value)} (n : hp.DictOf (intKind prog w) c kvs) : ∀ o, hp.get? c = some o → ¬ IsTupO o := by
  obtain ⟨o, es, ep, h1, _, h2, _⟩ := n
  rintro o' e ⟨_, xs, k, hd⟩
  rw [h1] at e; cases e; rw [h2] at hd; cases hd

namespace T
def dict0I (B : Addr) : ET := fun _ h Q => New B h (.idict []) Q
def idxD (o i : ET) : ET := fun loc h Q => o loc h fun a h1 => i loc h1 fun k h2 => ∃ l es x v, a = .ref l ∧ k = .int x ∧ h2 l = some (.idict es) ∧ lookD es x = some v ∧ Q v h2
def setidxD (B : Addr) (o i e : ET) : ST := fun loc h Q => e loc h fun v h1 => o loc h1 fun a h2 => i loc h2 fun k h3 => ∃ l es x, a = .ref l ∧ k = .int x ∧ h3 l = some (.idict es) ∧ B ≤ l ∧ es.length ≤ 2 ^ 20 ∧ Q .next loc (upd h3 l (.idict (storeD es x v)))
def methD (f : ET) (t : EsT) (p : F.Fn) : ET := fun loc h Q => f loc h fun a h1 => (∃ l es, a = .ref l ∧ h1 l = some (.idict es)) ∧ t loc h1 fun vs h2 => p (a :: vs) h2 Q
end T
namespace F
def dget : Fn := fun avs h Q => ∃ l es x, avs = [.ref l, .int x] ∧ h l = some (.idict es) ∧ Q ((lookD es x).getD .none) h
def dpop (B : Addr) : Fn := fun avs h Q => ∃ l es x v, avs = [.ref l, .int x] ∧ h l = some (.idict es) ∧ B ≤ l ∧ es.length ≤ 2 ^ 20 ∧ lookD es x = some v ∧ Q v (upd h l (.idict (dropD es x)))
def sortedD (B : Addr) : Fn := fun avs h Q => ∃ l es, avs = [.ref l] ∧ h l = some (.idict es) ∧ es.length < 64 ∧ ∀ ks : List Int, ks.Perm (es.map (·.1)) → ks.Pairwise (· ≤ ·) → New B h (.list (ks.map AV.int)) Q
end F
namespace P
def inD : Cm := fun a b h Q => ∃ l es x, a = .int x ∧ b = .ref l ∧ h l = some (.idict es) ∧ Q (lookD es x).isSome h
def okO : AV → Bool | .none => true | .int _ => true | _ => false
def eqO : AV → AV → Bool | .none, .none => true | .int x, .int y => x == y | _, _ => false
def neO : Cm := fun a b h Q => okO a = true ∧ okO b = true ∧ Q (!eqO a b) h
end P

section
variable {W : Wd} {n : Nat}
theorem cm_inD : CmpOk W n .In P.inD := by
  rintro A E s va vb h Q cx R ⟨l, es, x, ha, hb, hl, q⟩
  obtain ⟨t, rfl⟩ := er_int ha
  obtain rfl := er_ref hb
  obtain ⟨kvs, hd, e, hs⟩ := R.cells l _ hl
  refine wpAny_in_of (intKind_is W.prog W.w x t) hs hd.mapOf ?_
  refine ⟨h, s.heap, s.toks + 1, rfl, Step.refl R, _, rfl, ?_⟩
  rw [← e, lookD_er, Option.isSome_map] at q; exact q
theorem cm_neO : CmpOk W n .NotEq P.neO := by
  rintro A E s va vb h Q cx R ⟨ha, hb, q⟩
  have done : ∀ b, b = (!P.eqO (er va) (er vb)) → Res W h s (fun v h1 => ∃ b, v = .bool b ∧ Q b h1) (.bool b) s := fun b hb => ⟨h, s.heap, s.toks, rfl, Step.refl R, b, rfl, by rw [hb]; exact q⟩
  cases ea : er va with
  | none =>
    obtain rfl := er_none ea
    cases eb : er vb with
    | none => obtain rfl := er_none eb; exact EqNone.ne_none_none (done _ rfl)
    | int y => obtain ⟨t, rfl⟩ := er_int eb; exact EqNone.ne_none_int (done _ rfl)
    | bool y => rw [eb] at hb; cases hb
    | ref y => rw [eb] at hb; cases hb
    | other => rw [eb] at hb; cases hb
  | int x =>
    obtain ⟨t, rfl⟩ := er_int ea
    cases eb : er vb with
    | none => obtain rfl := er_none eb; exact EqNone.ne_int_none (done _ rfl)
    | int y =>
      obtain ⟨u, rfl⟩ := er_int eb
      exact cm_neI A E s _ _ h Q cx R ⟨x, y, rfl, rfl, q⟩
    | bool y => rw [eb] at hb; cases hb
    | ref y => rw [eb] at hb; cases hb
    | other => rw [eb] at hb; cases hb
  | bool y => rw [ea] at ha; cases ha
  | ref y => rw [ea] at ha; cases ha
  | other => rw [ea] at ha; cases ha
end

section
variable {W : Wd} (ok : WdOk W) {n : Nat} {sc : Scope} {vm : VM}
include ok
theorem ev_dict0I {pos : Pos} (hB : sysModules < W.B) : EvOk W n sc vm (.Dict [] [] pos) (T.dict0I W.B) := by
  intro env A E s loc h Q st q
  refine wpAny_Dict_empty ?_
  have hne : (s.heap.objs.size == sysModules) = false := by
    rw [beq_eq_false_iff_ne]
    exact Nat.ne_of_gt (Nat.lt_of_lt_of_le hB st.rel.size)
  exact ⟨_, _, s.toks, rfl, Step.push (c := .idict []) st.rel ⟨[], Heap.DictOf.new _, rfl, hne⟩, q _ st.rel.size (st.rel.fresh (get_size_none _))⟩
theorem ev_idxD {o i : Expr} {f g : ET} {pos : Pos} (ho : EvOk W n sc vm o f) (hi : EvOk W n sc vm i g) (hs : ∀ a b, subscripted i false a b = operate [a, b] (getItem a b)) :
    EvOk W n sc vm (.Subscript o i pos) (T.idxD f g) := by
  intro env A E s loc h Q st q
  rw [arm_eval_Subscript]
  refine wpAny_bind (ho.use ok st q fun a h1 hp1 tk1 q1 st1 S1 => wpAny_bind (wpAny_holding (hi.use ok st1 q1 fun b h2 hp2 tk2 q2 st2 S2 => wpAny_bind (wpAny_standAt ?_))))
  obtain ⟨l, es, x, v, ha, hb, hl, hx, q3⟩ := q2
  obtain rfl := er_ref ha
  obtain ⟨t, rfl⟩ := er_int hb
  obtain ⟨kvs, hd, e, hsy⟩ := st2.rel.cells l _ hl
  rw [← e, lookD_er] at hx
  obtain ⟨u, hu, rfl⟩ := Option.map_eq_some_iff.mp hx
  exact sub_any hd.typeIs slot_dict_getitem.lookup (.inl (hs _ _)) (wpAny_getItem_of (intKind_is W.prog W.w x t) hd.mapOf hu ⟨h2, hp2, tk2 + 1, rfl, S1.trans S2, q3⟩)
theorem ex_setidxD {o i e : Expr} {f g k : ET} {p pos : Pos} (ho : EvOk W n sc vm o f) (hi : EvOk W n sc vm i g) (he : EvOk W n sc vm e k) (hs : ∀ env : Env, env.scope = sc → swapsWith e (some (.Subscript o i p)) pos.line env = pure false) :
    ExOk W n sc vm (.Assign [.Subscript o i p] e pos) (T.setidxD W.B f g k) := by
  intro env A E s loc h Q st q
  refine wpAny_Assign_Subscript (he.use ok st q fun v h1 hp1 tk1 q1 st1 S1 => ho.use ok st1 q1 fun a h2 hp2 tk2 q2 st2 S2 => hi.use ok st2 q2 fun b h3 hp3 tk3 q3 st3 S3 => ?_) (hs env st.sc)
  obtain ⟨l, es, x, ha, hb, hl, hB, hlen, q4⟩ := q3
  obtain rfl := er_ref ha
  obtain ⟨t, rfl⟩ := er_int hb
  obtain ⟨kvs, hd, ee, hsy⟩ := st3.rel.cells l _ hl
  have hkl : kvs.length = es.length := by rw [← ee, List.length_map]
  refine wpAny_setItem_pairs (intKind_is W.prog W.w x t) hd (fun h' hd' hsb => ?_) (by rw [sizeLine_eq]; omega)
  have S4 := Step.set st3.rel hl hB (dict_notTup hd) hsb (c' := .idict (storeD es x (er v))) ⟨_, hd', by rw [← ee, storeD_er], hsy⟩
  have S := ((S1.trans S2).trans S3).trans S4
  exact ⟨loc, _, h', tk3 + 1, rfl, S.s, st.fr.step S, q4⟩
end
end Mini

/-! MiniO -/
namespace Mini

section
variable {W : Wd} (ok : WdOk W) {n : Nat} {sc : Scope} {vm : VM}
include ok
theorem ev_methD {o : Expr} {name : Str} {id : String} {apos pos : Pos} {e : Expr} {es : List Expr} {f : ET} {t : EsT} {p : F.Fn} (slot : Slot "dict" name id) (hty : typeOf (.builtin id) = pure (.type "method_descriptor"))
    (hbase : ∀ env, attributeBase o name env (eval o env) = eval o env)
    (hfew : ∀ env, ((backTo pos (starEach (e :: es) env)).all (fun x => !x.1) && (backToKw pos (keywordEach [] env)).all (fun x => x.1.isSome)
      && decide ((e :: es).length + ([] : List Keyword).length + (if ([] : List Keyword).isEmpty then 0 else 1) < 30)) = true)
    (hline : (apos.endLine == pos.line) = true) (ho : EvOk W n sc vm o f) (hes : EsOk W n sc vm (e :: es) t) (hp : FOk W n (.builtin id) p)
    (hs : ∀ env, starEach (e :: es) env = (false, eval e env) :: starEach es env) (hpl : ∀ env pos, (backTo pos (starEach es env)).any (·.1) = false) :
    EvOk W n sc vm (.Call (.Attribute o name apos) (e :: es) [] pos) (T.methD f t p) := by
  intro env A E s loc h Q st q
  refine wpAny_Call_method (T := "dict") (id := id) (hbase env) (hfew env) hline F.plainAttrs_dict slot hty (ho.use ok st q fun a h1 hp1 tk1 q1 st1 S1 => ?_)
  obtain ⟨⟨l, xs, ha, hl⟩, q1⟩ := q1
  obtain rfl := er_ref ha
  obtain ⟨kvs, hd, ee, hsy⟩ := st1.rel.cells l _ hl
  obtain ⟨o1, es1, ep1, ho1, hx1, hd1, _⟩ := (show hp1.DictOf (intKind W.prog W.w) l kvs from hd)
  refine ⟨hd.typeIs, fun a e => by cases e; exact ⟨_, ho1, hx1.2.1⟩, ?_⟩
  have hany : (backTo pos (starEach (e :: es) env)).any (·.1) = false := by
    rw [hs]
    show (false || (backTo pos (starEach es env)).any (·.1)) = false
    rw [hpl]; rfl
  refine Calls.callWith_builtin hany ?_
  have key : wpAny (model W.prog W.w) A (spliced (backTo pos (starEach (e :: es) env))) (fun vs s₁ => wpAny (model W.prog W.w) A (call (.builtin id) (.ref l :: vs)) (Res W h s Q) E s₁) E { s with heap := hp1, toks := tk1 } := by
    refine wpAny_mono (hes env A E _ loc h1 _ pos st1 q1) ?_ fun _ _ x => x
    rintro vs s' ⟨h2, hp2, tk2, rfl, S2, q2⟩
    exact wpAny_mono (hp A E _ (.ref l :: vs) h2 Q st.cx (S2.rel ok st1.rel) q2) (fun v s' r => Res.bind (tk := tk1) S1 (Res.bind (tk := tk2) S2 r)) fun _ _ x => x
  rw [hs] at key ⊢
  exact Calls.evalArgs_plain key
end

theorem er_intsA {vs : List Value} {ns : List Int} (h : IntsAre vs ns) : vs.map er = ns.map AV.int := by
  induction h with
  | nil => rfl
  | cons n t _ ih => rw [List.map_cons, List.map_cons, ih]; rfl

section
variable {W : Wd} {n : Nat}
theorem fo_dget (ok : WdOk W) : FOk W n (.builtin "dict.get") F.dget := by
  rintro A E s vs h Q cx R ⟨l, es, x, e, hl, q⟩
  obtain ⟨v, w, rfl, hv, hw⟩ := map2 e
  obtain rfl := er_ref hv
  obtain ⟨t, rfl⟩ := er_int hw
  obtain ⟨kvs, hd, ee, hs⟩ := R.cells l _ hl
  refine call_meetsIn F.slot_dict_get hd.typeIs F.entry_dict_get (F.args_dict_get_2 _ _) (meets_dict_get (intKind W.prog W.w) _ (intKind_is W.prog W.w x t) hs) ⟨_, hd.mapOf, ?_⟩
  refine ⟨h, s.heap, s.toks + 1, rfl, Step.refl R, ?_⟩
  rw [← ee, lookD_er] at q
  cases hv : valueAt kvs x with
  | none => rw [hv] at q; exact q
  | some u => rw [hv] at q; exact q
theorem fo_dpop (ok : WdOk W) : FOk W n (.builtin "dict.pop") (F.dpop W.B) := by
  rintro A E s vs h Q cx R ⟨l, es, x, u, e, hl, hB, hlen, hu, q⟩
  obtain ⟨v, w, rfl, hv, hw⟩ := map2 e
  obtain rfl := er_ref hv
  obtain ⟨t, rfl⟩ := er_int hw
  obtain ⟨kvs, hd, ee, hs⟩ := R.cells l _ hl
  rw [← ee, lookD_er] at hu
  obtain ⟨y, hy, rfl⟩ := Option.map_eq_some_iff.mp hu
  have hkl : kvs.length = es.length := by rw [← ee, List.length_map]
  refine call_meetsIn F.slot_dict_pop hd.typeIs F.entry_dict_pop (F.args_dict_pop_2 _ _) (meets_dict_pop_there (intKind W.prog W.w) _ (intKind_is W.prog W.w x t) [] (.inl rfl) rfl) ⟨kvs, y, hd, by rw [sizeLine_eq]; omega, hy, fun h' hd' hsb => ?_⟩
  refine ⟨_, h', s.toks + 1, rfl, Step.set R hl hB (dict_notTup hd) hsb (c' := .idict (dropD es x)) ⟨_, hd', by rw [← ee, dropD_er], hs⟩, q⟩

theorem ints_of_keys {prog : Program} {w : World} {kvs : List (Int × Value)} : ∀ {vs : List Value}, vs.length = kvs.length → (∀ (j : Nat) v, vs[j]? = some v → ∃ k x, kvs[j]? = some (k, x) ∧ (intKind prog w).is k v = true) → IntsAre vs (kvs.map (·.1)) := by
  induction kvs with
  | nil => intro vs hl _; rw [List.length_eq_zero_iff.mp hl]; exact .nil
  | cons p r ih =>
    intro vs hl h
    match vs, hl, h with
    | v :: vs, hl, h =>
      obtain ⟨k, x, e1, e2⟩ := h 0 v rfl
      cases e1
      obtain ⟨t, rfl⟩ := Value.isInt_shape e2
      exact .cons _ t (ih (by simpa using hl) fun j v hv => h (j + 1) v hv)
theorem fo_sortedD (ok : WdOk W) : FOk W n (.builtin "sorted") (F.sortedD W.B) := by
  rintro A E s vs h Q cx R ⟨l, es, e, hl, hlen, q⟩
  obtain ⟨v, rfl, hv⟩ := map1 e
  obtain rfl := er_ref hv
  obtain ⟨kvs, hd, ee, hs⟩ := R.cells l _ hl
  have hkl : kvs.length = es.length := by rw [← ee, List.length_map]
  have hks : kvs.map (·.1) = es.map (·.1) := by rw [← ee, List.map_map]; rfl
  obtain ⟨ep, hat⟩ := hd.dictAt
  refine call_function_entry kind_sorted plain_sorted entry_sorted (args_sorted1 _) ?_
  unfold Builtin.«sorted»
  refine wpAny_bind (m := checkCount "sorted" 1 1 _) (wpAny_pure ?_)
  refine wpAny_bind (kdu_collect (A := A.in1) (kdl_dict (knd := intKind W.prog W.w) (kvs := kvs) (ep := ep) hs) cx.hd hat (by rw [sizeLine_eq]; omega) fun h' tk acc hk hacc => ?_)
  have hal : acc.toList.length = kvs.length := by rw [Array.length_toList]; exact hacc.1
  have hI : IntsAre acc.toList (kvs.map (·.1)) := ints_of_keys hal fun j v e => hacc.2 j v (by rw [← Array.getElem?_toList]; exact e)
  refine wpAny_bind (wpAny_newList ?_ (by rw [hal, sizeLine_eq]; omega))
  have hoL : (h'.push (seqObj "list" acc.toList.toArray 0)).get? h'.objs.size = some (seqObj "list" acc.toList.toArray 0) := Heap.get?_push_size _ rfl
  show wpAny _ _ _ _ _ { s with heap := h'.push (seqObj "list" acc.toList.toArray 0), toks := tk }
  refine wpAny_bind (wpAny_holding (wpAny_call_entry slot_list_sort ⟨_, hoL, rfl⟩ entry_list_sort (list_sort_tree hoL hI (by omega) fun out ns' a1 a2 a3 => ⟨_, rfl, ?_⟩) (args_list_sort _)))
  refine wpAny_pure ⟨_, rfl, ?_⟩
  obtain ⟨e2, hat2⟩ := sortedHeap_at (out := out) hoL
  have keep : ∀ b o, s.heap.get? b = some o → (sortedHeap (h'.push (seqObj "list" acc.toList.toArray 0)) h'.objs.size acc.toList out).get? b = some o := fun b o eb => by
    have hb := hk b o eb
    have hlt := Heap.lt_size hb
    rw [sortedHeap_old (Nat.ne_of_lt hlt) (by rw [size_push']; exact Nat.lt_succ_of_lt hlt)]
    exact Heap.get?_push_of_some _ hb
  have hfree : s.heap.get? h'.objs.size = none := by
    cases q : s.heap.get? h'.objs.size with
    | none => rfl
    | some o => exact absurd (Heap.lt_size (hk _ _ q)) (Nat.lt_irrefl _)
  have hBs : W.B ≤ h'.objs.size := by
    obtain ⟨b, o, h1, _, h3⟩ := R.wit
    exact Nat.le_of_lt (Nat.lt_of_le_of_lt h1 (Heap.lt_size (hk _ _ h3)))
  refine ⟨_, _, tk, rfl, Step.alloc R hfree hBs keep (c := .list (ns'.map AV.int)) ⟨out, ⟨e2, hat2⟩, er_intsA a1⟩, q ns' (by rw [← hks]; exact a2) a3 _ hBs (R.fresh hfree)⟩
end

/-! equality of data, however deep -/
mutual
inductive DataAt (h : AH) : AV → PyData → Prop
  | none : DataAt h .none .none
  | int (i : Int) : DataAt h (.int i) (.int i)
  | list {a : Addr} {xs : List AV} {ds : List PyData} : h a = some (.list xs) → DatasAt h xs ds → DataAt h (.ref a) (.list ds)
inductive DatasAt (h : AH) : List AV → List PyData → Prop
  | nil : DatasAt h [] []
  | cons {x : AV} {xs : List AV} {d : PyData} {ds : List PyData} : DataAt h x d → DatasAt h xs ds → DatasAt h (x :: xs) (d :: ds)
end
mutual
theorem DataAt.reads {W : Wd} {h : AH} {hp : Heap} (R : Rel W h hp) {x : AV} {d : PyData} : DataAt h x d → ∀ v, er v = x → ∃ as, Reads hp v d as
  | .none, v, e => by obtain rfl := er_none e; exact ⟨_, .none⟩
  | .int i, v, e => by obtain ⟨t, rfl⟩ := er_int e; exact ⟨_, .int i t⟩
  | .list ha hs, v, e => by
    obtain rfl := er_ref e
    obtain ⟨vs, ⟨k, ho⟩, hm⟩ := R.cells _ _ ha
    obtain ⟨as, hr⟩ := DatasAt.reads R hs vs.toList hm
    exact ⟨_, .list ho rfl rfl hr⟩
theorem DatasAt.reads {W : Wd} {h : AH} {hp : Heap} (R : Rel W h hp) {xs : List AV} {ds : List PyData} : DatasAt h xs ds → ∀ vs : List Value, vs.map er = xs → ∃ as, ReadsAll hp vs ds as
  | .nil, vs, e => by rw [List.map_eq_nil_iff.mp e]; exact ⟨_, .nil⟩
  | .cons hx hs, vs, e => by
    match vs, e with
    | v :: vs, e =>
      rw [List.map_cons, List.cons.injEq] at e
      obtain ⟨as, h1⟩ := DataAt.reads R hx v e.1
      obtain ⟨bs, h2⟩ := DatasAt.reads R hs vs e.2
      exact ⟨_, .cons h1 h2⟩
end
namespace P
def eqD : Cm := fun a b h Q => ∃ d e, DataAt h a d ∧ DataAt h b e ∧ SeqAt.shaped d = true ∧ SeqAt.shaped e = true ∧ Q (PyData.eqv d e) h
def neD : Cm := fun a b h Q => ∃ d e, DataAt h a d ∧ DataAt h b e ∧ SeqAt.shaped d = true ∧ SeqAt.shaped e = true ∧ Q (!PyData.eqv d e) h
end P
section
variable {W : Wd} {n : Nat}
theorem cm_eqD : CmpOk W n .Eq P.eqD := by
  rintro A E s va vb h Q cx R ⟨d, e, hd, he, sd, se, q⟩
  obtain ⟨as, r1⟩ := hd.reads R va rfl
  obtain ⟨bs, r2⟩ := he.reads R vb rfl
  exact eq_dataH r1 r2 sd se (by have := cx.un; omega) ⟨h, s.heap, s.toks, rfl, Step.refl R, _, rfl, q⟩
theorem cm_neD : CmpOk W n .NotEq P.neD := by
  rintro A E s va vb h Q cx R ⟨d, e, hd, he, sd, se, q⟩
  obtain ⟨as, r1⟩ := hd.reads R va rfl
  obtain ⟨bs, r2⟩ := he.reads R vb rfl
  exact ne_dataH r1 r2 sd se (by have := cx.un; omega) ⟨h, s.heap, s.toks, rfl, Step.refl R, _, rfl, q⟩
end
end Mini
namespace Mini
theorem sys_lt {W : Wd} (ok : WdOk W) {x : Str} {v : Value} (g : GlobAt W x v) : sysModules < W.B := by
  obtain ⟨mg, mb, h1, _⟩ := g W.h₀ fun _ _ e => e
  obtain ⟨o, ho⟩ := ns_some h1
  have := ok.size _ _ ho
  exact Nat.lt_of_lt_of_le (by decide : (1 : Nat) < 3) (Nat.le_of_lt this)
end Mini

/-! L1T -/
namespace Mini
/-- _law_key: 0 entry -/
def t_key (B g_key : Addr) : ST :=
  (T.ret (T.idx (T.var 0) (T.int 0)))
def v_key : List (Nat × Str) := [(0, "entry")]
def n_key : List Str := ["entry"]
def f_key (B g_key : Addr) : F.Fn := fun avs h Q => avs.length = 1 ∧ fnT (fun avs => avs) (t_key B g_key) avs h Q

/-- bisect_left: 0 a, 1 x, 2 lo, 3 hi, 4 key, 5 mid -/
def t_bis (B g_key : Addr) : ST :=
  (T.seq (T.ife (T.cmp P.lt (T.var 2) (T.int 0))
   T.sbad
   T.skip)
  (T.seq (T.ife (T.cmp P.isN (T.var 3) T.none)
   (T.asg 3 (T.call (T.econs (T.var 0) T.enil) F.len))
   T.skip)
  (T.seq (T.ife (T.cmp P.isN (T.var 4) T.none)
   (T.while_ (T.cmp P.lt (T.var 2) (T.var 3))
   (T.seq (T.asg 5 (T.bin P.fdiv (T.bin P.add (T.var 2) (T.var 3)) (T.int 2)))
  (T.ife (T.cmp P.lt (T.idx (T.var 0) (T.var 5)) (T.var 1))
   (T.asg 2 (T.bin P.add (T.var 5) (T.int 1)))
   (T.asg 3 (T.var 5)))))
   (T.while_ (T.cmp P.lt (T.var 2) (T.var 3))
   (T.seq (T.asg 5 (T.bin P.fdiv (T.bin P.add (T.var 2) (T.var 3)) (T.int 2)))
  (T.ife (T.cmp P.lt (T.callv 4 g_key (T.econs (T.idx (T.var 0) (T.var 5)) T.enil) (f_key B g_key)) (T.var 1))
   (T.asg 2 (T.bin P.add (T.var 5) (T.int 1)))
   (T.asg 3 (T.var 5))))))
  (T.ret (T.var 2)))))
def v_bis : List (Nat × Str) := [(0, "a"), (1, "x"), (2, "lo"), (3, "hi"), (4, "key"), (5, "mid")]
def n_bis : List Str := ["a", "x", "lo", "hi", "key"]
def f_bis2 (B g_key : Addr) : F.Fn := fun avs h Q => avs.length = 2 ∧ fnT (fun avs => avs ++ [.int 0, .none, .none]) (t_bis B g_key) avs h Q
def f_bis3 (B g_key : Addr) : F.Fn := fun avs h Q => avs.length = 3 ∧ fnT (fun avs => avs.take 2 ++ [.int 0, .none] ++ avs.drop 2) (t_bis B g_key) avs h Q
def f_bis4 (B g_key : Addr) : F.Fn := fun avs h Q => avs.length = 4 ∧ fnT (fun avs => avs.take 3 ++ [.none] ++ avs.drop 3) (t_bis B g_key) avs h Q

/-- _law_set: 0 rows, 1 k, 2 value, 3 place -/
def t_set (B g_key : Addr) : ST :=
  (T.seq (T.asg 3 (T.call (T.ekw (T.econs (T.var 0) (T.econs (T.var 1) T.enil)) (T.glob (.ref g_key))) (f_bis3 B g_key)))
  (T.ife (T.and (T.cmp P.lt (T.var 3) (T.call (T.econs (T.var 0) T.enil) F.len)) (T.cmp P.eqI (T.idx (T.idx (T.var 0) (T.var 3)) (T.int 0)) (T.var 1)))
   (T.setidx B (T.var 0) (T.var 3) (T.list B (T.econs (T.var 1) (T.econs (T.var 2) T.enil))))
   (T.expr (T.meth (T.var 0) (T.econs (T.var 3) (T.econs (T.list B (T.econs (T.var 1) (T.econs (T.var 2) T.enil))) T.enil)) (F.insert B)))))
def v_set : List (Nat × Str) := [(0, "rows"), (1, "k"), (2, "value"), (3, "place")]
def n_set : List Str := ["rows", "k", "value"]
def f_set (B g_key : Addr) : F.Fn := fun avs h Q => avs.length = 3 ∧ fnT (fun avs => avs) (t_set B g_key) avs h Q

/-- _law_find: 0 rows, 1 k, 2 place -/
def t_find (B g_key : Addr) : ST :=
  (T.seq (T.asg 2 (T.call (T.ekw (T.econs (T.var 0) (T.econs (T.var 1) T.enil)) (T.glob (.ref g_key))) (f_bis3 B g_key)))
  (T.seq (T.ife (T.and (T.cmp P.lt (T.var 2) (T.call (T.econs (T.var 0) T.enil) F.len)) (T.cmp P.eqI (T.idx (T.idx (T.var 0) (T.var 2)) (T.int 0)) (T.var 1)))
   (T.ret (T.idx (T.var 0) (T.var 2)))
   T.skip)
  (T.ret (T.list B T.enil))))
def v_find : List (Nat × Str) := [(0, "rows"), (1, "k"), (2, "place")]
def n_find : List Str := ["rows", "k"]
def f_find (B g_key : Addr) : F.Fn := fun avs h Q => avs.length = 2 ∧ fnT (fun avs => avs) (t_find B g_key) avs h Q

/-- _law_get: 0 lists, 1 k, 2 rows, 3 one -/
def t_get (B g_key : Addr) : ST :=
  (T.seq (T.for_ (T.itL (T.var 0)) (T.asN 2)
   (T.seq (T.asg 3 (T.call (T.econs (T.var 2) (T.econs (T.var 1) T.enil)) (f_find B g_key)))
  (T.ife (T.cmp P.neD (T.var 3) (T.list B T.enil))
   (T.ret (T.idx (T.var 3) (T.int 1)))
   T.skip)))
  (T.ret T.none))
def v_get : List (Nat × Str) := [(0, "lists"), (1, "k"), (2, "rows"), (3, "one")]
def n_get : List Str := ["lists", "k"]
def f_get (B g_key : Addr) : F.Fn := fun avs h Q => avs.length = 2 ∧ fnT (fun avs => avs) (t_get B g_key) avs h Q

/-- _law_scan: 0 lists, 1 low, 2 high, 3 told, 4 rows, 5 start, 6 stop, 7 one -/
def t_scan (B g_key : Addr) : ST :=
  (T.seq (T.asg 3 (T.list B T.enil))
  (T.seq (T.for_ (T.itL (T.var 0)) (T.asN 4)
   (T.seq (T.asg 5 (T.call (T.ekw (T.econs (T.var 4) (T.econs (T.var 1) T.enil)) (T.glob (.ref g_key))) (f_bis3 B g_key)))
  (T.seq (T.asg 6 (T.call (T.ekw (T.econs (T.var 4) (T.econs (T.var 2) (T.econs (T.var 5) T.enil))) (T.glob (.ref g_key))) (f_bis4 B g_key)))
  (T.for_ (T.itL (T.slice B (T.var 4) (some (T.var 5)) (some (T.var 6)))) (T.asN 7)
   (T.ife (T.cmp P.eqD (T.call (T.econs (T.var 3) (T.econs (T.idx (T.var 7) (T.int 0)) T.enil)) (f_find B g_key)) (T.list B T.enil))
   (T.expr (T.call (T.econs (T.var 3) (T.econs (T.idx (T.var 7) (T.int 0)) (T.econs (T.idx (T.var 7) (T.int 1)) T.enil))) (f_set B g_key)))
   T.skip)))))
  (T.ret (T.comp B (T.itL (T.var 3)) 8 (T.cmp P.isNotN (T.idx (T.var 8) (T.int 1)) T.none) (T.var 8)))))
def v_scan : List (Nat × Str) := [(0, "lists"), (1, "low"), (2, "high"), (3, "told"), (4, "rows"), (5, "start"), (6, "stop"), (7, "one")]
def n_scan : List Str := ["lists", "low", "high"]
def f_scan (B g_key : Addr) : F.Fn := fun avs h Q => avs.length = 3 ∧ fnT (fun avs => avs) (t_scan B g_key) avs h Q

/-- _law_merge: 0 newer, 1 older, 2 last, 3 whole, 4 one -/
def t_merge (B g_key : Addr) : ST :=
  (T.seq (T.asg 3 (T.comp B (T.itL (T.var 1)) 6 T.yes (T.call (T.econs (T.var 6) T.enil) (F.listOf B))))
  (T.seq (T.for_ (T.itL (T.var 0)) (T.asN 4)
   (T.expr (T.call (T.econs (T.var 3) (T.econs (T.idx (T.var 4) (T.int 0)) (T.econs (T.idx (T.var 4) (T.int 1)) T.enil))) (f_set B g_key))))
  (T.ret (T.ifx (T.truB (T.var 2)) (T.comp B (T.itL (T.var 3)) 5 (T.cmp P.isNotN (T.idx (T.var 5) (T.int 1)) T.none) (T.var 5)) (T.var 3)))))
def v_merge : List (Nat × Str) := [(0, "newer"), (1, "older"), (2, "last"), (3, "whole"), (4, "one")]
def n_merge : List Str := ["newer", "older", "last"]
def f_merge (B g_key : Addr) : F.Fn := fun avs h Q => avs.length = 3 ∧ fnT (fun avs => avs) (t_merge B g_key) avs h Q

/-- _law_rising: 0 rows -/
def t_rising (B g_key : Addr) : ST :=
  (T.ret (T.val (T.cmp P.eqD (T.comp B (T.itR2 (T.econs (T.int 1) (T.econs (T.call (T.econs (T.var 0) T.enil) F.len) T.enil))) 1 (T.cmp P.ge (T.idx (T.idx (T.var 0) (T.bin P.sub (T.var 1) (T.int 1))) (T.int 0)) (T.idx (T.idx (T.var 0) (T.var 1)) (T.int 0))) (T.var 1)) (T.list B T.enil))))
def v_rising : List (Nat × Str) := [(0, "rows")]
def n_rising : List Str := ["rows"]
def f_rising (B g_key : Addr) : F.Fn := fun avs h Q => avs.length = 1 ∧ fnT (fun avs => avs) (t_rising B g_key) avs h Q

/-- _law_due: 0 plain, 1 low, 2 high -/
def t_due (B g_key : Addr) : ST :=
  (T.ret (T.comp B (T.itL (T.call (T.econs (T.var 0) T.enil) (F.sortedD B))) 3 (T.and (T.cmp P.le (T.var 1) (T.var 3)) (T.cmp P.lt (T.var 3) (T.var 2))) (T.list B (T.econs (T.var 3) (T.econs (T.idxD (T.var 0) (T.var 3)) T.enil)))))
def v_due : List (Nat × Str) := [(0, "plain"), (1, "low"), (2, "high")]
def n_due : List Str := ["plain", "low", "high"]
def f_due (B g_key : Addr) : F.Fn := fun avs h Q => avs.length = 3 ∧ fnT (fun avs => avs) (t_due B g_key) avs h Q

/-- law: 0 script, 1 numbers, 2 memory, 3 runs, 4 plain, 5 turn, 6 a, 7 b, 8 c, 9 kind, 10 k, 11 p, 12 low, 13 high, 14 j, 15 lists, 16 whole -/
def t_law (B g_key : Addr) (g_TAIL : Addr) : ST :=
  (T.seq (T.asg 1 (T.call (T.econs (T.slice B (T.var 0) none (some (T.int 48))) T.enil) (F.listOf B)))
  (T.seq (T.asg 1 (T.bin (P.addL B) (T.slice B (T.var 1) none (some (T.bin P.mul (T.bin P.fdiv (T.call (T.econs (T.var 1) T.enil) F.len) (T.int 3)) (T.int 3)))) (T.glob (.ref g_TAIL))))
  (T.seq (T.asg 2 (T.list B T.enil))
  (T.seq (T.asg 3 (T.list B T.enil))
  (T.seq (T.asg 4 (T.dict0I B))
  (T.seq (T.for_ (T.itR1 (T.econs (T.bin P.fdiv (T.call (T.econs (T.var 1) T.enil) F.len) (T.int 3)) T.enil)) (T.asN 5)
   (T.seq (T.asgT [6, 7, 8] (T.slice B (T.var 1) (some (T.bin P.mul (T.int 3) (T.var 5))) (some (T.bin P.add (T.bin P.mul (T.int 3) (T.var 5)) (T.int 3)))))
  (T.seq (T.asg 9 (T.bin P.fmod (T.var 6) (T.int 6)))
  (T.seq (T.asg 10 (T.bin P.fmod (T.call (T.econs (T.var 7) T.enil) F.abs) (T.int 12)))
  (T.seq (T.ife (T.cmp P.lt (T.var 9) (T.int 2))
   (T.seq (T.expr (T.call (T.econs (T.var 2) (T.econs (T.var 10) (T.econs (T.var 8) T.enil))) (f_set B g_key)))
  (T.setidxD B (T.var 4) (T.var 10) (T.var 8)))
   T.skip)
  (T.seq (T.ife (T.cmp P.eqI (T.var 9) (T.int 2))
   (T.seq (T.expr (T.call (T.econs (T.var 2) (T.econs (T.var 10) (T.econs T.none T.enil))) (f_set B g_key)))
  (T.ife (T.cmp P.inD (T.var 10) (T.var 4))
   (T.expr (T.methD (T.var 4) (T.econs (T.var 10) T.enil) (F.dpop B)))
   T.skip))
   T.skip)
  (T.seq (T.ife (T.and (T.cmp P.eqI (T.var 9) (T.int 3)) (T.cmp P.neD (T.var 2) (T.list B T.enil)))
   (T.seq (T.asg 3 (T.bin (P.addL B) (T.list B (T.econs (T.var 2) T.enil)) (T.var 3)))
  (T.asg 2 (T.list B T.enil)))
   T.skip)
  (T.seq (T.ife (T.and (T.cmp P.eqI (T.var 9) (T.int 4)) (T.cmp P.gt (T.call (T.econs (T.var 3) T.enil) F.len) (T.int 1)))
   (T.seq (T.asg 11 (T.bin P.fmod (T.call (T.econs (T.var 8) T.enil) F.abs) (T.bin P.sub (T.call (T.econs (T.var 3) T.enil) F.len) (T.int 1))))
  (T.asg 3 (T.bin (P.addL B) (T.bin (P.addL B) (T.slice B (T.var 3) none (some (T.var 11))) (T.list B (T.econs (T.call (T.econs (T.idx (T.var 3) (T.var 11)) (T.econs (T.idx (T.var 3) (T.bin P.add (T.var 11) (T.int 1))) (T.econs (T.val (T.cmp P.eqI (T.bin P.add (T.var 11) (T.int 2)) (T.call (T.econs (T.var 3) T.enil) F.len))) T.enil))) (f_merge B g_key)) T.enil))) (T.slice B (T.var 3) (some (T.bin P.add (T.var 11) (T.int 2))) none))))
   T.skip)
  (T.seq (T.ife (T.cmp P.eqI (T.var 9) (T.int 5))
   (T.seq (T.asg 12 (T.call (T.econs (T.var 10) (T.econs (T.bin P.fmod (T.call (T.econs (T.var 8) T.enil) F.abs) (T.int 13)) T.enil)) F.min2))
  (T.seq (T.asg 13 (T.call (T.econs (T.var 10) (T.econs (T.bin P.fmod (T.call (T.econs (T.var 8) T.enil) F.abs) (T.int 13)) T.enil)) F.max2))
  (T.ife (T.cmp P.neD (T.call (T.econs (T.bin (P.addL B) (T.list B (T.econs (T.var 2) T.enil)) (T.var 3)) (T.econs (T.var 12) (T.econs (T.var 13) T.enil))) (f_scan B g_key)) (T.call (T.econs (T.var 4) (T.econs (T.var 12) (T.econs (T.var 13) T.enil))) (f_due B g_key)))
   (T.ret (T.bool false))
   T.skip)))
   T.skip)
  (T.seq (T.ife (T.cmp P.neO (T.call (T.econs (T.bin (P.addL B) (T.list B (T.econs (T.var 2) T.enil)) (T.var 3)) (T.econs (T.var 10) T.enil)) (f_get B g_key)) (T.methD (T.var 4) (T.econs (T.var 10) T.enil) F.dget))
   (T.ret (T.bool false))
   T.skip)
  (T.ife (T.cmp P.eqI (T.bin P.fmod (T.var 5) (T.int 4)) (T.int 3))
   (T.seq (T.for_ (T.itR1 (T.econs (T.int 12) T.enil)) (T.asN 14)
   (T.ife (T.cmp P.neO (T.call (T.econs (T.bin (P.addL B) (T.list B (T.econs (T.var 2) T.enil)) (T.var 3)) (T.econs (T.var 14) T.enil)) (f_get B g_key)) (T.methD (T.var 4) (T.econs (T.var 14) T.enil) F.dget))
   (T.ret (T.bool false))
   T.skip))
  (T.ife (T.cmp P.neD (T.comp B (T.itL (T.bin (P.addL B) (T.list B (T.econs (T.var 2) T.enil)) (T.var 3))) 17 (T.not (T.truB (T.call (T.econs (T.var 17) T.enil) (f_rising B g_key)))) (T.var 17)) (T.list B T.enil))
   (T.ret (T.bool false))
   T.skip))
   T.skip)))))))))))
  (T.seq (T.asg 15 (T.bin (P.addL B) (T.list B (T.econs (T.var 2) T.enil)) (T.var 3)))
  (T.seq (T.asg 16 (T.list B T.enil))
  (T.seq (T.for_ (T.itRd (T.econs (T.bin P.sub (T.call (T.econs (T.var 15) T.enil) F.len) (T.int 1)) (T.econs (T.neg (T.int 1)) (T.econs (T.neg (T.int 1)) T.enil)))) (T.asN 11)
   (T.asg 16 (T.call (T.econs (T.idx (T.var 15) (T.var 11)) (T.econs (T.var 16) (T.econs (T.val (T.cmp P.eqI (T.var 11) (T.int 0))) T.enil))) (f_merge B g_key))))
  (T.ret (T.val (T.cmp P.eqD (T.var 16) (T.call (T.econs (T.var 4) (T.econs (T.int 0) (T.econs (T.int 12) T.enil))) (f_due B g_key))))))))))))))
def v_law : List (Nat × Str) := [(0, "script"), (1, "numbers"), (2, "memory"), (3, "runs"), (4, "plain"), (5, "turn"), (6, "a"), (7, "b"), (8, "c"), (9, "kind"), (10, "k"), (11, "p"), (12, "low"), (13, "high"), (14, "j"), (15, "lists"), (16, "whole")]
def n_law : List Str := ["script"]
def f_law (B g_key : Addr) (g_TAIL : Addr) : F.Fn := fun avs h Q => avs.length = 1 ∧ fnT (fun avs => avs) (t_law B g_key g_TAIL) avs h Q

end Mini

/-! L1A -/
namespace Mini
open PySem.Challenge
set_option maxHeartbeats 8000000 in
theorem bk_bis {W : Wd} (ok : WdOk W) {n : Nat} {g_key : Addr}
    (g_len : GlobAt W "len" (.builtin "len"))
    (d_key : DefAt W "_law_key" g_key) (h_key : FOk W n (.ref g_key) (f_key W.B g_key)) :
    BkOk W n (scopeAt pw_ec5002_01 1) (vmOf v_bis) (bodyAt pw_ec5002_01 1) (t_bis W.B g_key) := by
  have hj : VInj (vmOf v_bis) := vinj_of (by decide +kernel)
  exact (bk_cons ok (ex_if ok (ts_cmp ok cm_lt (by first | exact ev_local ok rfl rfl rfl | exact ev_cell ok rfl rfl rfl | exact ev_free ok rfl rfl rfl rfl) (ev_int ok) rfl)
   (bk_one ok ex_bad)
   (bk_nil ok))
  (bk_cons ok (ex_if ok (ts_cmp ok cm_isN (by first | exact ev_local ok rfl rfl rfl | exact ev_cell ok rfl rfl rfl | exact ev_free ok rfl rfl rfl rfl) (ev_none ok) rfl)
   (bk_one ok (ex_asg ok hj (ev_callB ok (.inl ⟨_, rfl⟩) g_len rfl rfl (es_cons ok (by first | exact ev_local ok rfl rfl rfl | exact ev_cell ok rfl rfl rfl | exact ev_free ok rfl rfl rfl rfl) (es_nil ok) (fun _ => rfl)) (fo_len ok) (fun _ => rfl) (fun _ _ => rfl)) rfl (by first | exact .inl rfl | exact .inr rfl) (fun _ _ => rfl)))
   (bk_nil ok))
  (bk_cons ok (ex_if ok (ts_cmp ok cm_isN (by first | exact ev_local ok rfl rfl rfl | exact ev_cell ok rfl rfl rfl | exact ev_free ok rfl rfl rfl rfl) (ev_none ok) rfl)
   (bk_one ok (ex_while ok (ts_cmp ok cm_lt (by first | exact ev_local ok rfl rfl rfl | exact ev_cell ok rfl rfl rfl | exact ev_free ok rfl rfl rfl rfl) (by first | exact ev_local ok rfl rfl rfl | exact ev_cell ok rfl rfl rfl | exact ev_free ok rfl rfl rfl rfl) rfl)
   (bk_cons ok (ex_asg ok hj (ev_bin ok op_fdiv (ev_bin ok op_add (by first | exact ev_local ok rfl rfl rfl | exact ev_cell ok rfl rfl rfl | exact ev_free ok rfl rfl rfl rfl) (by first | exact ev_local ok rfl rfl rfl | exact ev_cell ok rfl rfl rfl | exact ev_free ok rfl rfl rfl rfl)) (ev_int ok)) rfl (by first | exact .inl rfl | exact .inr rfl) (fun _ _ => rfl))
  (bk_one ok (ex_if ok (ts_cmp ok cm_lt (ev_idx ok (by first | exact ev_local ok rfl rfl rfl | exact ev_cell ok rfl rfl rfl | exact ev_free ok rfl rfl rfl rfl) (by first | exact ev_local ok rfl rfl rfl | exact ev_cell ok rfl rfl rfl | exact ev_free ok rfl rfl rfl rfl) (fun _ _ => rfl)) (by first | exact ev_local ok rfl rfl rfl | exact ev_cell ok rfl rfl rfl | exact ev_free ok rfl rfl rfl rfl) rfl)
   (bk_one ok (ex_asg ok hj (ev_bin ok op_add (by first | exact ev_local ok rfl rfl rfl | exact ev_cell ok rfl rfl rfl | exact ev_free ok rfl rfl rfl rfl) (ev_int ok)) rfl (by first | exact .inl rfl | exact .inr rfl) (fun _ _ => rfl)))
   (bk_one ok (ex_asg ok hj (by first | exact ev_local ok rfl rfl rfl | exact ev_cell ok rfl rfl rfl | exact ev_free ok rfl rfl rfl rfl) rfl (by first | exact .inl rfl | exact .inr rfl) (fun _ _ => rfl))))))))
   (bk_one ok (ex_while ok (ts_cmp ok cm_lt (by first | exact ev_local ok rfl rfl rfl | exact ev_cell ok rfl rfl rfl | exact ev_free ok rfl rfl rfl rfl) (by first | exact ev_local ok rfl rfl rfl | exact ev_cell ok rfl rfl rfl | exact ev_free ok rfl rfl rfl rfl) rfl)
   (bk_cons ok (ex_asg ok hj (ev_bin ok op_fdiv (ev_bin ok op_add (by first | exact ev_local ok rfl rfl rfl | exact ev_cell ok rfl rfl rfl | exact ev_free ok rfl rfl rfl rfl) (by first | exact ev_local ok rfl rfl rfl | exact ev_cell ok rfl rfl rfl | exact ev_free ok rfl rfl rfl rfl)) (ev_int ok)) rfl (by first | exact .inl rfl | exact .inr rfl) (fun _ _ => rfl))
  (bk_one ok (ex_if ok (ts_cmp ok cm_lt (ev_defV ok d_key (by first | exact ev_local ok rfl rfl rfl | exact ev_cell ok rfl rfl rfl | exact ev_free ok rfl rfl rfl rfl) (es_cons ok (ev_idx ok (by first | exact ev_local ok rfl rfl rfl | exact ev_cell ok rfl rfl rfl | exact ev_free ok rfl rfl rfl rfl) (by first | exact ev_local ok rfl rfl rfl | exact ev_cell ok rfl rfl rfl | exact ev_free ok rfl rfl rfl rfl) (fun _ _ => rfl)) (es_nil ok) (fun _ => rfl)) h_key (fun _ => rfl)) (by first | exact ev_local ok rfl rfl rfl | exact ev_cell ok rfl rfl rfl | exact ev_free ok rfl rfl rfl rfl) rfl)
   (bk_one ok (ex_asg ok hj (ev_bin ok op_add (by first | exact ev_local ok rfl rfl rfl | exact ev_cell ok rfl rfl rfl | exact ev_free ok rfl rfl rfl rfl) (ev_int ok)) rfl (by first | exact .inl rfl | exact .inr rfl) (fun _ _ => rfl)))
   (bk_one ok (ex_asg ok hj (by first | exact ev_local ok rfl rfl rfl | exact ev_cell ok rfl rfl rfl | exact ev_free ok rfl rfl rfl rfl) rfl (by first | exact .inl rfl | exact .inr rfl) (fun _ _ => rfl)))))))))
  (bk_one ok (ex_return ok (by first | exact ev_local ok rfl rfl rfl | exact ev_cell ok rfl rfl rfl | exact ev_free ok rfl rfl rfl rfl))))))

set_option maxHeartbeats 8000000 in
theorem bk_key {W : Wd} (ok : WdOk W) {n : Nat} {g_key : Addr} :
    BkOk W n (scopeAt pw_ec5002_01 4) (vmOf v_key) (bodyAt pw_ec5002_01 4) (t_key W.B g_key) := by
  have hj : VInj (vmOf v_key) := vinj_of (by decide +kernel)
  exact (bk_one ok (ex_return ok (ev_idx ok (by first | exact ev_local ok rfl rfl rfl | exact ev_cell ok rfl rfl rfl | exact ev_free ok rfl rfl rfl rfl) (ev_int ok) (fun _ _ => rfl))))

set_option maxHeartbeats 8000000 in
theorem bk_set {W : Wd} (ok : WdOk W) {n : Nat} {g_bis g_key : Addr}
    (d_bis : DefAt W "bisect_left" g_bis)
    (h_bis3 : FkOk W n (.ref g_bis) "key" (f_bis3 W.B g_key))
    (d_key : DefAt W "_law_key" g_key)
    (g_len : GlobAt W "len" (.builtin "len")) :
    BkOk W n (scopeAt pw_ec5002_01 5) (vmOf v_set) (bodyAt pw_ec5002_01 5) (t_set W.B g_key) := by
  have hj : VInj (vmOf v_set) := vinj_of (by decide +kernel)
  exact (bk_cons ok (ex_asg ok hj (ev_defK ok d_bis rfl rfl (es_cons ok (by first | exact ev_local ok rfl rfl rfl | exact ev_cell ok rfl rfl rfl | exact ev_free ok rfl rfl rfl rfl) (es_cons ok (by first | exact ev_local ok rfl rfl rfl | exact ev_cell ok rfl rfl rfl | exact ev_free ok rfl rfl rfl rfl) (es_nil ok) (fun _ => rfl)) (fun _ => rfl)) (ev_glob ok d_key.g rfl rfl) h_bis3 (fun _ => rfl)) rfl (by first | exact .inl rfl | exact .inr rfl) (fun _ _ => rfl))
  (bk_one ok (ex_if ok (ts_and2 ok (ts_cmp ok cm_lt (by first | exact ev_local ok rfl rfl rfl | exact ev_cell ok rfl rfl rfl | exact ev_free ok rfl rfl rfl rfl) (ev_callB ok (.inl ⟨_, rfl⟩) g_len rfl rfl (es_cons ok (by first | exact ev_local ok rfl rfl rfl | exact ev_cell ok rfl rfl rfl | exact ev_free ok rfl rfl rfl rfl) (es_nil ok) (fun _ => rfl)) (fo_len ok) (fun _ => rfl) (fun _ _ => rfl)) rfl) (ts_cmp ok cm_eqI (ev_idx ok (ev_idx ok (by first | exact ev_local ok rfl rfl rfl | exact ev_cell ok rfl rfl rfl | exact ev_free ok rfl rfl rfl rfl) (by first | exact ev_local ok rfl rfl rfl | exact ev_cell ok rfl rfl rfl | exact ev_free ok rfl rfl rfl rfl) (fun _ _ => rfl)) (ev_int ok) (fun _ _ => rfl)) (by first | exact ev_local ok rfl rfl rfl | exact ev_cell ok rfl rfl rfl | exact ev_free ok rfl rfl rfl rfl) rfl))
   (bk_one ok (ex_setidx ok (by first | exact ev_local ok rfl rfl rfl | exact ev_cell ok rfl rfl rfl | exact ev_free ok rfl rfl rfl rfl) (by first | exact ev_local ok rfl rfl rfl | exact ev_cell ok rfl rfl rfl | exact ev_free ok rfl rfl rfl rfl) (ev_list ok (es_cons ok (by first | exact ev_local ok rfl rfl rfl | exact ev_cell ok rfl rfl rfl | exact ev_free ok rfl rfl rfl rfl) (es_cons ok (by first | exact ev_local ok rfl rfl rfl | exact ev_cell ok rfl rfl rfl | exact ev_free ok rfl rfl rfl rfl) (es_nil ok) (fun _ => rfl)) (fun _ => rfl))) (fun _ _ => rfl)))
   (bk_one ok (ex_expr ok (ev_meth ok F.slot_list_insert F.type_list_insert (fun _ => rfl) (fun _ => rfl) rfl (by first | exact ev_local ok rfl rfl rfl | exact ev_cell ok rfl rfl rfl | exact ev_free ok rfl rfl rfl rfl) (es_cons ok (by first | exact ev_local ok rfl rfl rfl | exact ev_cell ok rfl rfl rfl | exact ev_free ok rfl rfl rfl rfl) (es_cons ok (ev_list ok (es_cons ok (by first | exact ev_local ok rfl rfl rfl | exact ev_cell ok rfl rfl rfl | exact ev_free ok rfl rfl rfl rfl) (es_cons ok (by first | exact ev_local ok rfl rfl rfl | exact ev_cell ok rfl rfl rfl | exact ev_free ok rfl rfl rfl rfl) (es_nil ok) (fun _ => rfl)) (fun _ => rfl))) (es_nil ok) (fun _ => rfl)) (fun _ => rfl)) (fo_insert ok) (fun _ => rfl) (fun _ _ => rfl)) (fun _ => rfl))))))

set_option maxHeartbeats 8000000 in
theorem bk_find {W : Wd} (ok : WdOk W) {n : Nat} {g_bis g_key : Addr}
    (d_bis : DefAt W "bisect_left" g_bis)
    (h_bis3 : FkOk W n (.ref g_bis) "key" (f_bis3 W.B g_key))
    (d_key : DefAt W "_law_key" g_key)
    (g_len : GlobAt W "len" (.builtin "len")) :
    BkOk W n (scopeAt pw_ec5002_01 6) (vmOf v_find) (bodyAt pw_ec5002_01 6) (t_find W.B g_key) := by
  have hj : VInj (vmOf v_find) := vinj_of (by decide +kernel)
  exact (bk_cons ok (ex_asg ok hj (ev_defK ok d_bis rfl rfl (es_cons ok (by first | exact ev_local ok rfl rfl rfl | exact ev_cell ok rfl rfl rfl | exact ev_free ok rfl rfl rfl rfl) (es_cons ok (by first | exact ev_local ok rfl rfl rfl | exact ev_cell ok rfl rfl rfl | exact ev_free ok rfl rfl rfl rfl) (es_nil ok) (fun _ => rfl)) (fun _ => rfl)) (ev_glob ok d_key.g rfl rfl) h_bis3 (fun _ => rfl)) rfl (by first | exact .inl rfl | exact .inr rfl) (fun _ _ => rfl))
  (bk_cons ok (ex_if ok (ts_and2 ok (ts_cmp ok cm_lt (by first | exact ev_local ok rfl rfl rfl | exact ev_cell ok rfl rfl rfl | exact ev_free ok rfl rfl rfl rfl) (ev_callB ok (.inl ⟨_, rfl⟩) g_len rfl rfl (es_cons ok (by first | exact ev_local ok rfl rfl rfl | exact ev_cell ok rfl rfl rfl | exact ev_free ok rfl rfl rfl rfl) (es_nil ok) (fun _ => rfl)) (fo_len ok) (fun _ => rfl) (fun _ _ => rfl)) rfl) (ts_cmp ok cm_eqI (ev_idx ok (ev_idx ok (by first | exact ev_local ok rfl rfl rfl | exact ev_cell ok rfl rfl rfl | exact ev_free ok rfl rfl rfl rfl) (by first | exact ev_local ok rfl rfl rfl | exact ev_cell ok rfl rfl rfl | exact ev_free ok rfl rfl rfl rfl) (fun _ _ => rfl)) (ev_int ok) (fun _ _ => rfl)) (by first | exact ev_local ok rfl rfl rfl | exact ev_cell ok rfl rfl rfl | exact ev_free ok rfl rfl rfl rfl) rfl))
   (bk_one ok (ex_return ok (ev_idx ok (by first | exact ev_local ok rfl rfl rfl | exact ev_cell ok rfl rfl rfl | exact ev_free ok rfl rfl rfl rfl) (by first | exact ev_local ok rfl rfl rfl | exact ev_cell ok rfl rfl rfl | exact ev_free ok rfl rfl rfl rfl) (fun _ _ => rfl))))
   (bk_nil ok))
  (bk_one ok (ex_return ok (ev_list ok (es_nil ok))))))

set_option maxHeartbeats 8000000 in
theorem bk_get {W : Wd} (ok : WdOk W) {n : Nat} {g_find g_key : Addr}
    (d_find : DefAt W "_law_find" g_find)
    (h_find : FOk W n (.ref g_find) (f_find W.B g_key)) :
    BkOk W n (scopeAt pw_ec5002_01 7) (vmOf v_get) (bodyAt pw_ec5002_01 7) (t_get W.B g_key) := by
  have hj : VInj (vmOf v_get) := vinj_of (by decide +kernel)
  exact (bk_cons ok (ex_for ok (it_list ok (by first | exact ev_local ok rfl rfl rfl | exact ev_cell ok rfl rfl rfl | exact ev_free ok rfl rfl rfl rfl)) (as_name ok hj rfl (by first | exact .inl rfl | exact .inr rfl))
   (bk_cons ok (ex_asg ok hj (ev_def ok d_find rfl rfl (es_cons ok (by first | exact ev_local ok rfl rfl rfl | exact ev_cell ok rfl rfl rfl | exact ev_free ok rfl rfl rfl rfl) (es_cons ok (by first | exact ev_local ok rfl rfl rfl | exact ev_cell ok rfl rfl rfl | exact ev_free ok rfl rfl rfl rfl) (es_nil ok) (fun _ => rfl)) (fun _ => rfl)) h_find (fun _ => rfl)) rfl (by first | exact .inl rfl | exact .inr rfl) (fun _ _ => rfl))
  (bk_one ok (ex_if ok (ts_cmp ok cm_neD (by first | exact ev_local ok rfl rfl rfl | exact ev_cell ok rfl rfl rfl | exact ev_free ok rfl rfl rfl rfl) (ev_list ok (es_nil ok)) rfl)
   (bk_one ok (ex_return ok (ev_idx ok (by first | exact ev_local ok rfl rfl rfl | exact ev_cell ok rfl rfl rfl | exact ev_free ok rfl rfl rfl rfl) (ev_int ok) (fun _ _ => rfl))))
   (bk_nil ok)))) lg_name (fun _ _ => rfl))
  (bk_one ok (ex_return ok (ev_none ok))))

set_option maxHeartbeats 8000000 in
theorem bk_scan {W : Wd} (ok : WdOk W) {n : Nat} {g_bis g_key g_find g_set : Addr}
    (d_bis : DefAt W "bisect_left" g_bis)
    (h_bis3 : FkOk W n (.ref g_bis) "key" (f_bis3 W.B g_key))
    (h_bis4 : FkOk W n (.ref g_bis) "key" (f_bis4 W.B g_key))
    (d_key : DefAt W "_law_key" g_key)
    (d_find : DefAt W "_law_find" g_find)
    (h_find : FOk W n (.ref g_find) (f_find W.B g_key))
    (d_set : DefAt W "_law_set" g_set)
    (h_set : FOk W n (.ref g_set) (f_set W.B g_key)) :
    BkOk W n (scopeAt pw_ec5002_01 8) (vmOf v_scan) (bodyAt pw_ec5002_01 8) (t_scan W.B g_key) := by
  have hj : VInj (vmOf v_scan) := vinj_of (by decide +kernel)
  exact (bk_cons ok (ex_asg ok hj (ev_list ok (es_nil ok)) rfl (by first | exact .inl rfl | exact .inr rfl) (fun _ _ => rfl))
  (bk_cons ok (ex_for ok (it_list ok (by first | exact ev_local ok rfl rfl rfl | exact ev_cell ok rfl rfl rfl | exact ev_free ok rfl rfl rfl rfl)) (as_name ok hj rfl (by first | exact .inl rfl | exact .inr rfl))
   (bk_cons ok (ex_asg ok hj (ev_defK ok d_bis rfl rfl (es_cons ok (by first | exact ev_local ok rfl rfl rfl | exact ev_cell ok rfl rfl rfl | exact ev_free ok rfl rfl rfl rfl) (es_cons ok (by first | exact ev_local ok rfl rfl rfl | exact ev_cell ok rfl rfl rfl | exact ev_free ok rfl rfl rfl rfl) (es_nil ok) (fun _ => rfl)) (fun _ => rfl)) (ev_glob ok d_key.g rfl rfl) h_bis3 (fun _ => rfl)) rfl (by first | exact .inl rfl | exact .inr rfl) (fun _ _ => rfl))
  (bk_cons ok (ex_asg ok hj (ev_defK ok d_bis rfl rfl (es_cons ok (by first | exact ev_local ok rfl rfl rfl | exact ev_cell ok rfl rfl rfl | exact ev_free ok rfl rfl rfl rfl) (es_cons ok (by first | exact ev_local ok rfl rfl rfl | exact ev_cell ok rfl rfl rfl | exact ev_free ok rfl rfl rfl rfl) (es_cons ok (by first | exact ev_local ok rfl rfl rfl | exact ev_cell ok rfl rfl rfl | exact ev_free ok rfl rfl rfl rfl) (es_nil ok) (fun _ => rfl)) (fun _ => rfl)) (fun _ => rfl)) (ev_glob ok d_key.g rfl rfl) h_bis4 (fun _ => rfl)) rfl (by first | exact .inl rfl | exact .inr rfl) (fun _ _ => rfl))
  (bk_one ok (ex_for ok (it_list ok (ev_slice ok (by first | exact ev_local ok rfl rfl rfl | exact ev_cell ok rfl rfl rfl | exact ev_free ok rfl rfl rfl rfl) (by first | exact ev_local ok rfl rfl rfl | exact ev_cell ok rfl rfl rfl | exact ev_free ok rfl rfl rfl rfl) (by first | exact ev_local ok rfl rfl rfl | exact ev_cell ok rfl rfl rfl | exact ev_free ok rfl rfl rfl rfl))) (as_name ok hj rfl (by first | exact .inl rfl | exact .inr rfl))
   (bk_one ok (ex_if ok (ts_cmp ok cm_eqD (ev_def ok d_find rfl rfl (es_cons ok (by first | exact ev_local ok rfl rfl rfl | exact ev_cell ok rfl rfl rfl | exact ev_free ok rfl rfl rfl rfl) (es_cons ok (ev_idx ok (by first | exact ev_local ok rfl rfl rfl | exact ev_cell ok rfl rfl rfl | exact ev_free ok rfl rfl rfl rfl) (ev_int ok) (fun _ _ => rfl)) (es_nil ok) (fun _ => rfl)) (fun _ => rfl)) h_find (fun _ => rfl)) (ev_list ok (es_nil ok)) rfl)
   (bk_one ok (ex_expr ok (ev_def ok d_set rfl rfl (es_cons ok (by first | exact ev_local ok rfl rfl rfl | exact ev_cell ok rfl rfl rfl | exact ev_free ok rfl rfl rfl rfl) (es_cons ok (ev_idx ok (by first | exact ev_local ok rfl rfl rfl | exact ev_cell ok rfl rfl rfl | exact ev_free ok rfl rfl rfl rfl) (ev_int ok) (fun _ _ => rfl)) (es_cons ok (ev_idx ok (by first | exact ev_local ok rfl rfl rfl | exact ev_cell ok rfl rfl rfl | exact ev_free ok rfl rfl rfl rfl) (ev_int ok) (fun _ _ => rfl)) (es_nil ok) (fun _ => rfl)) (fun _ => rfl)) (fun _ => rfl)) h_set (fun _ => rfl)) (fun _ => rfl)))
   (bk_nil ok))) lg_name (fun _ _ => rfl))))) lg_name (fun _ _ => rfl))
  (bk_one ok (ex_return ok (ev_comp' ok (by decide +kernel) (it_list ok (by first | exact ev_local ok rfl rfl rfl | exact ev_cell ok rfl rfl rfl | exact ev_free ok rfl rfl rfl rfl)) (tst_one (ts_cmp ok cm_isNotN (ev_idx ok (by first | exact ev_local ok rfl rfl rfl | exact ev_cell ok rfl rfl rfl | exact ev_free ok rfl rfl rfl rfl) (ev_int ok) (fun _ _ => rfl)) (ev_none ok) rfl)) (by first | exact ev_local ok rfl rfl rfl | exact ev_cell ok rfl rfl rfl | exact ev_free ok rfl rfl rfl rfl) (fun _ _ => rfl))))))

set_option maxHeartbeats 8000000 in
theorem bk_merge {W : Wd} (ok : WdOk W) {n : Nat} {g_set g_key : Addr}
    (g_list : GlobAt W "list" (.type "list"))
    (d_set : DefAt W "_law_set" g_set)
    (h_set : FOk W n (.ref g_set) (f_set W.B g_key)) :
    BkOk W n (scopeAt pw_ec5002_01 9) (vmOf v_merge) (bodyAt pw_ec5002_01 9) (t_merge W.B g_key) := by
  have hj : VInj (vmOf v_merge) := vinj_of (by decide +kernel)
  exact (bk_cons ok (ex_asgcomp' ok (by decide +kernel) hj (it_list ok (by first | exact ev_local ok rfl rfl rfl | exact ev_cell ok rfl rfl rfl | exact ev_free ok rfl rfl rfl rfl)) tst_nil (ev_callB ok (.inr ⟨_, rfl⟩) g_list rfl rfl (es_cons ok (by first | exact ev_local ok rfl rfl rfl | exact ev_cell ok rfl rfl rfl | exact ev_free ok rfl rfl rfl rfl) (es_nil ok) (fun _ => rfl)) (fo_list ok) (fun _ => rfl) (fun _ _ => rfl)) (fun _ _ => rfl) rfl rfl (fun _ h => by unfold swapsWith; simp only [Env.blockKind, Env.kindOf, h]; rfl))
  (bk_cons ok (ex_for ok (it_list ok (by first | exact ev_local ok rfl rfl rfl | exact ev_cell ok rfl rfl rfl | exact ev_free ok rfl rfl rfl rfl)) (as_name ok hj rfl (by first | exact .inl rfl | exact .inr rfl))
   (bk_one ok (ex_expr ok (ev_def ok d_set rfl rfl (es_cons ok (by first | exact ev_local ok rfl rfl rfl | exact ev_cell ok rfl rfl rfl | exact ev_free ok rfl rfl rfl rfl) (es_cons ok (ev_idx ok (by first | exact ev_local ok rfl rfl rfl | exact ev_cell ok rfl rfl rfl | exact ev_free ok rfl rfl rfl rfl) (ev_int ok) (fun _ _ => rfl)) (es_cons ok (ev_idx ok (by first | exact ev_local ok rfl rfl rfl | exact ev_cell ok rfl rfl rfl | exact ev_free ok rfl rfl rfl rfl) (ev_int ok) (fun _ _ => rfl)) (es_nil ok) (fun _ => rfl)) (fun _ => rfl)) (fun _ => rfl)) h_set (fun _ => rfl)) (fun _ => rfl))) lg_name (fun _ _ => rfl))
  (bk_one ok (ex_return ok (ev_ifx ok (ts_bool ok (by first | exact ev_local ok rfl rfl rfl | exact ev_cell ok rfl rfl rfl | exact ev_free ok rfl rfl rfl rfl) (fun _ => rfl)) (ev_comp' ok (by decide +kernel) (it_list ok (by first | exact ev_local ok rfl rfl rfl | exact ev_cell ok rfl rfl rfl | exact ev_free ok rfl rfl rfl rfl)) (tst_one (ts_cmp ok cm_isNotN (ev_idx ok (by first | exact ev_local ok rfl rfl rfl | exact ev_cell ok rfl rfl rfl | exact ev_free ok rfl rfl rfl rfl) (ev_int ok) (fun _ _ => rfl)) (ev_none ok) rfl)) (by first | exact ev_local ok rfl rfl rfl | exact ev_cell ok rfl rfl rfl | exact ev_free ok rfl rfl rfl rfl) (fun _ _ => rfl)) (by first | exact ev_local ok rfl rfl rfl | exact ev_cell ok rfl rfl rfl | exact ev_free ok rfl rfl rfl rfl))))))

set_option maxHeartbeats 8000000 in
theorem bk_rising {W : Wd} (ok : WdOk W) {n : Nat} {g_key : Addr}
    (g_range : GlobAt W "range" (.type "range"))
    (g_len : GlobAt W "len" (.builtin "len")) :
    BkOk W n (scopeAt pw_ec5002_01 10) (vmOf v_rising) (bodyAt pw_ec5002_01 10) (t_rising W.B g_key) := by
  have hj : VInj (vmOf v_rising) := vinj_of (by decide +kernel)
  exact (bk_one ok (ex_return ok (ev_cmp ok cm_eqD (ev_comp' ok (by decide +kernel) (it_range2 ok g_range rfl rfl (es_cons ok (ev_int ok) (es_cons ok (ev_callB ok (.inl ⟨_, rfl⟩) g_len rfl rfl (es_cons ok (by first | exact ev_local ok rfl rfl rfl | exact ev_cell ok rfl rfl rfl | exact ev_free ok rfl rfl rfl rfl) (es_nil ok) (fun _ => rfl)) (fo_len ok) (fun _ => rfl) (fun _ _ => rfl)) (es_nil ok) (fun _ => rfl)) (fun _ => rfl)) (fun _ => rfl) (fun _ => rfl)) (tst_one (ts_cmp ok cm_ge (ev_idx ok (ev_idx ok (by first | exact ev_local ok rfl rfl rfl | exact ev_cell ok rfl rfl rfl | exact ev_free ok rfl rfl rfl rfl) (ev_bin ok op_sub (by first | exact ev_local ok rfl rfl rfl | exact ev_cell ok rfl rfl rfl | exact ev_free ok rfl rfl rfl rfl) (ev_int ok)) (fun _ _ => rfl)) (ev_int ok) (fun _ _ => rfl)) (ev_idx ok (ev_idx ok (by first | exact ev_local ok rfl rfl rfl | exact ev_cell ok rfl rfl rfl | exact ev_free ok rfl rfl rfl rfl) (by first | exact ev_local ok rfl rfl rfl | exact ev_cell ok rfl rfl rfl | exact ev_free ok rfl rfl rfl rfl) (fun _ _ => rfl)) (ev_int ok) (fun _ _ => rfl)) rfl)) (by first | exact ev_local ok rfl rfl rfl | exact ev_cell ok rfl rfl rfl | exact ev_free ok rfl rfl rfl rfl) (fun _ _ => rfl)) (ev_list ok (es_nil ok)) rfl)))

set_option maxHeartbeats 8000000 in
theorem bk_due {W : Wd} (ok : WdOk W) {n : Nat} {g_key : Addr}
    (g_sorted : GlobAt W "sorted" (.builtin "sorted")) :
    BkOk W n (scopeAt pw_ec5002_01 11) (vmOf v_due) (bodyAt pw_ec5002_01 11) (t_due W.B g_key) := by
  have hj : VInj (vmOf v_due) := vinj_of (by decide +kernel)
  exact (bk_one ok (ex_return ok (ev_comp' ok (by decide +kernel) (it_list ok (ev_callB ok (.inl ⟨_, rfl⟩) g_sorted rfl rfl (es_cons ok (by first | exact ev_local ok rfl rfl rfl | exact ev_cell ok rfl rfl rfl | exact ev_free ok rfl rfl rfl rfl) (es_nil ok) (fun _ => rfl)) (fo_sortedD ok) (fun _ => rfl) (fun _ _ => rfl))) (tst_one (ts_and2 ok (ts_cmp ok cm_le (by first | exact ev_local ok rfl rfl rfl | exact ev_cell ok rfl rfl rfl | exact ev_free ok rfl rfl rfl rfl) (by first | exact ev_local ok rfl rfl rfl | exact ev_cell ok rfl rfl rfl | exact ev_free ok rfl rfl rfl rfl) rfl) (ts_cmp ok cm_lt (by first | exact ev_local ok rfl rfl rfl | exact ev_cell ok rfl rfl rfl | exact ev_free ok rfl rfl rfl rfl) (by first | exact ev_local ok rfl rfl rfl | exact ev_cell ok rfl rfl rfl | exact ev_free ok rfl rfl rfl rfl) rfl))) (ev_list ok (es_cons ok (by first | exact ev_local ok rfl rfl rfl | exact ev_cell ok rfl rfl rfl | exact ev_free ok rfl rfl rfl rfl) (es_cons ok (ev_idxD ok (by first | exact ev_local ok rfl rfl rfl | exact ev_cell ok rfl rfl rfl | exact ev_free ok rfl rfl rfl rfl) (by first | exact ev_local ok rfl rfl rfl | exact ev_cell ok rfl rfl rfl | exact ev_free ok rfl rfl rfl rfl) (fun _ _ => rfl)) (es_nil ok) (fun _ => rfl)) (fun _ => rfl))) (fun _ _ => rfl))))

set_option maxHeartbeats 8000000 in
theorem bk_law {W : Wd} (ok : WdOk W) {n : Nat} {a_TAIL g_merge g_due g_set g_get g_scan g_rising g_key : Addr}
    (g_list : GlobAt W "list" (.type "list"))
    (g_TAIL : GlobAt W "_law_TAIL" (.ref a_TAIL))
    (g_range : GlobAt W "range" (.type "range"))
    (d_merge : DefAt W "_law_merge" g_merge)
    (h_merge : FOk W n (.ref g_merge) (f_merge W.B g_key))
    (d_due : DefAt W "_law_due" g_due)
    (h_due : FOk W n (.ref g_due) (f_due W.B g_key))
    (g_len : GlobAt W "len" (.builtin "len"))
    (g_abs : GlobAt W "abs" (.builtin "abs"))
    (d_set : DefAt W "_law_set" g_set)
    (h_set : FOk W n (.ref g_set) (f_set W.B g_key))
    (g_min : GlobAt W "min" (.builtin "min"))
    (g_max : GlobAt W "max" (.builtin "max"))
    (d_get : DefAt W "_law_get" g_get)
    (h_get : FOk W n (.ref g_get) (f_get W.B g_key))
    (d_scan : DefAt W "_law_scan" g_scan)
    (h_scan : FOk W n (.ref g_scan) (f_scan W.B g_key))
    (d_rising : DefAt W "_law_rising" g_rising)
    (h_rising : FOk W n (.ref g_rising) (f_rising W.B g_key)) :
    BkOk W n (scopeAt pw_ec5002_01 12) (vmOf v_law) (bodyAt pw_ec5002_01 12) (t_law W.B g_key a_TAIL) := by
  have hj : VInj (vmOf v_law) := vinj_of (by decide +kernel)
  exact (bk_cons ok (ex_asg ok hj (ev_callB ok (.inr ⟨_, rfl⟩) g_list rfl rfl (es_cons ok (ev_slice ok (by first | exact ev_local ok rfl rfl rfl | exact ev_cell ok rfl rfl rfl | exact ev_free ok rfl rfl rfl rfl) trivial (ev_int ok)) (es_nil ok) (fun _ => rfl)) (fo_list ok) (fun _ => rfl) (fun _ _ => rfl)) rfl (by first | exact .inl rfl | exact .inr rfl) (fun _ _ => rfl))
  (bk_cons ok (ex_asg ok hj (ev_bin ok (op_addL ok) (ev_slice ok (by first | exact ev_local ok rfl rfl rfl | exact ev_cell ok rfl rfl rfl | exact ev_free ok rfl rfl rfl rfl) trivial (ev_bin ok op_mul (ev_bin ok op_fdiv (ev_callB ok (.inl ⟨_, rfl⟩) g_len rfl rfl (es_cons ok (by first | exact ev_local ok rfl rfl rfl | exact ev_cell ok rfl rfl rfl | exact ev_free ok rfl rfl rfl rfl) (es_nil ok) (fun _ => rfl)) (fo_len ok) (fun _ => rfl) (fun _ _ => rfl)) (ev_int ok)) (ev_int ok))) (ev_glob ok g_TAIL rfl rfl)) rfl (by first | exact .inl rfl | exact .inr rfl) (fun _ _ => rfl))
  (bk_cons ok (ex_asg ok hj (ev_list ok (es_nil ok)) rfl (by first | exact .inl rfl | exact .inr rfl) (fun _ _ => rfl))
  (bk_cons ok (ex_asg ok hj (ev_list ok (es_nil ok)) rfl (by first | exact .inl rfl | exact .inr rfl) (fun _ _ => rfl))
  (bk_cons ok (ex_asg ok hj (ev_dict0I ok (sys_lt ok g_range)) rfl (by first | exact .inl rfl | exact .inr rfl) (fun _ _ => rfl))
  (bk_cons ok (ex_for ok (it_range1 ok g_range rfl rfl (es_cons ok (ev_bin ok op_fdiv (ev_callB ok (.inl ⟨_, rfl⟩) g_len rfl rfl (es_cons ok (by first | exact ev_local ok rfl rfl rfl | exact ev_cell ok rfl rfl rfl | exact ev_free ok rfl rfl rfl rfl) (es_nil ok) (fun _ => rfl)) (fo_len ok) (fun _ => rfl) (fun _ _ => rfl)) (ev_int ok)) (es_nil ok) (fun _ => rfl)) (fun _ => rfl)) (as_name ok hj rfl (by first | exact .inl rfl | exact .inr rfl))
   (bk_cons ok (ex_asgT ok (ev_slice ok (by first | exact ev_local ok rfl rfl rfl | exact ev_cell ok rfl rfl rfl | exact ev_free ok rfl rfl rfl rfl) (ev_bin ok op_mul (ev_int ok) (by first | exact ev_local ok rfl rfl rfl | exact ev_cell ok rfl rfl rfl | exact ev_free ok rfl rfl rfl rfl)) (ev_bin ok op_add (ev_bin ok op_mul (ev_int ok) (by first | exact ev_local ok rfl rfl rfl | exact ev_cell ok rfl rfl rfl | exact ev_free ok rfl rfl rfl rfl)) (ev_int ok))) (as_tuple ok hj (fun _ => rfl) (fun _ => rfl) (asl_cons ok hj rfl (by first | exact .inl rfl | exact .inr rfl) (asl_cons ok hj rfl (by first | exact .inl rfl | exact .inr rfl) (asl_cons ok hj rfl (by first | exact .inl rfl | exact .inr rfl) (fun _ _ _ _ _ _ _ _ st q => asl_nil st q))))) (fun _ _ => rfl) (fun _ _ => rfl))
  (bk_cons ok (ex_asg ok hj (ev_bin ok op_fmod (by first | exact ev_local ok rfl rfl rfl | exact ev_cell ok rfl rfl rfl | exact ev_free ok rfl rfl rfl rfl) (ev_int ok)) rfl (by first | exact .inl rfl | exact .inr rfl) (fun _ _ => rfl))
  (bk_cons ok (ex_asg ok hj (ev_bin ok op_fmod (ev_callB ok (.inl ⟨_, rfl⟩) g_abs rfl rfl (es_cons ok (by first | exact ev_local ok rfl rfl rfl | exact ev_cell ok rfl rfl rfl | exact ev_free ok rfl rfl rfl rfl) (es_nil ok) (fun _ => rfl)) (fo_abs ok) (fun _ => rfl) (fun _ _ => rfl)) (ev_int ok)) rfl (by first | exact .inl rfl | exact .inr rfl) (fun _ _ => rfl))
  (bk_cons ok (ex_if ok (ts_cmp ok cm_lt (by first | exact ev_local ok rfl rfl rfl | exact ev_cell ok rfl rfl rfl | exact ev_free ok rfl rfl rfl rfl) (ev_int ok) rfl)
   (bk_cons ok (ex_expr ok (ev_def ok d_set rfl rfl (es_cons ok (by first | exact ev_local ok rfl rfl rfl | exact ev_cell ok rfl rfl rfl | exact ev_free ok rfl rfl rfl rfl) (es_cons ok (by first | exact ev_local ok rfl rfl rfl | exact ev_cell ok rfl rfl rfl | exact ev_free ok rfl rfl rfl rfl) (es_cons ok (by first | exact ev_local ok rfl rfl rfl | exact ev_cell ok rfl rfl rfl | exact ev_free ok rfl rfl rfl rfl) (es_nil ok) (fun _ => rfl)) (fun _ => rfl)) (fun _ => rfl)) h_set (fun _ => rfl)) (fun _ => rfl))
  (bk_one ok (ex_setidxD ok (by first | exact ev_local ok rfl rfl rfl | exact ev_cell ok rfl rfl rfl | exact ev_free ok rfl rfl rfl rfl) (by first | exact ev_local ok rfl rfl rfl | exact ev_cell ok rfl rfl rfl | exact ev_free ok rfl rfl rfl rfl) (by first | exact ev_local ok rfl rfl rfl | exact ev_cell ok rfl rfl rfl | exact ev_free ok rfl rfl rfl rfl) (fun _ _ => rfl))))
   (bk_nil ok))
  (bk_cons ok (ex_if ok (ts_cmp ok cm_eqI (by first | exact ev_local ok rfl rfl rfl | exact ev_cell ok rfl rfl rfl | exact ev_free ok rfl rfl rfl rfl) (ev_int ok) rfl)
   (bk_cons ok (ex_expr ok (ev_def ok d_set rfl rfl (es_cons ok (by first | exact ev_local ok rfl rfl rfl | exact ev_cell ok rfl rfl rfl | exact ev_free ok rfl rfl rfl rfl) (es_cons ok (by first | exact ev_local ok rfl rfl rfl | exact ev_cell ok rfl rfl rfl | exact ev_free ok rfl rfl rfl rfl) (es_cons ok (ev_none ok) (es_nil ok) (fun _ => rfl)) (fun _ => rfl)) (fun _ => rfl)) h_set (fun _ => rfl)) (fun _ => rfl))
  (bk_one ok (ex_if ok (ts_cmp ok cm_inD (by first | exact ev_local ok rfl rfl rfl | exact ev_cell ok rfl rfl rfl | exact ev_free ok rfl rfl rfl rfl) (by first | exact ev_local ok rfl rfl rfl | exact ev_cell ok rfl rfl rfl | exact ev_free ok rfl rfl rfl rfl) rfl)
   (bk_one ok (ex_expr ok (ev_methD ok F.slot_dict_pop F.type_dict_pop (fun _ => rfl) (fun _ => rfl) rfl (by first | exact ev_local ok rfl rfl rfl | exact ev_cell ok rfl rfl rfl | exact ev_free ok rfl rfl rfl rfl) (es_cons ok (by first | exact ev_local ok rfl rfl rfl | exact ev_cell ok rfl rfl rfl | exact ev_free ok rfl rfl rfl rfl) (es_nil ok) (fun _ => rfl)) (fo_dpop ok) (fun _ => rfl) (fun _ _ => rfl)) (fun _ => rfl)))
   (bk_nil ok))))
   (bk_nil ok))
  (bk_cons ok (ex_if ok (ts_and2 ok (ts_cmp ok cm_eqI (by first | exact ev_local ok rfl rfl rfl | exact ev_cell ok rfl rfl rfl | exact ev_free ok rfl rfl rfl rfl) (ev_int ok) rfl) (ts_cmp ok cm_neD (by first | exact ev_local ok rfl rfl rfl | exact ev_cell ok rfl rfl rfl | exact ev_free ok rfl rfl rfl rfl) (ev_list ok (es_nil ok)) rfl))
   (bk_cons ok (ex_asg ok hj (ev_bin ok (op_addL ok) (ev_list ok (es_cons ok (by first | exact ev_local ok rfl rfl rfl | exact ev_cell ok rfl rfl rfl | exact ev_free ok rfl rfl rfl rfl) (es_nil ok) (fun _ => rfl))) (by first | exact ev_local ok rfl rfl rfl | exact ev_cell ok rfl rfl rfl | exact ev_free ok rfl rfl rfl rfl)) rfl (by first | exact .inl rfl | exact .inr rfl) (fun _ _ => rfl))
  (bk_one ok (ex_asg ok hj (ev_list ok (es_nil ok)) rfl (by first | exact .inl rfl | exact .inr rfl) (fun _ _ => rfl))))
   (bk_nil ok))
  (bk_cons ok (ex_if ok (ts_and2 ok (ts_cmp ok cm_eqI (by first | exact ev_local ok rfl rfl rfl | exact ev_cell ok rfl rfl rfl | exact ev_free ok rfl rfl rfl rfl) (ev_int ok) rfl) (ts_cmp ok cm_gt (ev_callB ok (.inl ⟨_, rfl⟩) g_len rfl rfl (es_cons ok (by first | exact ev_local ok rfl rfl rfl | exact ev_cell ok rfl rfl rfl | exact ev_free ok rfl rfl rfl rfl) (es_nil ok) (fun _ => rfl)) (fo_len ok) (fun _ => rfl) (fun _ _ => rfl)) (ev_int ok) rfl))
   (bk_cons ok (ex_asg ok hj (ev_bin ok op_fmod (ev_callB ok (.inl ⟨_, rfl⟩) g_abs rfl rfl (es_cons ok (by first | exact ev_local ok rfl rfl rfl | exact ev_cell ok rfl rfl rfl | exact ev_free ok rfl rfl rfl rfl) (es_nil ok) (fun _ => rfl)) (fo_abs ok) (fun _ => rfl) (fun _ _ => rfl)) (ev_bin ok op_sub (ev_callB ok (.inl ⟨_, rfl⟩) g_len rfl rfl (es_cons ok (by first | exact ev_local ok rfl rfl rfl | exact ev_cell ok rfl rfl rfl | exact ev_free ok rfl rfl rfl rfl) (es_nil ok) (fun _ => rfl)) (fo_len ok) (fun _ => rfl) (fun _ _ => rfl)) (ev_int ok))) rfl (by first | exact .inl rfl | exact .inr rfl) (fun _ _ => rfl))
  (bk_one ok (ex_asg ok hj (ev_bin ok (op_addL ok) (ev_bin ok (op_addL ok) (ev_slice ok (by first | exact ev_local ok rfl rfl rfl | exact ev_cell ok rfl rfl rfl | exact ev_free ok rfl rfl rfl rfl) trivial (by first | exact ev_local ok rfl rfl rfl | exact ev_cell ok rfl rfl rfl | exact ev_free ok rfl rfl rfl rfl)) (ev_list ok (es_cons ok (ev_def ok d_merge rfl rfl (es_cons ok (ev_idx ok (by first | exact ev_local ok rfl rfl rfl | exact ev_cell ok rfl rfl rfl | exact ev_free ok rfl rfl rfl rfl) (by first | exact ev_local ok rfl rfl rfl | exact ev_cell ok rfl rfl rfl | exact ev_free ok rfl rfl rfl rfl) (fun _ _ => rfl)) (es_cons ok (ev_idx ok (by first | exact ev_local ok rfl rfl rfl | exact ev_cell ok rfl rfl rfl | exact ev_free ok rfl rfl rfl rfl) (ev_bin ok op_add (by first | exact ev_local ok rfl rfl rfl | exact ev_cell ok rfl rfl rfl | exact ev_free ok rfl rfl rfl rfl) (ev_int ok)) (fun _ _ => rfl)) (es_cons ok (ev_cmp ok cm_eqI (ev_bin ok op_add (by first | exact ev_local ok rfl rfl rfl | exact ev_cell ok rfl rfl rfl | exact ev_free ok rfl rfl rfl rfl) (ev_int ok)) (ev_callB ok (.inl ⟨_, rfl⟩) g_len rfl rfl (es_cons ok (by first | exact ev_local ok rfl rfl rfl | exact ev_cell ok rfl rfl rfl | exact ev_free ok rfl rfl rfl rfl) (es_nil ok) (fun _ => rfl)) (fo_len ok) (fun _ => rfl) (fun _ _ => rfl)) rfl) (es_nil ok) (fun _ => rfl)) (fun _ => rfl)) (fun _ => rfl)) h_merge (fun _ => rfl)) (es_nil ok) (fun _ => rfl)))) (ev_slice ok (by first | exact ev_local ok rfl rfl rfl | exact ev_cell ok rfl rfl rfl | exact ev_free ok rfl rfl rfl rfl) (ev_bin ok op_add (by first | exact ev_local ok rfl rfl rfl | exact ev_cell ok rfl rfl rfl | exact ev_free ok rfl rfl rfl rfl) (ev_int ok)) trivial)) rfl (by first | exact .inl rfl | exact .inr rfl) (fun _ _ => rfl))))
   (bk_nil ok))
  (bk_cons ok (ex_if ok (ts_cmp ok cm_eqI (by first | exact ev_local ok rfl rfl rfl | exact ev_cell ok rfl rfl rfl | exact ev_free ok rfl rfl rfl rfl) (ev_int ok) rfl)
   (bk_cons ok (ex_asg ok hj (ev_callB ok (.inl ⟨_, rfl⟩) g_min rfl rfl (es_cons ok (by first | exact ev_local ok rfl rfl rfl | exact ev_cell ok rfl rfl rfl | exact ev_free ok rfl rfl rfl rfl) (es_cons ok (ev_bin ok op_fmod (ev_callB ok (.inl ⟨_, rfl⟩) g_abs rfl rfl (es_cons ok (by first | exact ev_local ok rfl rfl rfl | exact ev_cell ok rfl rfl rfl | exact ev_free ok rfl rfl rfl rfl) (es_nil ok) (fun _ => rfl)) (fo_abs ok) (fun _ => rfl) (fun _ _ => rfl)) (ev_int ok)) (es_nil ok) (fun _ => rfl)) (fun _ => rfl)) (fo_min2 ok) (fun _ => rfl) (fun _ _ => rfl)) rfl (by first | exact .inl rfl | exact .inr rfl) (fun _ _ => rfl))
  (bk_cons ok (ex_asg ok hj (ev_callB ok (.inl ⟨_, rfl⟩) g_max rfl rfl (es_cons ok (by first | exact ev_local ok rfl rfl rfl | exact ev_cell ok rfl rfl rfl | exact ev_free ok rfl rfl rfl rfl) (es_cons ok (ev_bin ok op_fmod (ev_callB ok (.inl ⟨_, rfl⟩) g_abs rfl rfl (es_cons ok (by first | exact ev_local ok rfl rfl rfl | exact ev_cell ok rfl rfl rfl | exact ev_free ok rfl rfl rfl rfl) (es_nil ok) (fun _ => rfl)) (fo_abs ok) (fun _ => rfl) (fun _ _ => rfl)) (ev_int ok)) (es_nil ok) (fun _ => rfl)) (fun _ => rfl)) (fo_max2 ok) (fun _ => rfl) (fun _ _ => rfl)) rfl (by first | exact .inl rfl | exact .inr rfl) (fun _ _ => rfl))
  (bk_one ok (ex_if ok (ts_cmp ok cm_neD (ev_def ok d_scan rfl rfl (es_cons ok (ev_bin ok (op_addL ok) (ev_list ok (es_cons ok (by first | exact ev_local ok rfl rfl rfl | exact ev_cell ok rfl rfl rfl | exact ev_free ok rfl rfl rfl rfl) (es_nil ok) (fun _ => rfl))) (by first | exact ev_local ok rfl rfl rfl | exact ev_cell ok rfl rfl rfl | exact ev_free ok rfl rfl rfl rfl)) (es_cons ok (by first | exact ev_local ok rfl rfl rfl | exact ev_cell ok rfl rfl rfl | exact ev_free ok rfl rfl rfl rfl) (es_cons ok (by first | exact ev_local ok rfl rfl rfl | exact ev_cell ok rfl rfl rfl | exact ev_free ok rfl rfl rfl rfl) (es_nil ok) (fun _ => rfl)) (fun _ => rfl)) (fun _ => rfl)) h_scan (fun _ => rfl)) (ev_def ok d_due rfl rfl (es_cons ok (by first | exact ev_local ok rfl rfl rfl | exact ev_cell ok rfl rfl rfl | exact ev_free ok rfl rfl rfl rfl) (es_cons ok (by first | exact ev_local ok rfl rfl rfl | exact ev_cell ok rfl rfl rfl | exact ev_free ok rfl rfl rfl rfl) (es_cons ok (by first | exact ev_local ok rfl rfl rfl | exact ev_cell ok rfl rfl rfl | exact ev_free ok rfl rfl rfl rfl) (es_nil ok) (fun _ => rfl)) (fun _ => rfl)) (fun _ => rfl)) h_due (fun _ => rfl)) rfl)
   (bk_one ok (ex_return ok (ev_bool ok)))
   (bk_nil ok)))))
   (bk_nil ok))
  (bk_cons ok (ex_if ok (ts_cmp ok cm_neO (ev_def ok d_get rfl rfl (es_cons ok (ev_bin ok (op_addL ok) (ev_list ok (es_cons ok (by first | exact ev_local ok rfl rfl rfl | exact ev_cell ok rfl rfl rfl | exact ev_free ok rfl rfl rfl rfl) (es_nil ok) (fun _ => rfl))) (by first | exact ev_local ok rfl rfl rfl | exact ev_cell ok rfl rfl rfl | exact ev_free ok rfl rfl rfl rfl)) (es_cons ok (by first | exact ev_local ok rfl rfl rfl | exact ev_cell ok rfl rfl rfl | exact ev_free ok rfl rfl rfl rfl) (es_nil ok) (fun _ => rfl)) (fun _ => rfl)) h_get (fun _ => rfl)) (ev_methD ok F.slot_dict_get F.type_dict_get (fun _ => rfl) (fun _ => rfl) rfl (by first | exact ev_local ok rfl rfl rfl | exact ev_cell ok rfl rfl rfl | exact ev_free ok rfl rfl rfl rfl) (es_cons ok (by first | exact ev_local ok rfl rfl rfl | exact ev_cell ok rfl rfl rfl | exact ev_free ok rfl rfl rfl rfl) (es_nil ok) (fun _ => rfl)) (fo_dget ok) (fun _ => rfl) (fun _ _ => rfl)) rfl)
   (bk_one ok (ex_return ok (ev_bool ok)))
   (bk_nil ok))
  (bk_one ok (ex_if ok (ts_cmp ok cm_eqI (ev_bin ok op_fmod (by first | exact ev_local ok rfl rfl rfl | exact ev_cell ok rfl rfl rfl | exact ev_free ok rfl rfl rfl rfl) (ev_int ok)) (ev_int ok) rfl)
   (bk_cons ok (ex_for ok (it_range1 ok g_range rfl rfl (es_cons ok (ev_int ok) (es_nil ok) (fun _ => rfl)) (fun _ => rfl)) (as_name ok hj rfl (by first | exact .inl rfl | exact .inr rfl))
   (bk_one ok (ex_if ok (ts_cmp ok cm_neO (ev_def ok d_get rfl rfl (es_cons ok (ev_bin ok (op_addL ok) (ev_list ok (es_cons ok (by first | exact ev_local ok rfl rfl rfl | exact ev_cell ok rfl rfl rfl | exact ev_free ok rfl rfl rfl rfl) (es_nil ok) (fun _ => rfl))) (by first | exact ev_local ok rfl rfl rfl | exact ev_cell ok rfl rfl rfl | exact ev_free ok rfl rfl rfl rfl)) (es_cons ok (by first | exact ev_local ok rfl rfl rfl | exact ev_cell ok rfl rfl rfl | exact ev_free ok rfl rfl rfl rfl) (es_nil ok) (fun _ => rfl)) (fun _ => rfl)) h_get (fun _ => rfl)) (ev_methD ok F.slot_dict_get F.type_dict_get (fun _ => rfl) (fun _ => rfl) rfl (by first | exact ev_local ok rfl rfl rfl | exact ev_cell ok rfl rfl rfl | exact ev_free ok rfl rfl rfl rfl) (es_cons ok (by first | exact ev_local ok rfl rfl rfl | exact ev_cell ok rfl rfl rfl | exact ev_free ok rfl rfl rfl rfl) (es_nil ok) (fun _ => rfl)) (fo_dget ok) (fun _ => rfl) (fun _ _ => rfl)) rfl)
   (bk_one ok (ex_return ok (ev_bool ok)))
   (bk_nil ok))) lg_name (fun _ _ => rfl))
  (bk_one ok (ex_if ok (ts_cmp ok cm_neD (ev_comp' ok (by decide +kernel) (it_list ok (ev_bin ok (op_addL ok) (ev_list ok (es_cons ok (by first | exact ev_local ok rfl rfl rfl | exact ev_cell ok rfl rfl rfl | exact ev_free ok rfl rfl rfl rfl) (es_nil ok) (fun _ => rfl))) (by first | exact ev_local ok rfl rfl rfl | exact ev_cell ok rfl rfl rfl | exact ev_free ok rfl rfl rfl rfl))) (tst_one (ts_not ok (ts_bool ok (ev_def ok d_rising rfl rfl (es_cons ok (by first | exact ev_local ok rfl rfl rfl | exact ev_cell ok rfl rfl rfl | exact ev_free ok rfl rfl rfl rfl) (es_nil ok) (fun _ => rfl)) h_rising (fun _ => rfl)) (fun _ => rfl)))) (by first | exact ev_local ok rfl rfl rfl | exact ev_cell ok rfl rfl rfl | exact ev_free ok rfl rfl rfl rfl) (fun _ _ => rfl)) (ev_list ok (es_nil ok)) rfl)
   (bk_one ok (ex_return ok (ev_bool ok)))
   (bk_nil ok))))
   (bk_nil ok)))))))))))) lg_name (fun _ _ => rfl))
  (bk_cons ok (ex_asg ok hj (ev_bin ok (op_addL ok) (ev_list ok (es_cons ok (by first | exact ev_local ok rfl rfl rfl | exact ev_cell ok rfl rfl rfl | exact ev_free ok rfl rfl rfl rfl) (es_nil ok) (fun _ => rfl))) (by first | exact ev_local ok rfl rfl rfl | exact ev_cell ok rfl rfl rfl | exact ev_free ok rfl rfl rfl rfl)) rfl (by first | exact .inl rfl | exact .inr rfl) (fun _ _ => rfl))
  (bk_cons ok (ex_asg ok hj (ev_list ok (es_nil ok)) rfl (by first | exact .inl rfl | exact .inr rfl) (fun _ _ => rfl))
  (bk_cons ok (ex_for ok (it_rangeD ok g_range rfl rfl (es_cons ok (ev_bin ok op_sub (ev_callB ok (.inl ⟨_, rfl⟩) g_len rfl rfl (es_cons ok (by first | exact ev_local ok rfl rfl rfl | exact ev_cell ok rfl rfl rfl | exact ev_free ok rfl rfl rfl rfl) (es_nil ok) (fun _ => rfl)) (fo_len ok) (fun _ => rfl) (fun _ _ => rfl)) (ev_int ok)) (es_cons ok (ev_neg ok (ev_int ok)) (es_cons ok (ev_neg ok (ev_int ok)) (es_nil ok) (fun _ => rfl)) (fun _ => rfl)) (fun _ => rfl)) (fun _ => rfl) (fun _ => rfl)) (as_name ok hj rfl (by first | exact .inl rfl | exact .inr rfl))
   (bk_one ok (ex_asg ok hj (ev_def ok d_merge rfl rfl (es_cons ok (ev_idx ok (by first | exact ev_local ok rfl rfl rfl | exact ev_cell ok rfl rfl rfl | exact ev_free ok rfl rfl rfl rfl) (by first | exact ev_local ok rfl rfl rfl | exact ev_cell ok rfl rfl rfl | exact ev_free ok rfl rfl rfl rfl) (fun _ _ => rfl)) (es_cons ok (by first | exact ev_local ok rfl rfl rfl | exact ev_cell ok rfl rfl rfl | exact ev_free ok rfl rfl rfl rfl) (es_cons ok (ev_cmp ok cm_eqI (by first | exact ev_local ok rfl rfl rfl | exact ev_cell ok rfl rfl rfl | exact ev_free ok rfl rfl rfl rfl) (ev_int ok) rfl) (es_nil ok) (fun _ => rfl)) (fun _ => rfl)) (fun _ => rfl)) h_merge (fun _ => rfl)) rfl (by first | exact .inl rfl | exact .inr rfl) (fun _ _ => rfl))) lg_name (fun _ _ => rfl))
  (bk_one ok (ex_return ok (ev_cmp ok cm_eqD (by first | exact ev_local ok rfl rfl rfl | exact ev_cell ok rfl rfl rfl | exact ev_free ok rfl rfl rfl rfl) (ev_def ok d_due rfl rfl (es_cons ok (by first | exact ev_local ok rfl rfl rfl | exact ev_cell ok rfl rfl rfl | exact ev_free ok rfl rfl rfl rfl) (es_cons ok (ev_int ok) (es_cons ok (ev_int ok) (es_nil ok) (fun _ => rfl)) (fun _ => rfl)) (fun _ => rfl)) h_due (fun _ => rfl)) rfl))))))))))))

end Mini

/-! L1B -/
namespace Mini

theorem i_t {c : Bool} {P R : Prop} (hc : c = true) (p : P) : if c = true then P else R := by rw [if_pos hc]; exact p
theorem i_f {c : Bool} {P R : Prop} (hc : c = false) (p : R) : if c = true then P else R := by subst hc; rw [if_neg (by decide)]; exact p

/-! a list of entries [key, value], keys rising -/
abbrev Ent := Addr × (Int × AV)
def EntsAt (h : AH) (a : Addr) (en : List Ent) : Prop := h a = some (.list (en.map fun p => AV.ref p.1)) ∧ ∀ p ∈ en, h p.1 = some (.list [.int p.2.1, p.2.2])
theorem EntsAt.ext {h h' : AH} {a : Addr} {en : List Ent} (x : EntsAt h a en) (e : Ext h h') : EntsAt h' a en := ⟨e _ _ x.1, fun p hp => e _ _ (x.2 p hp)⟩
def SK (en : List Ent) : Prop := en.Pairwise fun p q => p.2.1 < q.2.1
theorem SK.lt {en : List Ent} (s : SK en) {i j : Nat} (hi : i < en.length) (hj : j < en.length) (hij : i < j) : en[i].2.1 < en[j].2.1 := List.pairwise_iff_getElem.mp s i j hi hj hij
theorem SK.le {en : List Ent} (s : SK en) {i j : Nat} (hi : i < en.length) (hj : j < en.length) (hij : i ≤ j) : en[i].2.1 ≤ en[j].2.1 := by
  rcases Nat.lt_or_eq_of_le hij with q | q
  · exact Int.le_of_lt (s.lt hi hj q)
  · subst q; exact Int.le_refl _

theorem key_spec {B g e : Addr} {h : AH} {x : Int} {r : List AV} {Q : AV → AH → Prop} (he : h e = some (.list (.int x :: r))) (q : Q (.int x) h) : f_key B g [.ref e] h Q :=
  ⟨rfl, i_ret (i_idx (i := 0) (k := 0) rfl he (by decide) rfl q)⟩

theorem bisK {B a g : Addr} {en : List Ent} {x : Int} {lo0 : Nat} {h : AH} {Q : AV → AH → Prop} (E : EntsAt h a en) (S : SK en) (hlen : en.length ≤ 1000) (hlo0 : lo0 ≤ en.length)
    (q : ∀ p : Nat, lo0 ≤ p → p ≤ en.length → (∀ i (hi : i < en.length), lo0 ≤ i → i < p → en[i].2.1 < x) → (∀ i (hi : i < en.length), p ≤ i → x ≤ en[i].2.1) → Q (.int p) h) :
    t_bis B g (fun i => [AV.ref a, .int x, .int lo0, .none, .ref g][i]?) h (FnRet Q) := by
  unfold t_bis
  refine i_seq (i_ife (i_cmp (i_var (v := .int lo0) rfl (i_int ⟨_, _, rfl, rfl, ?_⟩))))
  refine i_f (decide_eq_false (by omega)) (i_skip ?_)
  refine i_seq (i_ife (i_cmp (i_var (v := .none) rfl ⟨rfl, nofun, ?_⟩)))
  refine i_t rfl (i_asg ?_)
  refine i_len (l := a) rfl E.1 (by rw [List.length_map]; omega) ?_
  rw [List.length_map]
  refine i_seq (i_ife (i_cmp (i_var (v := .ref g) rfl ⟨rfl, nofun, ?_⟩)))
  refine i_f rfl ?_
  refine ⟨fun k loc h' => h' = h ∧ loc 0 = some (.ref a) ∧ loc 1 = some (.int x) ∧ loc 4 = some (.ref g) ∧ ∃ lo hi : Nat, loc 2 = some (.int lo) ∧ loc 3 = some (.int hi) ∧ lo ≤ hi ∧ hi ≤ en.length ∧ lo0 ≤ lo ∧ k = hi - lo ∧
    (∀ i (hi : i < en.length), lo0 ≤ i → i < lo → en[i].2.1 < x) ∧ (∀ i (hi' : i < en.length), hi ≤ i → x ≤ en[i].2.1), en.length - lo0, ⟨rfl, rfl, rfl, rfl, lo0, en.length, rfl, rfl, hlo0, by omega, by omega, by omega, fun i _ h h2 => by omega, fun i h1 h2 => by omega⟩, ?_⟩
  rintro k loc _ ⟨rfl, e0, e1, e4, lo, hi, e2, e3, hle, hhi, hll, rfl, hlo, hhi'⟩
  refine i_cmp (i_var e2 (i_var e3 ⟨_, _, rfl, rfl, ?_⟩))
  by_cases hlt : (lo : Int) < hi
  · refine i_t (decide_eq_true hlt) ?_
    refine i_seq (i_asg (i_bin (i_bin (i_var e2 (i_var e3 (i_add (i_int ⟨_, _, rfl, rfl, by decide, PyProof.noPylong_small (by decide), ?_⟩)))))))
    have hmid : ((lo : Int) + hi).fdiv 2 = ((lo + hi) / 2 : Nat) := by
      rw [Int.fdiv_eq_ediv_of_nonneg _ (by omega)]; omega
    rw [hmid]
    generalize hm : (lo + hi) / 2 = mid
    have hml : mid < en.length := by omega
    refine i_ife (i_cmp ?_)
    refine ⟨(upd_ne (by decide)).trans e4, ?_⟩
    refine i_cons ?_
    refine ⟨_, (upd_ne (by decide)).trans e0, _, upd_same .., a, _, _, _, rfl, rfl, E.1, by omega, by omega, by rw [Int.toNat_natCast, List.getElem?_map, List.getElem?_eq_getElem hml]; rfl, ?_⟩
    refine i_nil (key_spec (E.2 _ (List.getElem_mem hml)) (i_var ((upd_ne (by decide)).trans e1) ⟨_, _, rfl, rfl, ?_⟩))
    by_cases hx : en[mid].2.1 < x
    · refine i_t (decide_eq_true hx) ?_
      refine i_asg (i_bin (i_var (upd_same ..) (i_int (i_add ?_))))
      refine ⟨hi - (mid + 1), by omega, rfl, ?_, ?_, ?_, mid + 1, hi, ?_, ?_, by omega, hhi, by omega, rfl, fun i h1 h2 h3 => ?_, hhi'⟩
      · rw [upd_ne (by decide), upd_ne (by decide)]; exact e0
      · rw [upd_ne (by decide), upd_ne (by decide)]; exact e1
      · rw [upd_ne (by decide), upd_ne (by decide)]; exact e4
      · rw [upd_same]; rfl
      · rw [upd_ne (by decide), upd_ne (by decide)]; exact e3
      · exact Int.lt_of_le_of_lt (S.le h1 hml (by omega)) hx
    · refine i_f (decide_eq_false hx) ?_
      refine i_asg (i_var (upd_same ..) ?_)
      refine ⟨mid - lo, by omega, rfl, ?_, ?_, ?_, lo, mid, ?_, ?_, by omega, by omega, hll, rfl, hlo, fun i h1 h2 => ?_⟩
      · rw [upd_ne (by decide), upd_ne (by decide)]; exact e0
      · rw [upd_ne (by decide), upd_ne (by decide)]; exact e1
      · rw [upd_ne (by decide), upd_ne (by decide)]; exact e4
      · rw [upd_ne (by decide), upd_ne (by decide)]; exact e2
      · rw [upd_same]
      · exact Int.le_trans (Int.not_lt.mp hx) (S.le hml h1 h2)
  · refine i_f (decide_eq_false hlt) ?_
    have hlh : lo = hi := by omega
    subst hlh
    exact i_ret (i_var e2 (q lo hll hhi hlo hhi'))

theorem bis3_spec {B a g : Addr} {en : List Ent} {x : Int} {h : AH} {Q : AV → AH → Prop} (E : EntsAt h a en) (S : SK en) (hlen : en.length ≤ 1000)
    (q : ∀ p : Nat, p ≤ en.length → (∀ i (hi : i < en.length), i < p → en[i].2.1 < x) → (∀ i (hi : i < en.length), p ≤ i → x ≤ en[i].2.1) → Q (.int p) h) : f_bis3 B g [.ref a, .int x, .ref g] h Q :=
  ⟨rfl, bisK (lo0 := 0) E S hlen (Nat.zero_le _) fun p _ h1 h2 h3 => q p h1 (fun i hi hp => h2 i hi (Nat.zero_le _) hp) h3⟩
theorem bis4_spec {B a g : Addr} {en : List Ent} {x : Int} {lo0 : Nat} {h : AH} {Q : AV → AH → Prop} (E : EntsAt h a en) (S : SK en) (hlen : en.length ≤ 1000) (hlo0 : lo0 ≤ en.length)
    (q : ∀ p : Nat, lo0 ≤ p → p ≤ en.length → (∀ i (hi : i < en.length), lo0 ≤ i → i < p → en[i].2.1 < x) → (∀ i (hi : i < en.length), p ≤ i → x ≤ en[i].2.1) → Q (.int p) h) : f_bis4 B g [.ref a, .int x, .int lo0, .ref g] h Q :=
  ⟨rfl, bisK E S hlen hlo0 q⟩

/-! what a list of entries says of a key -/
def lookK (en : List Ent) (k : Int) : Option AV := (en.find? fun p => decide (p.2.1 = k)).map (·.2.2)
theorem lookK_nil (k : Int) : lookK [] k = none := rfl
theorem lookK_cons (p : Ent) (r : List Ent) (k : Int) : lookK (p :: r) k = if p.2.1 = k then some p.2.2 else lookK r k := by
  unfold lookK
  rw [List.find?_cons]
  by_cases h : p.2.1 = k
  · simp [h]
  · simp [h]
theorem lookK_app (l r : List Ent) (k : Int) : lookK (l ++ r) k = (lookK l k).or (lookK r k) := by
  induction l with
  | nil => simp [lookK_nil]
  | cons p l ih =>
    rw [List.cons_append, lookK_cons, lookK_cons, ih]
    split <;> simp
theorem lookK_none {en : List Ent} {k : Int} (h : ∀ p ∈ en, p.2.1 ≠ k) : lookK en k = none := by
  induction en with
  | nil => rfl
  | cons p r ih => rw [lookK_cons, if_neg (h p (List.mem_cons_self ..)), ih fun q hq => h q (List.mem_cons_of_mem _ hq)]
theorem lookK_get {en : List Ent} (S : SK en) {i : Nat} (hi : i < en.length) : lookK en en[i].2.1 = some en[i].2.2 := by
  induction en generalizing i with
  | nil => exact absurd hi (Nat.not_lt_zero _)
  | cons p r ih =>
    rw [lookK_cons]
    have S' := List.pairwise_cons.mp S
    cases i with
    | zero => simp
    | succ i =>
      have hir : i < r.length := by simpa using hi
      have h1 := S'.1 r[i] (List.getElem_mem hir)
      simp only [List.getElem_cons_succ]
      rw [if_neg (by omega)]
      exact ih S'.2 hir
theorem lookK_mem {en : List Ent} (S : SK en) {p : Ent} (hp : p ∈ en) : lookK en p.2.1 = some p.2.2 := by
  obtain ⟨i, hi, rfl⟩ := List.getElem_of_mem hp
  exact lookK_get S hi
theorem mem_of_lookK {en : List Ent} {k : Int} {v : AV} (h : lookK en k = some v) : ∃ p ∈ en, p.2.1 = k ∧ p.2.2 = v := by
  unfold lookK at h
  obtain ⟨p, h1, h2⟩ := Option.map_eq_some_iff.mp h
  have := List.find?_some h1
  exact ⟨p, List.mem_of_find?_eq_some h1, by simpa using this, h2⟩

/-- where a key stands -/
theorem place_here {en : List Ent} (S : SK en) {x : Int} {p : Nat} (h1 : ∀ i (hi : i < en.length), i < p → en[i].2.1 < x) (h2 : ∀ i (hi : i < en.length), p ≤ i → x ≤ en[i].2.1) (hp : ¬ ∃ h : p < en.length, en[p].2.1 = x) : lookK en x = none := by
  refine lookK_none fun q hq e => ?_
  obtain ⟨i, hi, rfl⟩ := List.getElem_of_mem hq
  rcases Nat.lt_or_ge i p with c | c
  · have := h1 i hi c; omega
  · rcases Nat.lt_or_eq_of_le c with c | c
    · have := h2 p (by omega) (Nat.le_refl _)
      have := S.lt (by omega) hi c
      omega
    · subst c; exact hp ⟨hi, e⟩
end Mini

/-! L1C -/
namespace Mini

section
variable {B : Addr} {loc : Loc} {h : AH}
theorem i_ekw {t : EsT} {k : ET} {Q : List AV → AH → Prop} (q : t loc h fun vs h1 => k loc h1 fun v h2 => Q (vs ++ [v]) h2) : T.ekw t k loc h Q := q
theorem i_glob {v : AV} {Q : AV → AH → Prop} (q : Q v h) : T.glob v loc h Q := q
theorem i_and {t u : TT} {Q : Bool → AH → Prop} (q : t loc h fun b h1 => if b = true then u loc h1 Q else Q false h1) : T.and t u loc h Q := q
theorem i_none {Q : AV → AH → Prop} (q : Q .none h) : T.none loc h Q := q
theorem ent_at {a : Addr} {en : List Ent} {i j p : Nat} {Q : AV → AH → Prop} (E : EntsAt h a en) (hi : loc i = some (.ref a)) (hj : loc j = some (.int (p : Int))) (hp : p < en.length) (hl : en.length ≤ 1000) (q : Q (.ref en[p].1) h) : T.idx (T.var i) (T.var j) loc h Q :=
  ⟨_, hi, _, hj, a, _, _, _, rfl, rfl, E.1, by omega, by omega, by rw [Int.toNat_natCast, List.getElem?_map, List.getElem?_eq_getElem hp]; rfl, q⟩
theorem ent_key {a : Addr} {en : List Ent} {i j p : Nat} {Q : AV → AH → Prop} (E : EntsAt h a en) (hi : loc i = some (.ref a)) (hj : loc j = some (.int (p : Int))) (hp : p < en.length) (hl : en.length ≤ 1000) (q : Q (.int en[p].2.1) h) : T.idx (T.idx (T.var i) (T.var j)) (T.int 0) loc h Q :=
  ent_at E hi hj hp hl (i_int ⟨_, _, _, _, rfl, rfl, E.2 _ (List.getElem_mem hp), by omega, by omega, rfl, q⟩)
end

/-- the two tests: does the key stand at its place -/
theorem here_ok {B a : Addr} {h : AH} {en : List Ent} {x : Int} {p i j k : Nat} {loc : Loc} {Q : Bool → AH → Prop} (E : EntsAt h a en) (hl : en.length ≤ 1000) (hp : p ≤ en.length) (hi : loc i = some (.ref a)) (hj : loc j = some (.int (p : Int))) (hk : loc k = some (.int x))
    (q1 : ∀ hp : p < en.length, en[p].2.1 = x → Q true h) (q2 : (¬ ∃ hp : p < en.length, en[p].2.1 = x) → Q false h) :
    T.and (T.cmp P.lt (T.var j) (T.call (T.econs (T.var i) T.enil) F.len)) (T.cmp P.eqI (T.idx (T.idx (T.var i) (T.var j)) (T.int 0)) (T.var k)) loc h Q := by
  refine i_and (i_cmp (i_var hj (i_len hi E.1 (by rw [List.length_map]; omega) ⟨_, _, rfl, rfl, ?_⟩)))
  rw [List.length_map]
  by_cases hlt : p < en.length
  · refine i_t (decide_eq_true (by omega)) ?_
    refine i_cmp (ent_key E hi hj hlt hl (i_var hk ⟨_, _, rfl, rfl, ?_⟩))
    by_cases he : en[p].2.1 = x
    · rw [beq_iff_eq.mpr he]; exact q1 hlt he
    · rw [beq_eq_false_iff_ne.mpr he]; exact q2 fun ⟨_, e⟩ => he e
  · refine i_f (decide_eq_false (by omega)) ?_
    exact q2 fun ⟨h, _⟩ => hlt h

theorem find_spec {B a g : Addr} {en : List Ent} {x : Int} {h : AH} {Q : AV → AH → Prop} (E : EntsAt h a en) (S : SK en) (hlen : en.length ≤ 1000)
    (q1 : ∀ p ∈ en, p.2.1 = x → Q (.ref p.1) h) (q2 : lookK en x = none → ∀ D, B ≤ D → h D = none → Q (.ref D) (upd h D (.list []))) : f_find B g [.ref a, .int x] h Q := by
  refine ⟨rfl, ?_⟩
  show t_find B g _ _ _
  unfold t_find
  refine i_seq (i_asg (i_call (i_ekw (i_cons (i_var (v := .ref a) rfl (i_cons (i_var (v := .int x) rfl (i_nil (i_glob ?_)))))))))
  refine bis3_spec E S hlen fun p hp h1 h2 => ?_
  refine i_seq (i_ife (here_ok (B := B) (p := p) E hlen hp rfl rfl rfl (fun hlt he => ?_) fun hn => ?_))
  · exact i_t rfl (i_ret (ent_at E rfl rfl hlt hlen (q1 _ (List.getElem_mem _) he)))
  · refine i_f rfl (i_skip (i_ret (i_list (i_nil ⟨Nat.zero_le _, fun D hB hD => ?_⟩))))
    exact q2 (place_here S h1 h2 hn) D hB hD

def ExtBut (a : Addr) (h h' : AH) : Prop := ∀ b c, b ≠ a → h b = some c → h' b = some c
theorem EntsAt.ne {h : AH} {a : Addr} {en : List Ent} (E : EntsAt h a en) {p : Ent} (hp : p ∈ en) : p.1 ≠ a := by
  intro e
  have h1 := E.2 p hp
  rw [e, E.1] at h1
  match en, hp, h1 with
  | q :: r, _, h1 => cases h1
theorem SK.keys {en en' : List Ent} (h : en'.map (fun p => p.2.1) = en.map (fun p => p.2.1)) (s : SK en) : SK en' := by
  have : (en.map fun p => p.2.1).Pairwise (· < ·) := List.pairwise_map.mpr s
  rw [← h] at this
  exact List.pairwise_map.mp this

theorem set_spec {B a g : Addr} {en : List Ent} {x : Int} {v : AV} {h : AH} {Q : AV → AH → Prop} (E : EntsAt h a en) (S : SK en) (hlen : en.length ≤ 900) (hBa : B ≤ a)
    (q : ∀ h' en', ExtBut a h h' → EntsAt h' a en' → SK en' → (∀ j, lookK en' j = if j = x then some v else lookK en j) → (∀ p ∈ en', p ∈ en ∨ p.2.1 = x ∧ p.2.2 = v) → Q .none h') : f_set B g [.ref a, .int x, v] h Q := by
  refine ⟨rfl, ?_⟩
  show t_set B g _ _ _
  unfold t_set
  refine i_seq (i_asg (i_call (i_ekw (i_cons (i_var (v := .ref a) rfl (i_cons (i_var (v := .int x) rfl (i_nil (i_glob ?_)))))))))
  refine bis3_spec E S (by omega) fun p hp h1 h2 => ?_
  have hnew : ∀ D, h D = none → ExtBut a h (upd h D (.list [.int x, v])) := fun D hD b c hb e => Ext.new hD _ _ e
  have htk : ∀ q ∈ en.take p, q.2.1 < x := fun q hq => by
    obtain ⟨i, hi, rfl⟩ := List.getElem_of_mem hq
    rw [List.length_take] at hi
    rw [List.getElem_take]
    exact h1 i (by omega) (by omega)
  have hlt0 : lookK (en.take p) x = none := lookK_none fun q hq => by have := htk q hq; omega
  refine i_ife (here_ok (B := B) (p := p) E (by omega) hp rfl rfl rfl (fun hlt he => ?_) fun hn => ?_)
  · refine i_t rfl ?_
    refine i_list (i_cons (i_var (v := .int x) rfl (i_cons (i_var (v := v) rfl (i_nil ⟨by show (2 : Nat) ≤ 2 ^ 20; decide, fun D hB hD => ?_⟩)))))
    have hDa : D ≠ a := (ne_of E.1 hD).symm
    refine ⟨.ref a, rfl, .int p, rfl, a, _, _, rfl, rfl, Ext.new hD _ _ E.1, hBa, by omega, by rw [List.length_map]; omega, by rw [List.length_map]; omega, ?_⟩
    have hset : en.set p (D, (x, v)) = en.take p ++ (D, (x, v)) :: en.drop (p + 1) := List.set_eq_take_append_cons_drop .. |>.trans (if_pos hlt)
    have hen : en = en.take p ++ en[p] :: en.drop (p + 1) := by rw [← List.drop_eq_getElem_cons hlt, List.take_append_drop]
    refine q _ (en.set p (D, (x, v))) (fun b c hb e => ?_) ⟨?_, fun r hr => ?_⟩ (S.keys ?_) (fun j => ?_) fun r hr => ?_
    · rw [upd_ne hb]; exact Ext.new hD _ _ e
    · rw [upd_same, Int.toNat_natCast, List.map_set]
    · rcases List.mem_or_eq_of_mem_set hr with hr | hr
      · rw [upd_ne (E.ne hr)]; exact Ext.new hD _ _ (E.2 r hr)
      · rw [hr]; show upd _ a _ D = _; rw [upd_ne hDa]; exact upd_same ..
    · rw [List.map_set]
      apply List.ext_getElem
      · simp
      · intro i hi1 hi2
        rw [List.getElem_set]
        split
        · rename_i hpi; subst hpi; simp [he]
        · rfl
    · rw [hset, lookK_app, lookK_cons]
      by_cases hj : j = x
      · subst hj; rw [if_pos rfl, if_pos rfl, hlt0]; rfl
      · rw [if_neg (Ne.symm hj), if_neg hj]
        conv => rhs; rw [hen]
        rw [lookK_app, lookK_cons, if_neg (by rw [he]; exact Ne.symm hj)]
    · rcases List.mem_or_eq_of_mem_set hr with hr | hr
      · exact .inl hr
      · rw [hr]; exact .inr ⟨rfl, rfl⟩
  · refine i_f rfl (i_expr ?_)
    refine ⟨.ref a, rfl, ⟨a, _, rfl, E.1⟩, ?_⟩
    refine i_cons (i_var (v := .int p) rfl (i_cons (i_list (i_cons (i_var (v := .int x) rfl (i_cons (i_var (v := v) rfl (i_nil ⟨by show (2 : Nat) ≤ 2 ^ 20; decide, fun D hB hD => ?_⟩))))))))
    have hDa : D ≠ a := (ne_of E.1 hD).symm
    refine i_nil ⟨a, _, _, _, rfl, Ext.new hD _ _ E.1, hBa, by rw [List.length_map]; omega, by omega, by rw [List.length_map]; omega, ?_⟩
    have hgt : ∀ q ∈ en.drop p, x < q.2.1 := fun q hq => by
      obtain ⟨i, hi, rfl⟩ := List.getElem_of_mem hq
      rw [List.length_drop] at hi
      rw [List.getElem_drop]
      have g1 := h2 (p + i) (by omega) (by omega)
      rcases Nat.eq_zero_or_pos i with c | c
      · subst c
        rcases Int.lt_or_eq_of_le g1 with g | g
        · exact g
        · exact absurd ⟨by omega, g.symm⟩ hn
      · have g2 := h2 p (by omega) (Nat.le_refl _)
        have g3 := S.lt (i := p) (j := p + i) (by omega) (by omega) (by omega)
        omega
    refine q _ (en.take p ++ (D, (x, v)) :: en.drop p) (fun b c hb e => ?_) ⟨?_, fun r hr => ?_⟩ ?_ (fun j => ?_) fun r hr => ?_
    · rw [upd_ne hb]; exact Ext.new hD _ _ e
    · rw [upd_same, Int.toNat_natCast, List.map_append, List.map_cons, List.map_take, List.map_drop]
    · rcases List.mem_append.mp hr with hr | hr
      · have hr := List.mem_of_mem_take hr
        rw [upd_ne (E.ne hr)]; exact Ext.new hD _ _ (E.2 r hr)
      · rcases List.mem_cons.mp hr with hr | hr
        · rw [hr]; show upd _ a _ D = _; rw [upd_ne hDa]; exact upd_same ..
        · have hr := List.mem_of_mem_drop hr
          rw [upd_ne (E.ne hr)]; exact Ext.new hD _ _ (E.2 r hr)
    · unfold SK
      rw [List.pairwise_append]
      refine ⟨S.sublist (List.take_sublist _ _), List.pairwise_cons.mpr ⟨fun q hq => hgt q hq, S.sublist (List.drop_sublist _ _)⟩, fun q hq r hr => ?_⟩
      have := htk q hq
      rcases List.mem_cons.mp hr with hr | hr
      · rw [hr]; exact this
      · have := hgt r hr; omega
    · rw [lookK_app, lookK_cons]
      by_cases hj : j = x
      · subst hj; rw [if_pos rfl, if_pos rfl, hlt0]; rfl
      · rw [if_neg (Ne.symm hj), if_neg hj, ← lookK_app, List.take_append_drop]
    · rcases List.mem_append.mp hr with hr | hr
      · exact .inl (List.mem_of_mem_take hr)
      · rcases List.mem_cons.mp hr with hr | hr
        · rw [hr]; exact .inr ⟨rfl, rfl⟩
        · exact .inl (List.mem_of_mem_drop hr)
end Mini

/-! L1D -/
namespace Mini

def compAt (B : Addr) (src : Src) (i : Nat) (c : TT) (e : ET) (loc : Loc) (h1 : AH) (Q : AV → AH → Prop) : Prop := ∀ D, B ≤ D → h1 D = none →
  ∃ (I : Nat → List AV → AH → Prop) (N : Nat), I 0 [] (upd h1 D (.list [])) ∧ ∀ k ys h, I k ys h → h D = some (.list ys) ∧ ys.length < 2 ^ 20 ∧ ∃ xs, src.items h = some xs ∧ xs.length ≤ N ∧
    match xs[k]? with
    | Option.none => Q (.ref D) h
    | some v => c (upd loc i v) h fun b h2 => if b then e (upd loc i v) h2 fun y h3 => h3 D = some (.list ys) ∧ I (k + 1) (ys ++ [y]) (upd h3 D (.list (ys ++ [y]))) else I (k + 1) ys h2
theorem i_compAt {B : Addr} {it : ItT} {i : Nat} {c : TT} {e : ET} {loc : Loc} {h : AH} {Q : AV → AH → Prop} (q : it loc h fun src h1 => compAt B src i c e loc h1 Q) : T.comp B it i c e loc h Q := q
theorem compP {B : Addr} {src : Src} {h1 : AH} {xs : List AV} {loc : Loc} {i : Nat} {c : TT} {e : ET} {Q : AV → AH → Prop} {p : AV → Bool} {g : AV → AV}
    (hs : src.items h1 = some xs) (hl : xs.length ≤ 2 ^ 19)
    (he : ∀ v, v ∈ xs → ∀ h2 : AH, Ext h1 h2 → (∀ Q' : Bool → AH → Prop, Q' (p v) h2 → c (upd loc i v) h2 Q') ∧ (p v = true → ∀ Q' : AV → AH → Prop, Q' (g v) h2 → e (upd loc i v) h2 Q'))
    (hQ : ∀ D, B ≤ D → h1 D = none → Q (.ref D) (upd h1 D (.list ((xs.filter p).map g)))) : compAt B src i c e loc h1 Q := comp_pure hs hl he hQ

theorem items_ext {src : Src} {h h' : AH} {xs : List AV} (hs : src.items h = some xs) (e : Ext h h') : src.items h' = some xs := by
  cases src with
  | list a =>
    simp only [Src.items] at hs ⊢
    split at hs
    · rename_i ys hy; rw [e _ _ hy]; exact hs
    · cases hs
  | tup a =>
    simp only [Src.items] at hs ⊢
    split at hs
    · rename_i ys hy; rw [e _ _ hy]; exact hs
    · cases hs
  | range lo st n => exact hs

/-- a comprehension whose elements are new entries -/
theorem compE {B : Addr} {src : Src} {h1 : AH} {xs : List AV} {loc : Loc} {i : Nat} {c : TT} {e : ET} {Q : AV → AH → Prop} {p : AV → Bool} {f : AV → Int × AV}
    (hs : src.items h1 = some xs) (hl : xs.length ≤ 2 ^ 19)
    (hc : ∀ v, v ∈ xs → ∀ h2 : AH, Ext h1 h2 → ∀ Q' : Bool → AH → Prop, Q' (p v) h2 → c (upd loc i v) h2 Q')
    (he : ∀ v, v ∈ xs → p v = true → ∀ h2 : AH, Ext h1 h2 → ∀ Q' : AV → AH → Prop, (∀ D, B ≤ D → h2 D = none → Q' (.ref D) (upd h2 D (.list [.int (f v).1, (f v).2]))) → e (upd loc i v) h2 Q')
    (hQ : ∀ (D : Addr) (h' : AH) (en : List Ent), B ≤ D → h1 D = none → Ext h1 h' → EntsAt h' D en → en.map (·.2) = (xs.filter p).map f → Q (.ref D) h') : compAt B src i c e loc h1 Q := by
  intro D hB hD
  refine ⟨fun k ys h' => k ≤ xs.length ∧ Ext h1 h' ∧ ∃ en : List Ent, ys = en.map (fun p => AV.ref p.1) ∧ EntsAt h' D en ∧ en.map (·.2) = ((xs.take k).filter p).map f, xs.length,
    ⟨Nat.zero_le _, Ext.new hD, [], rfl, ⟨upd_same .., fun p hp => absurd hp List.not_mem_nil⟩, rfl⟩, ?_⟩
  rintro k ys h ⟨hk, eh, en, rfl, E, hen⟩
  have hlen : en.length ≤ xs.length := by
    have h2 := congrArg List.length hen
    rw [List.length_map, List.length_map] at h2
    have h3 := List.length_filter_le p (xs.take k)
    rw [List.length_take] at h3; omega
  refine ⟨E.1, by rw [List.length_map]; omega, xs, items_ext hs eh, Nat.le_refl _, ?_⟩
  by_cases hkl : k < xs.length
  · rw [List.getElem?_eq_getElem hkl]
    have hm : xs[k] ∈ xs := List.getElem_mem hkl
    refine hc _ hm h eh _ ?_
    have htk : xs.take (k + 1) = xs.take k ++ [xs[k]] := List.take_succ_eq_append_getElem hkl
    by_cases hp : p xs[k] = true
    · rw [hp, if_pos rfl]
      refine he _ hm hp h eh _ fun D1 hB1 hD1 => ?_
      have e1 : Ext h (upd h D1 (.list [.int (f xs[k]).1, (f xs[k]).2])) := Ext.new hD1
      have hne : D1 ≠ D := (ne_of E.1 hD1).symm
      refine ⟨e1 _ _ E.1, by omega, (eh.trans e1).set hD, en ++ [(D1, f xs[k])], by rw [List.map_append]; rfl, ⟨by rw [upd_same, List.map_append]; rfl, fun q hq => ?_⟩, ?_⟩
      · rcases List.mem_append.mp hq with hq | hq
        · rw [upd_ne (E.ne hq)]; exact e1 _ _ (E.2 q hq)
        · rw [List.mem_singleton.mp hq]
          show upd _ D _ D1 = _
          rw [upd_ne hne]; exact upd_same ..
      · rw [htk, List.filter_append, List.map_append, List.map_append, hen]
        simp [hp]
    · rw [if_neg hp]
      refine ⟨by omega, eh, en, rfl, E, ?_⟩
      rw [htk, List.filter_append, List.map_append, hen]
      simp [hp]
  · rw [List.getElem?_eq_none (by omega)]
    rw [List.take_of_length_le (by omega)] at hen
    exact hQ D h en hB hD eh E hen

/-! data of entries -/
def okV : AV → Prop | .none => True | .int _ => True | _ => False
def dV : AV → PyData | .int i => .int i | _ => .none
theorem dV_at {h : AH} {v : AV} (o : okV v) : DataAt h v (dV v) := by
  cases v with
  | none => exact .none
  | int i => exact .int i
  | bool b => exact o.elim
  | ref a => exact o.elim
  | other => exact o.elim
def dE (p : Int × AV) : PyData := .list [.int p.1, dV p.2]
theorem dE_at {h : AH} {a : Addr} {k : Int} {v : AV} (o : okV v) (ha : h a = some (.list [.int k, v])) : DataAt h (.ref a) (dE (k, v)) := .list ha (.cons (.int k) (.cons (dV_at o) .nil))
theorem ents_data {h : AH} : ∀ {en : List Ent}, (∀ p ∈ en, okV p.2.2 ∧ h p.1 = some (.list [.int p.2.1, p.2.2])) → DatasAt h (en.map fun p => AV.ref p.1) ((en.map (·.2)).map dE)
  | [], _ => .nil
  | p :: r, H => .cons (dE_at (H p (List.mem_cons_self ..)).1 (H p (List.mem_cons_self ..)).2) (ents_data fun q hq => H q (List.mem_cons_of_mem _ hq))
theorem EntsAt.data {h : AH} {a : Addr} {en : List Ent} (E : EntsAt h a en) (o : ∀ p ∈ en, okV p.2.2) : DataAt h (.ref a) (.list ((en.map (·.2)).map dE)) :=
  .list E.1 (ents_data fun p hp => ⟨o p hp, E.2 p hp⟩)
theorem nil_data {h : AH} {a : Addr} (ha : h a = some (.list [])) : DataAt h (.ref a) (.list []) := .list ha .nil

theorem dV_lay (v : AV) : (dV v).canLay0 = true ∧ (dV v).depth = 0 := by cases v <;> exact ⟨by simp [dV, PyData.canLay0], by simp [dV, PyData.depth]⟩
theorem dE_lay (p : Int × AV) : (dE p).canLay0 = true ∧ (dE p).depth ≤ 1 := by
  obtain ⟨h1, h2⟩ := dV_lay p.2
  exact ⟨by simp [dE, PyData.canLay0, PyData.canLayAll0, h1], by simp [dE, PyData.depth, PyData.depthAll, h2]⟩
theorem dEs_lay : ∀ l : List (Int × AV), PyData.canLayAll0 (l.map dE) = true ∧ PyData.depthAll (l.map dE) ≤ 1
  | [] => ⟨by simp [PyData.canLayAll0], by simp [PyData.depthAll]⟩
  | p :: r => by
    obtain ⟨h1, h2⟩ := dE_lay p
    obtain ⟨h3, h4⟩ := dEs_lay r
    refine ⟨by simp [PyData.canLayAll0, h1, h3], ?_⟩
    rw [List.map_cons, PyData.depthAll]
    exact Nat.max_le.mpr ⟨h2, h4⟩
theorem dE_shaped (p : Int × AV) : SeqAt.shaped (dE p) = true := by
  obtain ⟨h1, h2⟩ := dE_lay p
  unfold SeqAt.shaped; rw [h1, decide_eq_true (by omega)]; rfl
theorem dEs_shaped (l : List (Int × AV)) : SeqAt.shaped (.list (l.map dE)) = true := by
  obtain ⟨h1, h2⟩ := dEs_lay l
  unfold SeqAt.shaped
  have c : (PyData.list (l.map dE)).canLay0 = true := by simp [PyData.canLay0, h1]
  have d : (PyData.list (l.map dE)).depth ≤ 64 := by simp only [PyData.depth]; omega
  rw [c, decide_eq_true d]; rfl
theorem eqv_dE (p : Int × AV) : PyData.eqv (dE p) (dE p) = true := by
  obtain ⟨k, v⟩ := p
  cases v <;> simp [dE, dV, PyData.eqv, PyData.eqvAll]
theorem eqv_dEs : ∀ l : List (Int × AV), PyData.eqvAll (l.map dE) (l.map dE) = true
  | [] => by simp [PyData.eqvAll]
  | p :: r => by rw [List.map_cons, PyData.eqvAll, eqv_dE, eqv_dEs r]; rfl
theorem eqv_nil : PyData.eqv (.list []) (.list []) = true := by simp [PyData.eqv, PyData.eqvAll]
theorem eqv_ent (p : Int × AV) : PyData.eqv (dE p) (.list []) = false := by simp [dE, PyData.eqv, PyData.eqvAll]
theorem nil_shaped : SeqAt.shaped (.list []) = true := dEs_shaped []

/-! what holds of every list of entries -/
structure Fine (en : List Ent) : Prop where
  sk : SK en
  kr : ∀ p ∈ en, 0 ≤ p.2.1 ∧ p.2.1 < 12
  ov : ∀ p ∈ en, okV p.2.2
theorem Fine.nil : Fine [] := ⟨List.Pairwise.nil, fun _ h => absurd h List.not_mem_nil, fun _ h => absurd h List.not_mem_nil⟩
theorem Fine.len {en : List Ent} (F : Fine en) : en.length ≤ 12 := by
  have key : ∀ i (hi : i < en.length), (i : Int) ≤ en[i].2.1 := by
    intro i
    induction i with
    | zero => intro hi; exact (F.kr _ (List.getElem_mem hi)).1
    | succ i ih =>
      intro hi
      have h1 := ih (by omega)
      have h2 := F.sk.lt (i := i) (j := i + 1) (by omega) hi (by omega)
      omega
  rcases Nat.lt_or_ge 12 en.length with h | h
  · have h1 := key 12 h
    have h2 := (F.kr _ (List.getElem_mem h)).2
    omega
  · exact h

/-! reading from the lists, newest first -/
def ListsAt (h : AH) (L : Addr) (rs : List (Addr × List Ent)) : Prop := h L = some (.list (rs.map fun r => AV.ref r.1)) ∧ ∀ r ∈ rs, EntsAt h r.1 r.2
theorem ListsAt.ext {h h' : AH} {a : Addr} {rs : List (Addr × List Ent)} (x : ListsAt h a rs) (e : Ext h h') : ListsAt h' a rs := ⟨e _ _ x.1, fun p hp => (x.2 p hp).ext e⟩
def getL : List (Addr × List Ent) → Int → Option AV
  | [], _ => none
  | r :: rs, k => (lookK r.2 k).or (getL rs k)

theorem get_spec {B L g : Addr} {rs : List (Addr × List Ent)} {k : Int} {h : AH} {Q : AV → AH → Prop} (A : ListsAt h L rs) (F : ∀ r ∈ rs, Fine r.2) (hl : rs.length ≤ 1000)
    (q : ∀ h', Ext h h' → Q ((getL rs k).getD .none) h') : f_get B g [.ref L, .int k] h Q := by
  refine ⟨rfl, ?_⟩
  show t_get B g _ _ _
  unfold t_get
  refine i_seq (i_itL rfl A.1 ?_)
  refine ⟨fun i loc h' => i ≤ rs.length ∧ loc 0 = some (.ref L) ∧ loc 1 = some (.int k) ∧ Ext h h' ∧ getL rs k = getL (rs.drop i) k, rs.length, ⟨Nat.zero_le _, rfl, rfl, Ext.refl _, rfl⟩, ?_⟩
  rintro i loc h' ⟨hi, l0, l1, e, hg⟩
  refine ⟨_, items_list (e _ _ A.1), by rw [List.length_map]; exact Nat.le_refl _, ?_⟩
  by_cases hil : i < rs.length
  · rw [List.getElem?_map, List.getElem?_eq_getElem hil]
    have hm : rs[i] ∈ rs := List.getElem_mem hil
    have hd : rs.drop i = rs[i] :: rs.drop (i + 1) := List.drop_eq_getElem_cons hil
    have Fi := F _ hm
    refine i_seq (i_asg (i_call (i_cons (i_var (upd_same ..) (i_cons (i_var ((upd_ne (by decide)).trans l1) (i_nil ?_)))))))
    refine find_spec ((A.2 _ hm).ext e) Fi.sk (by have := Fi.len; omega) (fun p hp hk => ?_) fun hn D hB hD => ?_
    · refine i_ife (i_cmp (i_var (upd_same ..) (i_list (i_nil ⟨Nat.zero_le _, fun D2 hB2 hD2 => ?_⟩))))
      have hp2 := (((A.2 _ hm).ext e).ext (Ext.new (c := .list []) hD2)).2 p hp
      refine ⟨_, _, dE_at (Fi.ov p hp) hp2, nil_data (upd_same ..), dE_shaped _, nil_shaped, ?_⟩
      rw [eqv_ent]
      refine i_t rfl (i_ret (i_idx (k := 1) (upd_same ..) hp2 (by decide) rfl ?_))
      have hv : getL rs k = some p.2.2 := by rw [hg, hd, getL, ← hk, lookK_mem Fi.sk hp]; rfl
      rw [hv] at q
      exact q _ (e.trans (Ext.new hD2))
    · refine i_ife (i_cmp (i_var (upd_same ..) (i_list (i_nil ⟨Nat.zero_le _, fun D2 hB2 hD2 => ?_⟩))))
      refine ⟨_, _, nil_data (Ext.new hD2 _ _ (upd_same ..)), nil_data (upd_same ..), nil_shaped, nil_shaped, ?_⟩
      rw [eqv_nil]
      refine i_f rfl (i_skip ⟨by omega, ?_, ?_, (e.trans (Ext.new hD)).trans (Ext.new hD2), ?_⟩)
      · rw [upd_ne (by decide), upd_ne (by decide)]; exact l0
      · rw [upd_ne (by decide), upd_ne (by decide)]; exact l1
      · rw [hg, hd, getL, hn]; rfl
  · rw [List.getElem?_eq_none (by rw [List.length_map]; omega)]
    rw [List.drop_eq_nil_of_le (by omega)] at hg
    rw [hg] at q
    exact i_ret (i_none (q _ e))

theorem rising_spec {B a g : Addr} {en : List Ent} {h : AH} {Q : AV → AH → Prop} (E : EntsAt h a en) (F : Fine en) (q : ∀ h', Ext h h' → Q (.bool true) h') : f_rising B g [.ref a] h Q := by
  refine ⟨rfl, ?_⟩
  have hl := F.len
  show t_rising B g _ _ _
  unfold t_rising
  refine i_ret (i_cmp (i_compAt ?_))
  refine i_cons (i_int (i_cons (i_len rfl E.1 (by rw [List.length_map]; omega) (i_nil ⟨1, _, rfl, by unfold T.small; omega, by unfold T.small; rw [List.length_map]; omega, ?_⟩))))
  rw [List.length_map]
  refine compP (p := fun _ => false) (g := fun v => v) rfl (by rw [rangeL_len]; omega) (fun v hv h2 hx => ⟨fun Q' q' => ?_, nofun⟩) fun D hB hD => ?_
  · obtain ⟨x, hx', rfl⟩ := List.mem_map.mp hv
    obtain ⟨j, hj, rfl⟩ := List.mem_map.mp hx'
    have hj := List.mem_range.mp hj
    have e1 : (1 : Int) + (j : Int) * 1 = ((j + 1 : Nat) : Int) := by omega
    rw [e1]
    have E2 := E.ext hx
    refine i_cmp ?_
    refine ⟨_, rfl, ?_⟩
    have hjl : j < en.length := by omega
    refine i_bin (i_var (upd_same ..) (i_int (i_sub ⟨a, _, _, .ref en[j].1, rfl, rfl, E2.1, by omega, by omega, ?_, ?_⟩)))
    · rw [show (((j + 1 : Nat) : Int) - 1).toNat = j by omega, List.getElem?_map, List.getElem?_eq_getElem (by omega)]; rfl
    · refine i_int ⟨_, _, 0, _, rfl, rfl, E2.2 _ (List.getElem_mem _), by omega, by omega, rfl, ?_⟩
      refine ent_key (p := j + 1) E2 rfl (upd_same ..) (by omega) (by omega) ⟨_, _, rfl, rfl, ?_⟩
      have := F.sk.lt (i := j) (j := j + 1) (by omega) (by omega) (by omega)
      rw [decide_eq_false (by omega)]; exact q'
  · have hf : ∀ l : List AV, (l.filter fun _ => false).map (fun v => v) = [] := fun l => by simp
    rw [hf]
    refine i_list (i_nil ⟨Nat.zero_le _, fun D2 hB2 hD2 => ?_⟩)
    refine ⟨_, _, nil_data (Ext.new hD2 _ _ (upd_same ..)), nil_data (upd_same ..), nil_shaped, nil_shaped, ?_⟩
    rw [eqv_nil]
    exact q _ ((Ext.new hD).trans (Ext.new hD2))
end Mini

/-! L1E -/
namespace Mini

theorem ExtBut.refl (a : Addr) (h : AH) : ExtBut a h h := fun _ _ _ e => e
theorem ExtBut.trans {a : Addr} {h h' h'' : AH} (x : ExtBut a h h') (y : ExtBut a h' h'') : ExtBut a h h'' := fun b c hb e => y b c hb (x b c hb e)
theorem Ext.but {h h' : AH} (x : Ext h h') (a : Addr) : ExtBut a h h' := fun b c _ e => x b c e
theorem ExtBut.ext {a : Addr} {h h1 h2 : AH} (x : Ext h h1) (y : ExtBut a h1 h2) (ha : h a = none) : Ext h h2 := fun b c e => y b c (ne_of e ha) (x b c e)
theorem EntsAt.but {h h' : AH} {a b : Addr} {en : List Ent} (x : EntsAt h a en) (e : ExtBut b h h') (ha : a ≠ b) (hp : ∀ p ∈ en, p.1 ≠ b) : EntsAt h' a en := ⟨e _ _ ha x.1, fun p hq => e _ _ (hp p hq) (x.2 p hq)⟩

def nn (p : Ent) : Bool := !P.isNone p.2.2
def dropN : Option AV → Option AV | some .none => none | x => x
theorem lookK_filter {en : List Ent} (S : SK en) (j : Int) : lookK (en.filter nn) j = dropN (lookK en j) := by
  induction en with
  | nil => rfl
  | cons p r ih =>
    have S' := List.pairwise_cons.mp S
    rw [lookK_cons, List.filter_cons]
    by_cases hj : p.2.1 = j
    · rw [if_pos hj]
      have hr : lookK (r.filter nn) j = none := lookK_none fun q hq => by have := S'.1 q (List.mem_filter.mp hq).1; omega
      split
      · rename_i hn
        rw [lookK_cons, if_pos hj]
        unfold nn at hn
        cases hv : p.2.2 <;> rw [hv] at hn <;> first | rfl | cases hn
      · rename_i hn
        rw [hr]
        unfold nn at hn
        cases hv : p.2.2 <;> rw [hv] at hn <;> first | rfl | exact absurd rfl hn
    · rw [if_neg hj]
      split
      · rw [lookK_cons, if_neg hj]; exact ih S'.2
      · exact ih S'.2
theorem Fine.filter {en : List Ent} (F : Fine en) : Fine (en.filter nn) :=
  ⟨F.sk.sublist List.filter_sublist, fun p hp => F.kr p (List.mem_filter.mp hp).1, fun p hp => F.ov p (List.mem_filter.mp hp).1⟩

/-- the entries that are no marks -/
theorem strip_ok {B a : Addr} {h : AH} {en : List Ent} {i j : Nat} {loc : Loc} {Q : AV → AH → Prop} (E : EntsAt h a en) (F : Fine en) (hj : loc j = some (.ref a))
    (q : ∀ D h', h D = none → Ext h h' → EntsAt h' D (en.filter nn) → Q (.ref D) h') :
    T.comp B (T.itL (T.var j)) i (T.cmp P.isNotN (T.idx (T.var i) (T.int 1)) T.none) (T.var i) loc h Q := by
  have hl := F.len
  refine i_compAt (i_itL hj E.1 ?_)
  refine compP (p := fun v => match v with | .ref c => (match h c with | some (.list [_, w]) => !P.isNone w | _ => false) | _ => false) (g := fun v => v) (items_list E.1) (by rw [List.length_map]; omega) (fun v hv h2 hx => ?_) fun D hB hD => ?_
  · obtain ⟨p, hp, rfl⟩ := List.mem_map.mp hv
    refine ⟨fun Q' q' => ?_, fun _ Q' q' => i_var (upd_same ..) q'⟩
    refine i_cmp (i_idx (k := 1) (upd_same ..) (hx _ _ (E.2 p hp)) (by decide) rfl (i_none ⟨rfl, ?_, ?_⟩))
    · intro e; have := F.ov p hp; rw [e] at this; exact this
    · dsimp only at q'; rw [E.2 p hp] at q'; exact q'
  · have : ((en.map fun p => AV.ref p.1).filter fun v => match v with | .ref c => (match h c with | some (.list [_, w]) => !P.isNone w | _ => false) | _ => false).map (fun v => v) = (en.filter nn).map fun p => AV.ref p.1 := by
      rw [List.map_id', List.filter_map]
      congr 1
      refine List.filter_congr fun p hp => ?_
      show (match h p.1 with | some (.list [_, w]) => !P.isNone w | _ => false) = nn p
      rw [E.2 p hp]; rfl
    rw [this]
    exact q D _ hD (Ext.new hD) ⟨upd_same .., fun p hp => Ext.new hD _ _ (E.2 p (List.mem_filter.mp hp).1)⟩

theorem Fine.set {en en' : List Ent} {x : Int} {v : AV} (F : Fine en) (S : SK en') (hx : 0 ≤ x ∧ x < 12) (hv : okV v) (hm : ∀ p ∈ en', p ∈ en ∨ p.2.1 = x ∧ p.2.2 = v) : Fine en' :=
  ⟨S, fun p hp => by rcases hm p hp with h | ⟨h1, h2⟩
                     · exact F.kr p h
                     · rw [h1]; exact hx,
   fun p hp => by rcases hm p hp with h | ⟨h1, h2⟩
                  · exact F.ov p h
                  · rw [h2]; exact hv⟩

theorem lookK_vals (en : List Ent) (j : Int) : lookK en j = lookD (en.map (·.2)) j := by
  induction en with
  | nil => rfl
  | cons p r ih =>
    rw [lookK_cons, List.map_cons]
    unfold lookD at ih ⊢
    rw [List.find?_cons]
    by_cases h : p.2.1 = j
    · simp [h]
    · simp only [h, decide_false, if_false]; exact ih
theorem Fine.vals {en en' : List Ent} (F : Fine en) (h : en'.map (·.2) = en.map (·.2)) : Fine en' := by
  have mem : ∀ p ∈ en', ∃ q ∈ en, q.2 = p.2 := fun p hp => by
    have : p.2 ∈ en.map (·.2) := by rw [← h]; exact List.mem_map_of_mem hp
    obtain ⟨q, hq, e⟩ := List.mem_map.mp this
    exact ⟨q, hq, e⟩
  refine ⟨F.sk.keys ?_, fun p hp => ?_, fun p hp => ?_⟩
  · have h2 := congrArg (List.map Prod.fst) h
    rw [List.map_map, List.map_map] at h2
    exact h2
  · obtain ⟨q, hq, e⟩ := mem p hp; rw [← e]; exact F.kr q hq
  · obtain ⟨q, hq, e⟩ := mem p hp; rw [← e]; exact F.ov q hq

theorem merge_spec {B n o g : Addr} {nw ol : List Ent} {last : Bool} {h : AH} {Q : AV → AH → Prop} (En : EntsAt h n nw) (Fn : Fine nw) (Eo : EntsAt h o ol) (Fo : Fine ol)
    (q : ∀ D h' en, h D = none → Ext h h' → EntsAt h' D en → Fine en → (∀ j, lookK en j = (if last = true then dropN else id) ((lookK nw j).or (lookK ol j))) → Q (.ref D) h') : f_merge B g [.ref n, .ref o, .bool last] h Q := by
  refine ⟨rfl, ?_⟩
  have hnl := Fn.len
  have hol := Fo.len
  show t_merge B g _ _ _
  unfold t_merge
  refine i_seq (i_asg (i_compAt (i_itL rfl Eo.1 ?_)))
  refine compE (p := fun _ => true) (f := fun v => match v with | .ref c => (match h c with | some (.list [.int k, w]) => (k, w) | _ => (0, .none)) | _ => (0, .none)) (items_list Eo.1) (by rw [List.length_map]; omega) (fun v hv h2 hx Q' q' => q') (fun v hv _ h2 hx Q' q' => ?_) fun wh h1 wn hB hwh e1 Ew hwn => ?_
  · obtain ⟨p, hp, rfl⟩ := List.mem_map.mp hv
    refine i_call (i_cons (i_var (upd_same ..) (i_nil ⟨p.1, _, rfl, hx _ _ (Eo.2 p hp), by show (2 : Nat) ≤ 2 ^ 20; decide, fun D hB hD => ?_⟩)))
    have := q' D hB hD
    dsimp only at this
    rw [Eo.2 p hp] at this
    exact this
  have hwn' : wn.map (·.2) = ol.map (·.2) := by
    rw [hwn, List.filter_eq_self.mpr fun _ _ => rfl, List.map_map]
    refine List.map_congr_left fun p hp => ?_
    show (match h p.1 with | some (.list [.int k, w]) => (k, w) | _ => (0, .none)) = p.2
    rw [Eo.2 p hp]
  have Fw : Fine wn := Fo.vals hwn'
  have look0 : ∀ j, lookK wn j = lookK ol j := fun j => by rw [lookK_vals, lookK_vals, hwn']
  refine i_seq (i_itL rfl (e1 _ _ En.1) ?_)
  refine ⟨fun i loc h' => ∃ wn : List Ent, i ≤ nw.length ∧ loc 2 = some (.bool last) ∧ loc 3 = some (.ref wh) ∧ ExtBut wh h1 h' ∧ EntsAt h' wh wn ∧ Fine wn ∧ ∀ j, lookK wn j = (lookK (nw.take i) j).or (lookK ol j), nw.length,
    ⟨wn, Nat.zero_le _, rfl, upd_same .., ExtBut.refl _ _, Ew, Fw, fun j => by rw [look0]; rfl⟩, ?_⟩
  rintro i loc h' ⟨wn, hi, l2, l3, eb, Ew, Fw, hlook⟩
  have eh : Ext h h' := ExtBut.ext e1 eb hwh
  refine ⟨_, items_list (eh _ _ En.1), by rw [List.length_map]; exact Nat.le_refl _, ?_⟩
  by_cases hil : i < nw.length
  · rw [List.getElem?_map, List.getElem?_eq_getElem hil]
    have hm : nw[i] ∈ nw := List.getElem_mem hil
    have hp := eh _ _ (En.2 _ hm)
    dsimp only [T.asN]
    refine i_expr (i_call (i_cons (i_var ((upd_ne (by decide)).trans l3) (i_cons (i_idx (k := 0) (upd_same ..) hp (by decide) rfl (i_cons (i_idx (k := 1) (upd_same ..) hp (by decide) rfl (i_nil ?_))))))))
    have hwl := Fw.len
    refine set_spec Ew Fw.sk (by omega) hB fun h2 wn' eb2 Ew2 S2 hl2 hm2 => ?_
    refine ⟨wn', by omega, (upd_ne (by decide)).trans l2, (upd_ne (by decide)).trans l3, eb.trans eb2, Ew2, Fw.set S2 (Fn.kr _ hm) (Fn.ov _ hm) hm2, fun j => ?_⟩
    rw [hl2, hlook, List.take_succ_eq_append_getElem hil, lookK_app, lookK_cons, lookK_nil]
    have hbelow : lookK (nw.take i) nw[i].2.1 = none := lookK_none fun p hp => by
      obtain ⟨k, hk, rfl⟩ := List.getElem_of_mem hp
      rw [List.length_take] at hk
      rw [List.getElem_take]
      have := Fn.sk.lt (i := k) (j := i) (by omega) hil (by omega)
      omega
    by_cases hj : j = nw[i].2.1
    · rw [if_pos hj, if_pos hj.symm, hj, hbelow]; rfl
    · rw [if_neg hj, if_neg (Ne.symm hj)]; simp
  · rw [List.getElem?_eq_none (by rw [List.length_map]; omega)]
    rw [List.take_of_length_le (by omega)] at hlook
    refine i_ret ?_
    refine ⟨_, l2, last, rfl, ?_⟩
    cases last with
    | true =>
      refine i_t rfl (strip_ok Ew Fw l3 fun D h2 hD e2 E2 => q D h2 _ (eh.none hD) (eh.trans e2) E2 Fw.filter fun j => ?_)
      rw [lookK_filter Fw.sk, hlook]; rfl
    | false =>
      refine i_f rfl (i_var l3 (q wh h' wn hwh eh Ew Fw fun j => ?_))
      rw [hlook]; rfl
end Mini

/-! L1F -/
namespace Mini

/-- what a rising list says within a range -/
theorem lookK_seg {en : List Ent} (S : SK en) {lo hi : Int} {s t : Nat} (hs : s ≤ t) (ht : t ≤ en.length)
    (h1 : ∀ i (hi : i < en.length), i < s → en[i].2.1 < lo) (h2 : ∀ i (hi : i < en.length), s ≤ i → lo ≤ en[i].2.1)
    (h3 : ∀ i (hi' : i < en.length), s ≤ i → i < t → en[i].2.1 < hi) (h4 : ∀ i (hi' : i < en.length), t ≤ i → hi ≤ en[i].2.1) (j : Int) :
    lookK ((en.take t).drop s) j = if lo ≤ j ∧ j < hi then lookK en j else none := by
  have hseg : ∀ p ∈ (en.take t).drop s, lo ≤ p.2.1 ∧ p.2.1 < hi := fun p hp => by
    obtain ⟨i, hi', rfl⟩ := List.getElem_of_mem hp
    rw [List.length_drop, List.length_take] at hi'
    rw [List.getElem_drop, List.getElem_take]
    exact ⟨h2 (s + i) (by omega) (by omega), h3 (s + i) (by omega) (by omega) (by omega)⟩
  by_cases hj : lo ≤ j ∧ j < hi
  · rw [if_pos hj]
    have e1 : en = (en.take t).take s ++ ((en.take t).drop s ++ en.drop t) := by
      rw [← List.append_assoc, List.take_append_drop, List.take_append_drop]
    conv => rhs; rw [e1]
    rw [lookK_app, lookK_app]
    have a1 : lookK ((en.take t).take s) j = none := lookK_none fun p hp => by
      obtain ⟨i, hi', rfl⟩ := List.getElem_of_mem hp
      rw [List.length_take, List.length_take] at hi'
      rw [List.getElem_take, List.getElem_take]
      have := h1 i (by omega) (by omega); omega
    have a2 : lookK (en.drop t) j = none := lookK_none fun p hp => by
      obtain ⟨i, hi', rfl⟩ := List.getElem_of_mem hp
      rw [List.length_drop] at hi'
      rw [List.getElem_drop]
      have := h4 (t + i) (by omega) (by omega); omega
    rw [a1, a2]; simp
  · rw [if_neg hj]
    exact lookK_none fun p hp e => hj (e ▸ hseg p hp)

theorem getL_snoc (l : List (Addr × List Ent)) (r : Addr × List Ent) (j : Int) : getL (l ++ [r]) j = (getL l j).or (lookK r.2 j) := by
  induction l with
  | nil => simp [getL]
  | cons p l ih => rw [List.cons_append, getL, getL, ih, Option.or_assoc]

theorem scan_spec {B L g : Addr} {rs : List (Addr × List Ent)} {low high : Int} {h : AH} {Q : AV → AH → Prop} (A : ListsAt h L rs) (F : ∀ r ∈ rs, Fine r.2) (hl : rs.length ≤ 1000) (hlh : low ≤ high)
    (q : ∀ D h' en, Ext h h' → EntsAt h' D en → Fine en → (∀ j, lookK en j = if low ≤ j ∧ j < high then dropN (getL rs j) else none) → Q (.ref D) h') : f_scan B g [.ref L, .int low, .int high] h Q := by
  refine ⟨rfl, ?_⟩
  show t_scan B g _ _ _
  unfold t_scan
  refine i_seq (i_asg (i_list (i_nil ⟨Nat.zero_le _, fun t hBt ht => ?_⟩)))
  have e0 : Ext h (upd h t (.list [])) := Ext.new ht
  generalize hh0 : upd h t (Cell.list []) = h0
  have E0 : EntsAt h0 t [] := by rw [← hh0]; exact ⟨upd_same .., fun p hp => absurd hp List.not_mem_nil⟩
  rw [hh0] at e0
  refine i_seq (i_itL rfl (e0 _ _ A.1) ?_)
  refine ⟨fun i loc h' => ∃ tn : List Ent, i ≤ rs.length ∧ loc 1 = some (.int low) ∧ loc 2 = some (.int high) ∧ loc 3 = some (.ref t) ∧ ExtBut t h0 h' ∧ EntsAt h' t tn ∧ Fine tn ∧
      ∀ j, lookK tn j = if low ≤ j ∧ j < high then getL (rs.take i) j else none, rs.length,
    ⟨[], Nat.zero_le _, rfl, rfl, upd_same .., ExtBut.refl _ _, E0, Fine.nil, fun j => by rw [lookK_nil]; split <;> rfl⟩, ?_⟩
  rintro i loc h1 ⟨tn, hi, l1, l2, l3, eb, Et, Ft, hlook⟩
  have eh : Ext h h1 := ExtBut.ext e0 eb ht
  refine ⟨_, items_list (eh _ _ A.1), by rw [List.length_map]; exact Nat.le_refl _, ?_⟩
  by_cases hil : i < rs.length
  · rw [List.getElem?_map, List.getElem?_eq_getElem hil]
    have hm : rs[i] ∈ rs := List.getElem_mem hil
    have Er := (A.2 _ hm).ext eh
    have Fr := F _ hm
    have hrl := Fr.len
    generalize hen : rs[i].2 = en at *
    refine i_seq (i_asg (i_call (i_ekw (i_cons (i_var (upd_same ..) (i_cons (i_var ((upd_ne (by decide)).trans l1) (i_nil (i_glob ?_)))))))))
    refine bis3_spec Er Fr.sk (by omega) fun s hs a1 a2 => ?_
    refine i_seq (i_asg (i_call (i_ekw (i_cons (i_var ((upd_ne (by decide)).trans (upd_same ..)) (i_cons (i_var ((upd_ne (by decide)).trans ((upd_ne (by decide)).trans l2)) (i_cons (i_var (upd_same ..) (i_nil (i_glob ?_)))))))))))
    refine bis4_spec Er Fr.sk (by omega) hs fun u hsu hu a3 a4 => ?_
    have hseg := lookK_seg Fr.sk hsu hu a1 a2 a3 a4
    have hsegm : ∀ p ∈ (en.take u).drop s, p ∈ en := fun p hp => List.mem_of_mem_take (List.mem_of_mem_drop hp)
    have hsegS : SK ((en.take u).drop s) := Fr.sk.sublist ((List.drop_sublist _ _).trans (List.take_sublist _ _))
    have hsegl : ((en.take u).drop s).length ≤ 12 := by rw [List.length_drop, List.length_take]; omega
    refine ⟨_, (upd_ne (by decide)).trans ((upd_ne (by decide)).trans (upd_same ..)), ?_⟩
    refine ⟨.int (s : Int), (upd_ne (by decide)).trans (upd_same ..), (s : Int), rfl, ?_⟩
    refine ⟨.int (u : Int), upd_same .., ?_⟩
    refine ⟨(u : Int), rfl, rs[i].1, _, rfl, Er.1, by rw [List.length_map]; omega, Int.natCast_nonneg _, Int.natCast_nonneg _, fun Sg hBS hSg => ?_⟩
    have hsl : sliceA (en.map fun p => AV.ref p.1) (some (s : Int)) (some (u : Int)) = ((en.take u).drop s).map fun p => AV.ref p.1 := by
      show ((en.map fun p => AV.ref p.1).take u).drop s = _
      rw [List.map_drop, List.map_take]
    rw [hsl]
    have eS : Ext h1 (upd h1 Sg (.list (((en.take u).drop s).map fun p => AV.ref p.1))) := Ext.new hSg
    have hSt : Sg ≠ t := (ne_of Et.1 hSg).symm
    have hsegE : ∀ p ∈ (en.take u).drop s, upd h1 Sg (.list (((en.take u).drop s).map fun p => AV.ref p.1)) p.1 = some (.list [.int p.2.1, p.2.2]) := fun p hp => eS _ _ (Er.2 p (hsegm p hp))
    generalize (en.take u).drop s = seg at *
    generalize hh2 : upd h1 Sg (Cell.list (seg.map fun p => AV.ref p.1)) = h2 at *
    have hSat : h2 Sg = some (.list (seg.map fun p => AV.ref p.1)) := by rw [← hh2]; exact upd_same ..
    have hpt : ∀ p ∈ seg, p.1 ≠ t := fun p hp e => by
      have g1 := hsegE p hp
      have g2 := eS _ _ Et.1
      rw [e, g2] at g1
      cases tn with
      | nil => cases g1
      | cons a b => cases g1
    refine ⟨_, _, rfl, hSat, ?_⟩
    refine ⟨fun m loc' h' => ∃ tn : List Ent, m ≤ seg.length ∧ loc' 1 = some (.int low) ∧ loc' 2 = some (.int high) ∧ loc' 3 = some (.ref t) ∧ ExtBut t h2 h' ∧ EntsAt h' t tn ∧ Fine tn ∧
        ∀ j, lookK tn j = (if low ≤ j ∧ j < high then getL (rs.take i) j else none).or (lookK (seg.take m) j), seg.length,
      ⟨tn, Nat.zero_le _, ?_, ?_, ?_, ExtBut.refl _ _, Et.ext eS, Ft, fun j => by rw [hlook]; simp [lookK_nil]⟩, ?_⟩
    · rw [upd_ne (by decide), upd_ne (by decide), upd_ne (by decide)]; exact l1
    · rw [upd_ne (by decide), upd_ne (by decide), upd_ne (by decide)]; exact l2
    · rw [upd_ne (by decide), upd_ne (by decide), upd_ne (by decide)]; exact l3
    rintro m loc' h' ⟨tn, hmm, k1, k2, k3, eb2, Et2, Ft2, hlook2⟩
    refine ⟨_, items_list (eb2 _ _ hSt hSat), by rw [List.length_map]; exact Nat.le_refl _, ?_⟩
    by_cases hml : m < seg.length
    · rw [List.getElem?_map, List.getElem?_eq_getElem hml]
      have hpm : seg[m] ∈ seg := List.getElem_mem hml
      have hp := eb2 _ _ (hpt _ hpm) (hsegE _ hpm)
      have htl := Ft2.len
      dsimp only [T.asN]
      have hbelow : lookK (seg.take m) seg[m].2.1 = none := lookK_none fun p hp => by
        obtain ⟨k, hk, rfl⟩ := List.getElem_of_mem hp
        rw [List.length_take] at hk
        rw [List.getElem_take]
        have := hsegS.lt (i := k) (j := m) (by omega) hml (by omega)
        omega
      have hsnoc : ∀ j, lookK (seg.take (m + 1)) j = (lookK (seg.take m) j).or (if seg[m].2.1 = j then some seg[m].2.2 else none) := fun j => by
        rw [List.take_succ_eq_append_getElem hml, lookK_app, lookK_cons, lookK_nil]
      refine i_ife (i_cmp (i_call (i_cons (i_var ((upd_ne (by decide)).trans k3) (i_cons (i_idx (k := 0) (upd_same ..) hp (by decide) rfl (i_nil ?_)))))))
      refine find_spec Et2 Ft2.sk (by omega) (fun p hp2 hk => ?_) fun hn D hB hD => ?_
      · refine i_list (i_nil ⟨Nat.zero_le _, fun D2 hB2 hD2 => ?_⟩)
        refine ⟨_, _, dE_at (Ft2.ov p hp2) (Ext.new hD2 _ _ (Et2.2 p hp2)), nil_data (upd_same ..), dE_shaped _, nil_shaped, ?_⟩
        rw [eqv_ent]
        refine i_f rfl (i_skip ⟨tn, by omega, (upd_ne (by decide)).trans k1, (upd_ne (by decide)).trans k2, (upd_ne (by decide)).trans k3, eb2.trans ((Ext.new hD2).but t), Et2.ext (Ext.new hD2), Ft2, fun j => ?_⟩)
        rw [hsnoc, ← Option.or_assoc, ← hlook2]
        by_cases hj : seg[m].2.1 = j
        · rw [if_pos hj, ← hj, ← hk, lookK_mem Ft2.sk hp2]; rfl
        · rw [if_neg hj]; simp
      · refine i_list (i_nil ⟨Nat.zero_le _, fun D2 hB2 hD2 => ?_⟩)
        have e3 : Ext h' (upd (upd h' D (.list [])) D2 (.list [])) := (Ext.new hD).trans (Ext.new hD2)
        refine ⟨_, _, nil_data (Ext.new hD2 _ _ (upd_same ..)), nil_data (upd_same ..), nil_shaped, nil_shaped, ?_⟩
        rw [eqv_nil]
        refine i_t rfl (i_expr (i_call (i_cons (i_var ((upd_ne (by decide)).trans k3) (i_cons (i_idx (k := 0) (upd_same ..) (e3 _ _ hp) (by decide) rfl (i_cons (i_idx (k := 1) (upd_same ..) (e3 _ _ hp) (by decide) rfl (i_nil ?_)))))))))
        refine set_spec (Et2.ext e3) Ft2.sk (by omega) hBt fun h4 tn' eb4 Et4 S4 hl4 hm4 => ?_
        have hms := hsegE _ hpm
        refine ⟨tn', by omega, (upd_ne (by decide)).trans k1, (upd_ne (by decide)).trans k2, (upd_ne (by decide)).trans k3, (eb2.trans (e3.but t)).trans eb4, Et4, Ft2.set S4 (Fr.kr _ (hsegm _ hpm)) (Fr.ov _ (hsegm _ hpm)) hm4, fun j => ?_⟩
        rw [hl4, hsnoc, ← Option.or_assoc, ← hlook2]
        by_cases hj : j = seg[m].2.1
        · rw [if_pos hj, if_pos hj.symm, hj, hn]; rfl
        · rw [if_neg hj, if_neg (Ne.symm hj)]; simp
    · rw [List.getElem?_eq_none (by rw [List.length_map]; omega)]
      have hsg : seg.take m = seg := List.take_of_length_le (by omega)
      rw [hsg] at hlook2
      refine ⟨tn, by omega, k1, k2, k3, (eb.trans (eS.but t)).trans eb2, Et2, Ft2, fun j => ?_⟩
      rw [hlook2, hseg, List.take_succ_eq_append_getElem hil, getL_snoc, hen]
      split <;> rfl
  · rw [List.getElem?_eq_none (by rw [List.length_map]; omega)]
    rw [List.take_of_length_le (by omega)] at hlook
    refine i_ret (strip_ok Et Ft l3 fun D h2 _ e2 E2 => q D h2 _ (eh.trans e2) E2 Ft.filter fun j => ?_)
    rw [lookK_filter Ft.sk, hlook]
    split <;> rfl
end Mini

/-! L1G -/
namespace Mini

/-- the plain dict: unlike keys in their range, ints as values -/
structure FineD (es : List (Int × AV)) : Prop where
  nd : (es.map (·.1)).Nodup
  kr : ∀ p ∈ es, 0 ≤ p.1 ∧ p.1 < 12
  iv : ∀ p ∈ es, ∃ c, p.2 = .int c
theorem lookD_mem {es : List (Int × AV)} {k : Int} {v : AV} (h : lookD es k = some v) : (k, v) ∈ es := by
  unfold lookD at h
  obtain ⟨p, h1, h2⟩ := Option.map_eq_some_iff.mp h
  have h3 := List.find?_some h1
  have h4 := List.mem_of_find?_eq_some h1
  have : p.1 = k := by simpa using h3
  rw [← this, ← h2]; exact h4
theorem lookD_some {es : List (Int × AV)} {k : Int} (h : k ∈ es.map (·.1)) : ∃ v, lookD es k = some v := by
  induction es with
  | nil => cases h
  | cons p r ih =>
    unfold lookD at ih ⊢
    rw [List.find?_cons]
    by_cases hp : p.1 = k
    · exact ⟨p.2, by simp [hp]⟩
    · rw [List.map_cons] at h
      rcases List.mem_cons.mp h with h | h
      · exact absurd h.symm hp
      · obtain ⟨v, hv⟩ := ih h
        exact ⟨v, by simp only [hp, decide_false]; exact hv⟩
theorem lookD_none {es : List (Int × AV)} {k : Int} (h : k ∉ es.map (·.1)) : lookD es k = none := by
  cases q : lookD es k with
  | none => rfl
  | some v => exact absurd (List.mem_map.mpr ⟨_, lookD_mem q, rfl⟩) h

theorem nodup_sub : ∀ {l m : List Int}, l.Nodup → (∀ x ∈ l, x ∈ m) → l.length ≤ m.length
  | [], _, _, _ => Nat.zero_le _
  | x :: r, m, hn, hs => by
    have hn' := List.nodup_cons.mp hn
    have hx : x ∈ m := hs x (List.mem_cons_self ..)
    have := nodup_sub (m := m.erase x) hn'.2 fun y hy => (List.mem_erase_of_ne (fun (e : y = x) => hn'.1 (by rw [← e]; exact hy))).mpr (hs y (List.mem_cons_of_mem _ hy))
    rw [List.length_erase_of_mem hx] at this
    have h0 : 0 < m.length := List.length_pos_of_mem hx
    rw [List.length_cons]; omega
theorem nodup_len {l : List Int} (hn : l.Nodup) (hr : ∀ x ∈ l, 0 ≤ x ∧ x < 12) : l.length ≤ 12 := by
  have h1 : ∀ x ∈ l, x ∈ (List.range 12).map fun (i : Nat) => (i : Int) := fun x hx => by
    obtain ⟨a, b⟩ := hr x hx
    exact List.mem_map.mpr ⟨x.toNat, List.mem_range.mpr (by omega), by omega⟩
  have := nodup_sub hn h1
  simpa using this
theorem FineD.len {es : List (Int × AV)} (F : FineD es) : es.length ≤ 12 := by
  have := nodup_len F.nd fun x hx => by
    obtain ⟨p, hp, rfl⟩ := List.mem_map.mp hx; exact F.kr p hp
  rwa [List.length_map] at this

theorem due_spec {B d g : Addr} {es : List (Int × AV)} {low high : Int} {h : AH} {Q : AV → AH → Prop} (hd : h d = some (.idict es)) (F : FineD es)
    (q : ∀ D h' en, Ext h h' → EntsAt h' D en → Fine en → (∀ j, lookK en j = if low ≤ j ∧ j < high then lookD es j else none) → Q (.ref D) h') : f_due B g [.ref d, .int low, .int high] h Q := by
  refine ⟨rfl, ?_⟩
  have hel := F.len
  show t_due B g _ _ _
  unfold t_due
  refine i_ret (i_compAt ?_)
  refine i_call (i_cons (i_var (v := .ref d) rfl (i_nil ⟨d, es, rfl, hd, by omega, fun ks hperm hsrt S hBS hS => ?_⟩)))
  have hkl : ks.length ≤ 12 := by rw [hperm.length_eq, List.length_map]; exact hel
  have hmem : ∀ x, x ∈ ks ↔ x ∈ es.map (·.1) := fun x => hperm.mem_iff
  have e0 : Ext h (upd h S (.list (ks.map AV.int))) := Ext.new hS
  refine ⟨S, _, rfl, upd_same .., ?_⟩
  refine compE (p := fun v => match v with | .int k => decide (low ≤ k) && decide (k < high) | _ => false) (f := fun v => match v with | .int k => (k, (lookD es k).getD .none) | _ => (0, .none)) (items_list (upd_same ..)) (by rw [List.length_map]; omega)
    (fun v hv h2 hx Q' q' => ?_) (fun v hv _ h2 hx Q' q' => ?_) fun D h' en hB hD e1 E hen => ?_
  · obtain ⟨k, hk, rfl⟩ := List.mem_map.mp hv
    refine i_and (i_cmp (i_var (v := .int low) ((upd_ne (by decide)).trans rfl) (i_var (upd_same ..) ⟨_, _, rfl, rfl, ?_⟩)))
    dsimp only at q'
    by_cases c1 : low ≤ k
    · refine i_t (decide_eq_true c1) ?_
      refine i_cmp (i_var (upd_same ..) (i_var (v := .int high) ((upd_ne (by decide)).trans rfl) ⟨_, _, rfl, rfl, ?_⟩))
      rw [decide_eq_true c1, Bool.true_and] at q'; exact q'
    · refine i_f (decide_eq_false c1) ?_
      rw [decide_eq_false c1, Bool.false_and] at q'; exact q'
  · obtain ⟨k, hk, rfl⟩ := List.mem_map.mp hv
    obtain ⟨v, hv⟩ := lookD_some ((hmem k).mp hk)
    refine i_list (i_cons (i_var (upd_same ..) (i_cons ?_)))
    refine ⟨.ref d, (upd_ne (by decide)).trans rfl, .int k, upd_same .., d, es, k, v, rfl, rfl, hx _ _ (e0 _ _ hd), hv, i_nil ⟨by show (2 : Nat) ≤ 2 ^ 20; decide, fun D hB hD => ?_⟩⟩
    have := q' D hB hD
    dsimp only at this
    rw [hv] at this
    exact this
  · have hvals : en.map (·.2) = (ks.filter fun k => decide (low ≤ k) && decide (k < high)).map fun k => (k, (lookD es k).getD .none) := by
      rw [hen, List.filter_map, List.map_map]; rfl
    have hpm : ∀ p ∈ en, ∃ k ∈ ks, low ≤ k ∧ k < high ∧ p.2 = (k, (lookD es k).getD .none) := fun p hp => by
      have : p.2 ∈ en.map (·.2) := List.mem_map_of_mem hp
      rw [hvals] at this
      obtain ⟨k, hk, e⟩ := List.mem_map.mp this
      obtain ⟨hk1, hk2⟩ := List.mem_filter.mp hk
      rw [Bool.and_eq_true, decide_eq_true_eq, decide_eq_true_eq] at hk2
      exact ⟨k, hk1, hk2.1, hk2.2, e.symm⟩
    have hnd : ks.Nodup := hperm.nodup_iff.mpr F.nd
    have hlt : ks.Pairwise (· < ·) := by
      have := hsrt.and hnd
      exact this.imp fun ⟨a, b⟩ => by omega
    have S1 : SK en := by
      have h1 : en.map (fun p => p.2.1) = ks.filter fun k => decide (low ≤ k) && decide (k < high) := by
        have := congrArg (List.map Prod.fst) hvals
        rw [List.map_map, List.map_map] at this
        have h2 : List.map (Prod.fst ∘ fun k => (k, (lookD es k).getD AV.none)) (ks.filter fun k => decide (low ≤ k) && decide (k < high)) = (ks.filter fun k => decide (low ≤ k) && decide (k < high)) := List.map_id _
        rw [h2] at this; exact this
      have h3 : (en.map fun p => p.2.1).Pairwise (· < ·) := by rw [h1]; exact hlt.sublist List.filter_sublist
      exact List.pairwise_map.mp h3
    have Fe : Fine en := by
      refine ⟨S1, fun p hp => ?_, fun p hp => ?_⟩
      · obtain ⟨k, hk, _, _, e⟩ := hpm p hp
        rw [e]
        obtain ⟨r, hr, rfl⟩ := List.mem_map.mp ((hmem k).mp hk)
        exact F.kr r hr
      · obtain ⟨k, hk, _, _, e⟩ := hpm p hp
        rw [e]
        obtain ⟨v, hv⟩ := lookD_some ((hmem k).mp hk)
        obtain ⟨c, hc⟩ := F.iv _ (lookD_mem hv)
        rw [hv]
        show okV v
        rw [show v = .int c from hc]; trivial
    refine q D h' en (e0.trans e1) E Fe fun j => ?_
    by_cases hj : (low ≤ j ∧ j < high) ∧ j ∈ ks
    · rw [if_pos hj.1]
      have : (j, (lookD es j).getD .none) ∈ en.map (·.2) := by
        rw [hvals]
        exact List.mem_map.mpr ⟨j, List.mem_filter.mpr ⟨hj.2, by rw [decide_eq_true hj.1.1, decide_eq_true hj.1.2]; rfl⟩, rfl⟩
      obtain ⟨p, hp, e⟩ := List.mem_map.mp this
      have := lookK_mem S1 hp
      rw [e] at this
      rw [this]
      obtain ⟨v, hv⟩ := lookD_some ((hmem j).mp hj.2)
      rw [hv]; rfl
    · have hn : lookK en j = none := lookK_none fun p hp e => by
        obtain ⟨k, hk, h1, h2, e2⟩ := hpm p hp
        rw [e2] at e
        exact hj ⟨e ▸ ⟨h1, h2⟩, e ▸ hk⟩
      rw [hn]
      split
      · rename_i c
        exact (lookD_none fun hm => hj ⟨c, (hmem j).mpr hm⟩).symm
      · rfl
end Mini

/-! L1H -/
namespace Mini

/-! the dict, written and struck -/
theorem lookD_cons (p : Int × AV) (r : List (Int × AV)) (k : Int) : lookD (p :: r) k = if p.1 = k then some p.2 else lookD r k := by
  unfold lookD
  rw [List.find?_cons]
  by_cases h : p.1 = k
  · simp [h]
  · simp [h]
theorem lookD_app (l r : List (Int × AV)) (k : Int) : lookD (l ++ r) k = (lookD l k).or (lookD r k) := by
  induction l with
  | nil => simp [lookD]
  | cons p l ih =>
    rw [List.cons_append, lookD_cons, lookD_cons, ih]
    split <;> simp
theorem lookD_store (es : List (Int × AV)) (k : Int) (v : AV) (j : Int) : lookD (storeD es k v) j = if j = k then some v else lookD es j := by
  unfold storeD
  have hmap : ∀ l : List (Int × AV), lookD (l.map fun p => if p.1 = k then (p.1, v) else p) j = if j = k then (lookD l j).map (fun _ => v) else lookD l j := by
    intro l
    induction l with
    | nil => simp [lookD]
    | cons p l ih =>
      rw [List.map_cons, lookD_cons, lookD_cons, ih]
      by_cases hp : p.1 = k
      · rw [if_pos hp]
        by_cases hj : p.1 = j
        · simp only [hj, if_true]; rw [if_pos (by omega)]; rfl
        · simp only [hj, if_false]
      · rw [if_neg hp]
        by_cases hj : p.1 = j
        · simp only [hj, if_true]; rw [if_neg (by omega)]
        · simp only [hj, if_false]
  split
  · rename_i h
    rw [hmap]
    by_cases hj : j = k
    · rw [if_pos hj, if_pos hj, hj]
      obtain ⟨x, hx⟩ := Option.isSome_iff_exists.mp h
      rw [hx]; rfl
    · rw [if_neg hj, if_neg hj]
  · rename_i h
    rw [lookD_app, lookD_cons]
    have hn : lookD es k = none := by simpa using h
    by_cases hj : j = k
    · rw [if_pos hj, if_pos hj.symm, hj, hn]; rfl
    · rw [if_neg hj, if_neg (Ne.symm hj)]; simp [lookD]
theorem lookD_drop (es : List (Int × AV)) (k j : Int) : lookD (dropD es k) j = if j = k then none else lookD es j := by
  unfold dropD
  induction es with
  | nil => simp [lookD]
  | cons p r ih =>
    rw [List.filter_cons, lookD_cons]
    by_cases hp : p.1 = k
    · rw [if_neg (by simpa using hp), ih]
      by_cases hj : j = k
      · rw [if_pos hj, if_pos hj]
      · rw [if_neg hj, if_neg hj, if_neg (by omega)]
    · rw [if_pos (by simpa using hp), lookD_cons, ih]
      by_cases hj : j = k
      · rw [if_pos hj, if_pos hj, if_neg (by omega)]
      · rw [if_neg hj, if_neg hj]
theorem FineD.store {es : List (Int × AV)} (F : FineD es) {k c : Int} (hk : 0 ≤ k ∧ k < 12) : FineD (storeD es k (.int c)) := by
  have hkeys : (storeD es k (.int c)).map (·.1) = if (lookD es k).isSome then es.map (·.1) else es.map (·.1) ++ [k] := by
    unfold storeD
    split
    · rw [List.map_map]
      refine List.map_congr_left fun p _ => ?_
      simp only [Function.comp]; split <;> rfl
    · rw [List.map_append]; rfl
  have hmem : ∀ p ∈ storeD es k (.int c), (p ∈ es) ∨ (p.2 = .int c ∧ (p.1 = k)) := fun p hp => by
    unfold storeD at hp
    split at hp
    · obtain ⟨q, hq, rfl⟩ := List.mem_map.mp hp
      split
      · rename_i h; exact .inr ⟨rfl, h⟩
      · exact .inl hq
    · rcases List.mem_append.mp hp with hp | hp
      · exact .inl hp
      · rw [List.mem_singleton.mp hp]; exact .inr ⟨rfl, rfl⟩
  refine ⟨?_, fun p hp => ?_, fun p hp => ?_⟩
  · rw [hkeys]
    split
    · exact F.nd
    · rename_i h
      rw [List.nodup_append]
      refine ⟨F.nd, by simp, fun a ha b hb e => ?_⟩
      rw [List.mem_singleton.mp hb] at e
      obtain ⟨v, hv⟩ := lookD_some ha
      rw [e] at hv
      rw [hv] at h; exact h rfl
  · rcases hmem p hp with h | ⟨_, h⟩
    · exact F.kr p h
    · rw [h]; exact hk
  · rcases hmem p hp with h | ⟨h, _⟩
    · exact F.iv p h
    · exact ⟨c, h⟩
theorem FineD.drop {es : List (Int × AV)} (F : FineD es) (k : Int) : FineD (dropD es k) :=
  ⟨F.nd.sublist (List.Sublist.map _ List.filter_sublist), fun p hp => F.kr p (List.mem_filter.mp hp).1, fun p hp => F.iv p (List.mem_filter.mp hp).1⟩

/-! the store -/
structure Mem (B N : Addr) (nums : List Int) (h : AH) (mem RL pd : Addr) (mn : List Ent) (rs : List (Addr × List Ent)) (es : List (Int × AV)) : Prop where
  En : EntsAt h mem mn
  Lr : ListsAt h RL rs
  Pd : h pd = some (.idict es)
  Fm : Fine mn
  Fr : ∀ r ∈ rs, Fine r.2
  Fd : FineD es
  Bm : B ≤ mem
  Bp : B ≤ pd
  nR : RL ≠ mem
  nr : ∀ r ∈ rs, r.1 ≠ mem
  rel : ∀ j, lookD es j = dropN ((lookK mn j).or (getL rs j))
  Nn : h N = some (.list (nums.map AV.int))
  nz : nums ≠ []
theorem Mem.ext {B N : Addr} {nums : List Int} {h h' : AH} {mem RL pd : Addr} {mn : List Ent} {rs : List (Addr × List Ent)} {es : List (Int × AV)} (M : Mem B N nums h mem RL pd mn rs es) (e : Ext h h') : Mem B N nums h' mem RL pd mn rs es :=
  ⟨M.En.ext e, M.Lr.ext e, e _ _ M.Pd, M.Fm, M.Fr, M.Fd, M.Bm, M.Bp, M.nR, M.nr, M.rel, e _ _ M.Nn, M.nz⟩
theorem ent_ne {h : AH} {mem : Addr} {mn : List Ent} (E : EntsAt h mem mn) {a : Addr} {k : Int} {r : List AV} (ha : h a = some (.list (.int k :: r))) : a ≠ mem := by
  intro e
  rw [e, E.1] at ha
  match mn, ha with
  | q :: t, ha => cases ha
/-- the memory's list changed, nothing else -/
theorem Mem.set {B N : Addr} {nums : List Int} {h h' : AH} {mem RL pd : Addr} {mn mn' : List Ent} {rs : List (Addr × List Ent)} {es es' : List (Int × AV)} (M : Mem B N nums h mem RL pd mn rs es) (e : ExtBut mem h h') (E' : EntsAt h' mem mn') (F' : Fine mn') :
    ListsAt h' RL rs ∧ h' pd = some (.idict es) ∧ h' N = some (.list (nums.map AV.int)) := by
  refine ⟨⟨e _ _ M.nR M.Lr.1, fun r hr => (M.Lr.2 r hr).but e (M.nr r hr) fun p hp => ent_ne M.En ((M.Lr.2 r hr).2 p hp)⟩, e _ _ (fun q => ?_) M.Pd, e _ _ ?_ M.Nn⟩
  · have := M.Pd; rw [q, M.En.1] at this; cases this
  · have h1 := M.nz
    have h2 := M.Nn
    match nums, h1, h2 with
    | x :: r, _, h2 => exact ent_ne M.En h2

structure LF (loc : Loc) (N mem RL pd : Addr) (turn c kind k : Int) : Prop where
  l1 : loc 1 = some (.ref N)
  l2 : loc 2 = some (.ref mem)
  l3 : loc 3 = some (.ref RL)
  l4 : loc 4 = some (.ref pd)
  l5 : loc 5 = some (.int turn)
  l8 : loc 8 = some (.int c)
  l9 : loc 9 = some (.int kind)
  l10 : loc 10 = some (.int k)

def Wk (B N : Addr) (nums : List Int) (R : Nat) (turn c kind k : Int) (loc : Loc) (h : AH) : Prop :=
  ∃ mem mn RL rs pd es, Mem B N nums h mem RL pd mn rs es ∧ LF loc N mem RL pd turn c kind k ∧ rs.length ≤ R

section
variable {B N g : Addr} {nums : List Int} {R : Nat} {turn c kind k : Int} {loc : Loc} {h : AH} {Q : Fl → Loc → AH → Prop}
theorem list_ne_dict {h : AH} {a pd : Addr} {xs : List AV} {es : List (Int × AV)} (ha : h a = some (.list xs)) (hp : h pd = some (.idict es)) : a ≠ pd := fun e => by rw [e, hp] at ha; cases ha
/-- a dict written in its place leaves the lists -/
theorem Mem.dict {mem RL pd : Addr} {mn : List Ent} {rs : List (Addr × List Ent)} {es es' : List (Int × AV)} (En : EntsAt h mem mn) (Lr : ListsAt h RL rs) (Pd : h pd = some (.idict es)) (Nn : h N = some (.list (nums.map AV.int))) :
    EntsAt (upd h pd (.idict es')) mem mn ∧ ListsAt (upd h pd (.idict es')) RL rs ∧ upd h pd (.idict es') N = some (.list (nums.map AV.int)) := by
  have e : ∀ a xs, h a = some (.list xs) → upd h pd (.idict es') a = some (.list xs) := fun a xs ha => (upd_ne (list_ne_dict ha Pd)).trans ha
  exact ⟨⟨e _ _ En.1, fun p hp => e _ _ (En.2 p hp)⟩, ⟨e _ _ Lr.1, fun r hr => ⟨e _ _ (Lr.2 r hr).1, fun p hp => e _ _ ((Lr.2 r hr).2 p hp)⟩⟩, e _ _ Nn⟩

theorem put_ok (W : Wk B N nums R turn c kind k loc h) (hk : 0 ≤ k ∧ k < 12) (q : ∀ loc' h', Wk B N nums R turn c kind k loc' h' → Q .next loc' h') :
    T.ife (T.cmp P.lt (T.var 9) (T.int 2))
   (T.seq (T.expr (T.call (T.econs (T.var 2) (T.econs (T.var 10) (T.econs (T.var 8) T.enil))) (f_set B g)))
  (T.setidxD B (T.var 4) (T.var 10) (T.var 8)))
   T.skip loc h Q := by
  obtain ⟨mem, mn, RL, rs, pd, es, M, L, hR⟩ := W
  have hml := M.Fm.len
  refine i_ife (i_cmp (i_var L.l9 (i_int ⟨_, _, rfl, rfl, ?_⟩)))
  by_cases hc : kind < 2
  · refine i_t (decide_eq_true hc) ?_
    refine i_seq (i_expr (i_call (i_cons (i_var L.l2 (i_cons (i_var L.l10 (i_cons (i_var L.l8 (i_nil ?_)))))))))
    refine set_spec M.En M.Fm.sk (by omega) M.Bm fun h' mn' eb E' S' hl hm => ?_
    have F' := M.Fm.set (v := .int c) S' hk trivial hm
    obtain ⟨Lr', Pd', Nn'⟩ := M.set (es' := es) eb E' F'
    obtain ⟨E2, Lr2, Nn2⟩ := Mem.dict (es' := storeD es k (.int c)) E' Lr' Pd' Nn'
    have hel := M.Fd.len
    refine ⟨_, L.l8, _, L.l4, _, L.l10, pd, es, k, rfl, rfl, Pd', M.Bp, by omega, q _ _ ⟨mem, mn', RL, rs, pd, storeD es k (.int c), ⟨E2, Lr2, upd_same .., F', M.Fr, M.Fd.store hk, M.Bm, M.Bp, M.nR, M.nr, fun j => ?_, Nn2, M.nz⟩, L, hR⟩⟩
    rw [lookD_store, hl]
    split
    · rfl
    · exact M.rel j
  · refine i_f (decide_eq_false hc) (i_skip (q _ _ ⟨mem, mn, RL, rs, pd, es, M, L, hR⟩))

theorem del_ok (W : Wk B N nums R turn c kind k loc h) (hk : 0 ≤ k ∧ k < 12) (q : ∀ loc' h', Wk B N nums R turn c kind k loc' h' → Q .next loc' h') :
    T.ife (T.cmp P.eqI (T.var 9) (T.int 2))
   (T.seq (T.expr (T.call (T.econs (T.var 2) (T.econs (T.var 10) (T.econs T.none T.enil))) (f_set B g)))
  (T.ife (T.cmp P.inD (T.var 10) (T.var 4))
   (T.expr (T.methD (T.var 4) (T.econs (T.var 10) T.enil) (F.dpop B)))
   T.skip))
   T.skip loc h Q := by
  obtain ⟨mem, mn, RL, rs, pd, es, M, L, hR⟩ := W
  have hml := M.Fm.len
  have hel := M.Fd.len
  refine i_ife (i_cmp (i_var L.l9 (i_int ⟨_, _, rfl, rfl, ?_⟩)))
  by_cases hc : (kind == 2) = true
  · refine i_t hc ?_
    refine i_seq (i_expr (i_call (i_cons (i_var L.l2 (i_cons (i_var L.l10 (i_cons (i_none (i_nil ?_)))))))))
    refine set_spec M.En M.Fm.sk (by omega) M.Bm fun h' mn' eb E' S' hl hm => ?_
    have F' := M.Fm.set (v := .none) S' hk trivial hm
    obtain ⟨Lr', Pd', Nn'⟩ := M.set (es' := es) eb E' F'
    refine i_ife (i_cmp (i_var L.l10 (i_var L.l4 ⟨pd, es, k, rfl, rfl, Pd', ?_⟩)))
    cases hv : lookD es k with
    | none =>
      refine i_f rfl (i_skip (q _ _ ⟨mem, mn', RL, rs, pd, es, ⟨E', Lr', Pd', F', M.Fr, M.Fd, M.Bm, M.Bp, M.nR, M.nr, fun j => ?_, Nn', M.nz⟩, L, hR⟩))
      rw [hl]
      split
      · rename_i hj; rw [hj, hv]; rfl
      · exact M.rel j
    | some v =>
      obtain ⟨E2, Lr2, Nn2⟩ := Mem.dict (es' := dropD es k) E' Lr' Pd' Nn'
      refine i_t rfl (i_expr ⟨_, L.l4, ⟨pd, es, rfl, Pd'⟩, i_cons (i_var L.l10 (i_nil ⟨pd, es, k, v, rfl, Pd', M.Bp, by omega, hv, q _ _ ⟨mem, mn', RL, rs, pd, dropD es k, ⟨E2, Lr2, upd_same .., F', M.Fr, M.Fd.drop k, M.Bm, M.Bp, M.nR, M.nr, fun j => ?_, Nn2, M.nz⟩, L, hR⟩⟩))⟩)
      rw [lookD_drop, hl]
      split
      · rfl
      · exact M.rel j
  · refine i_f (by simpa using hc) (i_skip (q _ _ ⟨mem, mn, RL, rs, pd, es, M, L, hR⟩))
end
end Mini

/-! L1I -/
namespace Mini

section
variable {B N g : Addr} {nums : List Int} {R : Nat} {turn c kind k : Int} {loc : Loc} {h : AH}

/-- [memory] + runs -/
theorem lists_ok {mem RL pd : Addr} {mn : List Ent} {rs : List (Addr × List Ent)} {es : List (Int × AV)} {Q : AV → AH → Prop} (M : Mem B N nums h mem RL pd mn rs es) (l2 : loc 2 = some (.ref mem)) (l3 : loc 3 = some (.ref RL)) (hR : rs.length ≤ 900)
    (q : ∀ L h', Ext h h' → B ≤ L → h L = none → ListsAt h' L ((mem, mn) :: rs) → Q (.ref L) h') : T.bin (P.addL B) (T.list B (T.econs (T.var 2) T.enil)) (T.var 3) loc h Q := by
  refine i_bin (i_list (i_cons (i_var l2 (i_nil ⟨by show (1 : Nat) ≤ 2 ^ 20; decide, fun D1 hB1 hD1 => ?_⟩))))
  have e1 : Ext h (upd h D1 (.list [.ref mem])) := Ext.new hD1
  refine i_var l3 ⟨D1, RL, _, _, rfl, rfl, upd_same .., e1 _ _ M.Lr.1, by rw [List.length_map]; show 1 + rs.length ≤ 2 ^ 20; omega, fun D2 hB2 hD2 => ?_⟩
  have e2 : Ext h (upd (upd h D1 (.list [.ref mem])) D2 (.list ([.ref mem] ++ rs.map fun r => AV.ref r.1))) := e1.trans (Ext.new hD2)
  have M2 := M.ext e2
  refine q D2 _ e2 hB2 (e1.none hD2) ⟨by rw [upd_same]; rfl, fun r hr => ?_⟩
  rcases List.mem_cons.mp hr with rfl | hr
  · exact M2.En
  · exact M2.Lr.2 r hr

theorem fine_all {mem RL pd : Addr} {mn : List Ent} {rs : List (Addr × List Ent)} {es : List (Int × AV)} (M : Mem B N nums h mem RL pd mn rs es) : ∀ r ∈ ((mem, mn) :: rs), Fine r.2 := fun r hr => by
  rcases List.mem_cons.mp hr with rfl | hr
  · exact M.Fm
  · exact M.Fr r hr

theorem getL_ok : ∀ {rs : List (Addr × List Ent)}, (∀ r ∈ rs, Fine r.2) → ∀ j v, getL rs j = some v → okV v
  | [], _, j, v, e => by cases e
  | r :: rs, F, j, v, e => by
    unfold getL at e
    cases hr : lookK r.2 j with
    | none => rw [hr] at e; exact getL_ok (fun s hs => F s (List.mem_cons_of_mem _ hs)) j v e
    | some u =>
      rw [hr] at e
      cases e
      obtain ⟨p, hp, _, rfl⟩ := mem_of_lookK hr
      exact (F r (List.mem_cons_self ..)).ov p hp

/-- the check of one key -/
theorem chk_ok {mem RL pd : Addr} {mn : List Ent} {rs : List (Addr × List Ent)} {es : List (Int × AV)} {Q : Bool → AH → Prop} {i : Nat} {x : Int} (M : Mem B N nums h mem RL pd mn rs es) (l2 : loc 2 = some (.ref mem)) (l3 : loc 3 = some (.ref RL)) (l4 : loc 4 = some (.ref pd)) (hR : rs.length ≤ 900) (hi : loc i = some (.int x))
    (q : ∀ h', Ext h h' → Q false h') :
    T.cmp P.neO (T.call (T.econs (T.bin (P.addL B) (T.list B (T.econs (T.var 2) T.enil)) (T.var 3)) (T.econs (T.var i) T.enil)) (f_get B g)) (T.methD (T.var 4) (T.econs (T.var i) T.enil) F.dget) loc h Q := by
  refine i_cmp (i_call (i_cons (lists_ok M l2 l3 hR fun L h1 e1 _ _ A => i_cons (i_var hi (i_nil ?_)))))
  refine get_spec A (fine_all M) (by rw [List.length_cons]; omega) fun h2 e2 => ?_
  have e12 := e1.trans e2
  refine ⟨_, l4, ⟨pd, es, rfl, e12 _ _ M.Pd⟩, i_cons (i_var hi (i_nil ⟨pd, es, x, rfl, e12 _ _ M.Pd, ?_⟩))⟩
  have hg : ∀ v, getL ((mem, mn) :: rs) x = some v → okV v := fun v hv => getL_ok (fine_all M) x v hv
  have hrel := M.rel x
  have hgl : getL ((mem, mn) :: rs) x = (lookK mn x).or (getL rs x) := rfl
  rw [hgl] at hg ⊢
  rw [hrel]
  generalize (lookK mn x).or (getL rs x) = o at *
  have hq := q _ e12
  cases o with
  | none => exact ⟨rfl, rfl, hq⟩
  | some v =>
    have := hg v rfl
    cases v with
    | none => exact ⟨rfl, rfl, hq⟩
    | int y => exact ⟨rfl, rfl, by show Q (!(y == y)) _; rw [beq_self_eq_true]; exact hq⟩
    | bool b => exact this.elim
    | ref a => exact this.elim
    | other => exact this.elim

theorem flush_ok {Q : Fl → Loc → AH → Prop} (W : Wk B N nums R turn c kind k loc h) (hR9 : R ≤ 800) (q : ∀ loc' h', Wk B N nums (R + 1) turn c kind k loc' h' → Q .next loc' h') :
    T.ife (T.and (T.cmp P.eqI (T.var 9) (T.int 3)) (T.cmp P.neD (T.var 2) (T.list B T.enil)))
   (T.seq (T.asg 3 (T.bin (P.addL B) (T.list B (T.econs (T.var 2) T.enil)) (T.var 3)))
  (T.asg 2 (T.list B T.enil)))
   T.skip loc h Q := by
  obtain ⟨mem, mn, RL, rs, pd, es, M, L, hR⟩ := W
  have stay : ∀ h', Ext h h' → Q .next loc h' := fun h' e => q _ _ ⟨mem, mn, RL, rs, pd, es, M.ext e, L, by omega⟩
  refine i_ife (i_and (i_cmp (i_var L.l9 (i_int ⟨_, _, rfl, rfl, ?_⟩))))
  by_cases hc : (kind == 3) = true
  · refine i_t hc ?_
    refine i_cmp (i_var L.l2 (i_list (i_nil ⟨Nat.zero_le _, fun D0 hB0 hD0 => ?_⟩)))
    have e0 : Ext h (upd h D0 (.list [])) := Ext.new hD0
    have M0 := M.ext e0
    refine ⟨_, _, M0.En.data M.Fm.ov, nil_data (upd_same ..), dEs_shaped _, nil_shaped, ?_⟩
    cases hb : (!PyData.eqv (.list ((mn.map (·.2)).map dE)) (.list [])) with
    | false => exact i_f rfl (i_skip (stay _ e0))
    | true =>
      refine i_t rfl (i_seq (i_asg (lists_ok M0 L.l2 L.l3 (by omega) fun LL h1 e1 hBL hLL A => ?_)))
      refine i_asg (i_list (i_nil ⟨Nat.zero_le _, fun D hB hD => ?_⟩))
      have M1 := M0.ext e1
      have e2 : Ext h1 (upd h1 D (.list [])) := Ext.new hD
      have M2 := M1.ext e2
      refine q _ _ ⟨D, [], LL, (mem, mn) :: rs, pd, es, ⟨⟨upd_same .., fun p hp => absurd hp List.not_mem_nil⟩, A.ext e2, M2.Pd, Fine.nil, fine_all M, M.Fd, hB, M.Bp, ne_of A.1 hD, fun r hr => ne_of (A.2 r hr).1 hD, fun j => ?_, M2.Nn, M.nz⟩, ⟨?_, upd_same .., ?_, ?_, ?_, ?_, ?_, ?_⟩, by rw [List.length_cons]; omega⟩
      · rw [M.rel j]; rfl
      · rw [upd_ne (by decide), upd_ne (by decide)]; exact L.l1
      · rw [upd_ne (by decide)]; exact upd_same ..
      · rw [upd_ne (by decide), upd_ne (by decide)]; exact L.l4
      · rw [upd_ne (by decide), upd_ne (by decide)]; exact L.l5
      · rw [upd_ne (by decide), upd_ne (by decide)]; exact L.l8
      · rw [upd_ne (by decide), upd_ne (by decide)]; exact L.l9
      · rw [upd_ne (by decide), upd_ne (by decide)]; exact L.l10
  · refine i_f (by simpa using hc) (i_f rfl (i_skip (stay _ (Ext.refl _))))

theorem getL_app (l r : List (Addr × List Ent)) (j : Int) : getL (l ++ r) j = (getL l j).or (getL r j) := by
  induction l with
  | nil => simp [getL]
  | cons p l ih => rw [List.cons_append, getL, getL, ih, Option.or_assoc]
theorem dropN_or (a b : Option AV) : dropN (a.or (dropN b)) = dropN (a.or b) := by
  cases a with
  | none =>
    cases b with
    | none => rfl
    | some v => cases v <;> rfl
  | some v => rfl

theorem dropN_or2 (a b y : Option AV) : dropN (a.or (b.or (dropN y))) = dropN (a.or (b.or y)) := by rw [← Option.or_assoc, dropN_or, Option.or_assoc]

theorem compact_ok {Q : Fl → Loc → AH → Prop} (W : Wk B N nums R turn c kind k loc h) (hR9 : R ≤ 800) (q : ∀ loc' h', Wk B N nums R turn c kind k loc' h' → Q .next loc' h') :
    T.ife (T.and (T.cmp P.eqI (T.var 9) (T.int 4)) (T.cmp P.gt (T.call (T.econs (T.var 3) T.enil) F.len) (T.int 1)))
   (T.seq (T.asg 11 (T.bin P.fmod (T.call (T.econs (T.var 8) T.enil) F.abs) (T.bin P.sub (T.call (T.econs (T.var 3) T.enil) F.len) (T.int 1))))
  (T.asg 3 (T.bin (P.addL B) (T.bin (P.addL B) (T.slice B (T.var 3) none (some (T.var 11))) (T.list B (T.econs (T.call (T.econs (T.idx (T.var 3) (T.var 11)) (T.econs (T.idx (T.var 3) (T.bin P.add (T.var 11) (T.int 1))) (T.econs (T.val (T.cmp P.eqI (T.bin P.add (T.var 11) (T.int 2)) (T.call (T.econs (T.var 3) T.enil) F.len))) T.enil))) (f_merge B g)) T.enil))) (T.slice B (T.var 3) (some (T.bin P.add (T.var 11) (T.int 2))) none))))
   T.skip loc h Q := by
  obtain ⟨mem, mn, RL, rs, pd, es, M, L, hR⟩ := W
  have stay : Q .next loc h := q _ _ ⟨mem, mn, RL, rs, pd, es, M, L, hR⟩
  have hlm : (rs.map fun r => AV.ref r.1).length = rs.length := List.length_map _
  refine i_ife (i_and (i_cmp (i_var L.l9 (i_int ⟨_, _, rfl, rfl, ?_⟩))))
  by_cases hc : (kind == 4) = true
  · refine i_t hc ?_
    refine i_cmp (i_len L.l3 M.Lr.1 (by omega) (i_int ⟨_, _, rfl, rfl, ?_⟩))
    rw [hlm]
    by_cases h1 : (rs.length : Int) > 1
    · refine i_t (decide_eq_true h1) ?_
      refine i_seq (i_asg (i_bin (i_call (i_cons (i_var L.l8 (i_nil ⟨c, rfl, ?_⟩))))))
      refine i_bin (i_len L.l3 M.Lr.1 (by omega) (i_int (i_sub ⟨_, _, rfl, rfl, by rw [hlm]; omega, ?_⟩)))
      rw [hlm]
      have hp : ∃ p : Nat, ((c.natAbs : Int)).fmod ((rs.length : Int) - 1) = (p : Int) ∧ p + 1 < rs.length := by
        have g1 := Int.fmod_nonneg_of_pos (c.natAbs : Int) (b := (rs.length : Int) - 1) (by omega)
        have g2 := Int.fmod_lt_of_pos (c.natAbs : Int) (b := (rs.length : Int) - 1) (by omega)
        exact ⟨(((c.natAbs : Int)).fmod ((rs.length : Int) - 1)).toNat, by omega, by omega⟩
      obtain ⟨p, hpe, hpl⟩ := hp
      rw [hpe]
      have L2 : ∀ i, i ≠ 11 → upd loc 11 (.int (p : Int)) i = loc i := fun i hi => upd_ne hi
      refine i_asg (i_bin (i_bin ?_))
      refine ⟨_, (L2 3 (by decide)).trans L.l3, .int (p : Int), upd_same .., (p : Int), rfl, RL, _, rfl, M.Lr.1, by omega, trivial, Int.natCast_nonneg _, fun D1 hB1 hD1 => ?_⟩
      have s1 : sliceA (rs.map fun r => AV.ref r.1) none (some (p : Int)) = (rs.take p).map fun r => AV.ref r.1 := by
        show (rs.map fun r => AV.ref r.1).take p = _
        rw [List.map_take]
      rw [s1]
      have e1 : Ext h (upd h D1 (.list ((rs.take p).map fun r => AV.ref r.1))) := Ext.new hD1
      have M1 := M.ext e1
      have hg : ∀ i (hi : i < rs.length), (rs.map fun r => AV.ref r.1)[i]? = some (.ref rs[i].1) := fun i hi => by rw [List.getElem?_map, List.getElem?_eq_getElem hi]; rfl
      refine i_list (i_cons (i_call (i_cons ?_)))
      refine ⟨_, (L2 3 (by decide)).trans L.l3, .int (p : Int), upd_same .., RL, _, _, _, rfl, rfl, M1.Lr.1, by omega, by omega, by rw [Int.toNat_natCast]; exact hg p (by omega), i_cons ?_⟩
      refine ⟨_, (L2 3 (by decide)).trans L.l3, i_bin (i_var (upd_same ..) (i_int (i_add ⟨RL, _, _, _, rfl, rfl, M1.Lr.1, by omega, by omega, by rw [show ((p : Int) + 1).toNat = p + 1 by omega]; exact hg (p + 1) hpl, i_cons ?_⟩)))⟩
      refine i_cmp (i_bin (i_var (upd_same ..) (i_int (i_add (i_len ((L2 3 (by decide)).trans L.l3) M1.Lr.1 (by omega) ⟨_, _, rfl, rfl, i_nil ?_⟩)))))
      rw [hlm]
      have hm1 : rs[p] ∈ rs := List.getElem_mem _
      have hm2 : rs[p + 1] ∈ rs := List.getElem_mem _
      refine merge_spec (M1.Lr.2 _ hm1) (M.Fr _ hm1) (M1.Lr.2 _ hm2) (M.Fr _ hm2) fun D h2 en hDn e2 E2 F2 hl2 => ?_
      have e12 := e1.trans e2
      refine i_nil ⟨by show (1 : Nat) ≤ 2 ^ 20; decide, fun D3 hB3 hD3 => ?_⟩
      have e3 : Ext h2 (upd h2 D3 (.list [.ref D])) := Ext.new hD3
      have e13 := e12.trans e3
      refine ⟨D1, D3, _, _, rfl, rfl, e3 _ _ (e2 _ _ (upd_same ..)), upd_same .., by rw [List.length_map, List.length_take]; show min p rs.length + 1 ≤ 2 ^ 20; omega, fun D4 hB4 hD4 => ?_⟩
      have e14 := e13.trans (Ext.new (c := .list ((rs.take p).map (fun r => AV.ref r.1) ++ [.ref D])) hD4)
      refine ⟨_, (L2 3 (by decide)).trans L.l3, i_bin (i_var (upd_same ..) (i_int (i_add ⟨((p + 2 : Nat) : Int), by rw [show (p : Int) + 2 = ((p + 2 : Nat) : Int) by omega], RL, _, rfl, e14 _ _ M.Lr.1, by omega, Int.natCast_nonneg _, trivial, fun D5 hB5 hD5 => ?_⟩)))⟩
      have s2 : sliceA (rs.map fun r => AV.ref r.1) (some ((p + 2 : Nat) : Int)) none = (rs.drop (p + 2)).map fun r => AV.ref r.1 := by
        show (rs.map fun r => AV.ref r.1).drop (p + 2) = _
        rw [List.map_drop]
      rw [s2]
      have hne45 : D4 ≠ D5 := ne_of (upd_same ..) hD5
      refine ⟨D4, D5, _, _, rfl, rfl, by rw [upd_ne hne45, upd_same], upd_same .., by rw [List.length_append, List.length_map, List.length_map, List.length_take, List.length_drop]; show min p rs.length + 1 + (rs.length - (p + 2)) ≤ 2 ^ 20; omega, fun D6 hB6 hD6 => ?_⟩
      have e15 := e14.trans (Ext.new (c := .list ((rs.drop (p + 2)).map fun r => AV.ref r.1)) hD5)
      have e16 := e15.trans (Ext.new (c := .list (((rs.take p).map (fun r => AV.ref r.1) ++ [.ref D]) ++ (rs.drop (p + 2)).map fun r => AV.ref r.1)) hD6)
      have M6 := M.ext e16
      have e26 : Ext h2 _ := e3.trans ((Ext.new (c := .list ((rs.take p).map (fun r => AV.ref r.1) ++ [.ref D])) hD4).trans ((Ext.new (c := .list ((rs.drop (p + 2)).map fun r => AV.ref r.1)) hD5).trans (Ext.new (c := .list (((rs.take p).map (fun r => AV.ref r.1) ++ [.ref D]) ++ (rs.drop (p + 2)).map fun r => AV.ref r.1)) hD6)))
      have hrs : rs = rs.take p ++ (rs[p] :: rs[p + 1] :: rs.drop (p + 2)) := by
        rw [← List.drop_eq_getElem_cons hpl, ← List.drop_eq_getElem_cons (show p < rs.length by omega), List.take_append_drop]
      have hDmem : D ≠ mem := (ne_of M1.En.1 hDn).symm
      refine q _ _ ⟨mem, mn, D6, rs.take p ++ [(D, en)] ++ rs.drop (p + 2), pd, es, ⟨M6.En, ⟨by rw [upd_same, List.map_append, List.map_append]; rfl, fun r hr => ?_⟩, M6.Pd, M.Fm, fun r hr => ?_, M.Fd, M.Bm, M.Bp, (ne_of (e15 _ _ M.En.1) hD6).symm, fun r hr => ?_, fun j => ?_, M6.Nn, M.nz⟩, ⟨?_, ?_, upd_same .., ?_, ?_, ?_, ?_, ?_⟩, by rw [List.length_append, List.length_append, List.length_take, List.length_drop, List.length_singleton]; omega⟩
      · rcases List.mem_append.mp hr with hr | hr
        · rcases List.mem_append.mp hr with hr | hr
          · exact M6.Lr.2 r (List.mem_of_mem_take hr)
          · rw [List.mem_singleton.mp hr]; exact E2.ext e26
        · exact M6.Lr.2 r (List.mem_of_mem_drop hr)
      · rcases List.mem_append.mp hr with hr | hr
        · rcases List.mem_append.mp hr with hr | hr
          · exact M.Fr r (List.mem_of_mem_take hr)
          · rw [List.mem_singleton.mp hr]; exact F2
        · exact M.Fr r (List.mem_of_mem_drop hr)
      · rcases List.mem_append.mp hr with hr | hr
        · rcases List.mem_append.mp hr with hr | hr
          · exact M.nr r (List.mem_of_mem_take hr)
          · rw [List.mem_singleton.mp hr]; exact hDmem
        · exact M.nr r (List.mem_of_mem_drop hr)
      · rw [M.rel j]
        conv => lhs; rw [hrs]
        rw [getL_app, getL, getL, getL_app, getL_app, getL, getL, hl2]
        by_cases hlast : ((p : Int) + 2 == (rs.length : Int)) = true
        · rw [if_pos hlast]
          have : rs.drop (p + 2) = [] := List.drop_eq_nil_of_le (by have := beq_iff_eq.mp hlast; omega)
          rw [this, getL]
          simp only [Option.or_none, Option.or_assoc]
          rw [dropN_or2]
        · rw [if_neg hlast]
          simp only [id, Option.or_none, Option.or_assoc]
      · rw [upd_ne (by decide)]; exact (L2 1 (by decide)).trans L.l1
      · rw [upd_ne (by decide)]; exact (L2 2 (by decide)).trans L.l2
      · rw [upd_ne (by decide)]; exact (L2 4 (by decide)).trans L.l4
      · rw [upd_ne (by decide)]; exact (L2 5 (by decide)).trans L.l5
      · rw [upd_ne (by decide)]; exact (L2 8 (by decide)).trans L.l8
      · rw [upd_ne (by decide)]; exact (L2 9 (by decide)).trans L.l9
      · rw [upd_ne (by decide)]; exact (L2 10 (by decide)).trans L.l10
    · refine i_f (decide_eq_false h1) (i_skip stay)
  · refine i_f (by simpa using hc) (i_f rfl (i_skip stay))
end
end Mini

/-! L1J -/
namespace Mini

/-- two rising lists that say the same are the same -/
theorem vals_eq : ∀ {en en' : List Ent}, SK en → SK en' → (∀ j, lookK en j = lookK en' j) → en.map (·.2) = en'.map (·.2)
  | [], [], _, _, _ => rfl
  | [], q :: t, _, _, h => by have := h q.2.1; rw [lookK_nil, lookK_cons, if_pos rfl] at this; cases this
  | p :: r, [], _, _, h => by have := h p.2.1; rw [lookK_nil, lookK_cons, if_pos rfl] at this; cases this
  | p :: r, q :: t, S, S', h => by
    have s1 := List.pairwise_cons.mp S
    have s2 := List.pairwise_cons.mp S'
    have hk : p.2.1 = q.2.1 := by
      rcases Int.lt_trichotomy p.2.1 q.2.1 with c | c | c
      · have := h p.2.1
        rw [lookK_cons, if_pos rfl, lookK_cons, if_neg (by omega), lookK_none fun x hx => by have := s2.1 x hx; omega] at this
        cases this
      · exact c
      · have := h q.2.1
        rw [lookK_cons, if_neg (by omega), lookK_none (fun x hx => by have := s1.1 x hx; omega), lookK_cons, if_pos rfl] at this
        cases this
    have hv : p.2.2 = q.2.2 := by
      have := h p.2.1
      rw [lookK_cons, if_pos rfl, lookK_cons, if_pos hk.symm] at this
      exact Option.some.inj this
    have ht := vals_eq s1.2 s2.2 fun j => by
      by_cases hj : p.2.1 = j
      · rw [lookK_none fun x hx => by have := s1.1 x hx; omega, lookK_none fun x hx => by have := s2.1 x hx; omega]
      · have := h j
        rw [lookK_cons, if_neg hj, lookK_cons, if_neg (by omega)] at this
        exact this
    rw [List.map_cons, List.map_cons, ht, show p.2 = q.2 from Prod.ext hk hv]

theorem eqv_refl (l : List (Int × AV)) : PyData.eqv (.list (l.map dE)) (.list (l.map dE)) = true := by rw [PyData.eqv]; exact eqv_dEs l

/-- a comprehension all of whose tests fail -/
theorem compN {B : Addr} {src : Src} {h1 : AH} {xs : List AV} {loc : Loc} {i : Nat} {c : TT} {e : ET} {Q : AV → AH → Prop} (hs : src.items h1 = some xs)
    (hc : ∀ v, v ∈ xs → ∀ h2 : AH, Ext h1 h2 → ∀ Q' : Bool → AH → Prop, (∀ h3, Ext h2 h3 → Q' false h3) → c (upd loc i v) h2 Q')
    (hQ : ∀ (D : Addr) (h' : AH), B ≤ D → h1 D = none → Ext h1 h' → h' D = some (.list []) → Q (.ref D) h') : compAt B src i c e loc h1 Q := by
  intro D hB hD
  refine ⟨fun k ys h' => ys = [] ∧ Ext h1 h' ∧ h' D = some (.list []), xs.length, ⟨rfl, Ext.new hD, upd_same ..⟩, ?_⟩
  rintro k ys h ⟨rfl, eh, hd⟩
  refine ⟨hd, Nat.zero_lt_of_lt (by decide : (0 : Nat) < 2 ^ 20), xs, items_ext hs eh, Nat.le_refl _, ?_⟩
  cases hk : xs[k]? with
  | none => exact hQ D h hB hD eh hd
  | some v =>
    refine hc v (List.mem_of_getElem? hk) h eh _ fun h3 e3 => ?_
    rw [if_neg (by decide)]
    exact ⟨rfl, eh.trans e3, e3 _ _ hd⟩

section
variable {B N g : Addr} {nums : List Int} {R : Nat} {turn c kind k : Int} {loc : Loc} {h : AH}
theorem LF.upd {mem RL pd : Addr} (L : LF loc N mem RL pd turn c kind k) {i : Nat} {v : AV} (hi : 11 ≤ i) : LF (upd loc i v) N mem RL pd turn c kind k :=
  ⟨(upd_ne (by omega)).trans L.l1, (upd_ne (by omega)).trans L.l2, (upd_ne (by omega)).trans L.l3, (upd_ne (by omega)).trans L.l4, (upd_ne (by omega)).trans L.l5, (upd_ne (by omega)).trans L.l8, (upd_ne (by omega)).trans L.l9, (upd_ne (by omega)).trans L.l10⟩

theorem scanck_ok {Q : Fl → Loc → AH → Prop} (W : Wk B N nums R turn c kind k loc h) (hR9 : R ≤ 800) (hk : 0 ≤ k ∧ k < 12) (q : ∀ loc' h', Wk B N nums R turn c kind k loc' h' → Q .next loc' h') :
    T.ife (T.cmp P.eqI (T.var 9) (T.int 5))
   (T.seq (T.asg 12 (T.call (T.econs (T.var 10) (T.econs (T.bin P.fmod (T.call (T.econs (T.var 8) T.enil) F.abs) (T.int 13)) T.enil)) F.min2))
  (T.seq (T.asg 13 (T.call (T.econs (T.var 10) (T.econs (T.bin P.fmod (T.call (T.econs (T.var 8) T.enil) F.abs) (T.int 13)) T.enil)) F.max2))
  (T.ife (T.cmp P.neD (T.call (T.econs (T.bin (P.addL B) (T.list B (T.econs (T.var 2) T.enil)) (T.var 3)) (T.econs (T.var 12) (T.econs (T.var 13) T.enil))) (f_scan B g)) (T.call (T.econs (T.var 4) (T.econs (T.var 12) (T.econs (T.var 13) T.enil))) (f_due B g)))
   (T.ret (T.bool false))
   T.skip)))
   T.skip loc h Q := by
  obtain ⟨mem, mn, RL, rs, pd, es, M, L, hR⟩ := W
  refine i_ife (i_cmp (i_var L.l9 (i_int ⟨_, _, rfl, rfl, ?_⟩)))
  by_cases hc : (kind == 5) = true
  · refine i_t hc ?_
    obtain ⟨d, hd⟩ : ∃ d, d = ((c.natAbs : Int)).fmod 13 := ⟨_, rfl⟩
    refine i_seq (i_asg (i_call (i_cons (i_var L.l10 (i_cons (i_bin (i_call (i_cons (i_var L.l8 (i_nil ⟨c, rfl, i_int ⟨_, _, rfl, rfl, by decide, i_nil ⟨_, _, rfl, ?_⟩⟩⟩))))))))))
    rw [← hd]
    have L1 := L.upd (i := 12) (v := .int (min k d)) (by omega)
    refine i_seq (i_asg (i_call (i_cons (i_var L1.l10 (i_cons (i_bin (i_call (i_cons (i_var L1.l8 (i_nil ⟨c, rfl, i_int ⟨_, _, rfl, rfl, by decide, i_nil ⟨_, _, rfl, ?_⟩⟩⟩))))))))))
    rw [← hd]
    have L2 := L1.upd (i := 13) (v := .int (max k d)) (by omega)
    have l12 : upd (upd loc 12 (.int (min k d))) 13 (.int (max k d)) 12 = some (.int (min k d)) := (upd_ne (by decide)).trans (upd_same ..)
    refine i_ife (i_cmp (i_call (i_cons (lists_ok M L2.l2 L2.l3 (by omega) fun LL h1 e1 _ _ A => i_cons (i_var l12 (i_cons (i_var (upd_same ..) (i_nil ?_))))))))
    refine scan_spec A (fine_all M) (by rw [List.length_cons]; omega) (by omega) fun D1 h2 en1 e2 E1 F1 k1 => ?_
    have e12 := e1.trans e2
    refine i_call (i_cons (i_var L2.l4 (i_cons (i_var l12 (i_cons (i_var (upd_same ..) (i_nil ?_)))))))
    refine due_spec (e12 _ _ M.Pd) M.Fd fun D2 h3 en2 e3 E2 F2 k2 => ?_
    have e13 := e12.trans e3
    refine ⟨_, _, (E1.ext e3).data F1.ov, E2.data F2.ov, dEs_shaped _, dEs_shaped _, ?_⟩
    have hv : en1.map (·.2) = en2.map (·.2) := vals_eq F1.sk F2.sk fun j => by
      rw [k1, k2, M.rel j]; rfl
    rw [hv, eqv_refl]
    exact i_f rfl (i_skip (q _ _ ⟨mem, mn, RL, rs, pd, es, M.ext e13, L2, hR⟩))
  · exact i_f (by simpa using hc) (i_skip (q _ _ ⟨mem, mn, RL, rs, pd, es, M, L, hR⟩))

theorem getck_ok {Q : Fl → Loc → AH → Prop} (W : Wk B N nums R turn c kind k loc h) (hR9 : R ≤ 800) (q : ∀ loc' h', Wk B N nums R turn c kind k loc' h' → Q .next loc' h') :
    T.ife (T.cmp P.neO (T.call (T.econs (T.bin (P.addL B) (T.list B (T.econs (T.var 2) T.enil)) (T.var 3)) (T.econs (T.var 10) T.enil)) (f_get B g)) (T.methD (T.var 4) (T.econs (T.var 10) T.enil) F.dget))
   (T.ret (T.bool false))
   T.skip loc h Q := by
  obtain ⟨mem, mn, RL, rs, pd, es, M, L, hR⟩ := W
  refine i_ife (chk_ok M L.l2 L.l3 L.l4 (by omega) L.l10 fun h' e => ?_)
  exact i_f rfl (i_skip (q _ _ ⟨mem, mn, RL, rs, pd, es, M.ext e, L, hR⟩))

theorem sweepck_ok {Q : Fl → Loc → AH → Prop} (W : Wk B N nums R turn c kind k loc h) (hR9 : R ≤ 800) (q : ∀ loc' h', Wk B N nums R turn c kind k loc' h' → Q .next loc' h') :
    T.ife (T.cmp P.eqI (T.bin P.fmod (T.var 5) (T.int 4)) (T.int 3))
   (T.seq (T.for_ (T.itR1 (T.econs (T.int 12) T.enil)) (T.asN 14)
   (T.ife (T.cmp P.neO (T.call (T.econs (T.bin (P.addL B) (T.list B (T.econs (T.var 2) T.enil)) (T.var 3)) (T.econs (T.var 14) T.enil)) (f_get B g)) (T.methD (T.var 4) (T.econs (T.var 14) T.enil) F.dget))
   (T.ret (T.bool false))
   T.skip))
  (T.ife (T.cmp P.neD (T.comp B (T.itL (T.bin (P.addL B) (T.list B (T.econs (T.var 2) T.enil)) (T.var 3))) 17 (T.not (T.truB (T.call (T.econs (T.var 17) T.enil) (f_rising B g)))) (T.var 17)) (T.list B T.enil))
   (T.ret (T.bool false))
   T.skip))
   T.skip loc h Q := by
  obtain ⟨mem, mn, RL, rs, pd, es, M, L, hR⟩ := W
  refine i_ife (i_cmp (i_bin (i_var L.l5 (i_int ⟨_, _, rfl, rfl, by decide, i_int ⟨_, _, rfl, rfl, ?_⟩⟩))))
  by_cases hc : (turn.fmod 4 == 3) = true
  · refine i_t hc ?_
    refine i_seq (i_itR1 (i_cons (i_int (i_nil ⟨12, rfl, by unfold T.small; omega, ?_⟩))))
    refine ⟨fun i loc' h' => i ≤ 12 ∧ Mem B N nums h' mem RL pd mn rs es ∧ LF loc' N mem RL pd turn c kind k, 12, ⟨Nat.zero_le _, M, L⟩, ?_⟩
    rintro i loc' h' ⟨hi, M', L'⟩
    refine ⟨_, rfl, by rw [rangeL_len]; exact Nat.le_refl _, ?_⟩
    by_cases hil : i < 12
    · rw [rangeL_get (show i < (12 : Int).toNat from hil)]
      dsimp only [T.asN]
      have L2 := L'.upd (i := 14) (v := .int (0 + (i : Int) * 1)) (by omega)
      refine i_ife (chk_ok M' L2.l2 L2.l3 L2.l4 (by omega) (upd_same ..) fun h2 e => ?_)
      exact i_f rfl (i_skip ⟨by omega, M'.ext e, L2⟩)
    · rw [rangeL_end (show (12 : Int).toNat ≤ i by show 12 ≤ i; omega)]
      refine i_ife (i_cmp (i_compAt ?_))
      refine lists_ok M' L'.l2 L'.l3 (by omega) fun LL h1 e1 _ _ A => ⟨LL, _, rfl, A.1, ?_⟩
      refine compN (items_list A.1) (fun v hv h2 hx Q' q' => ?_) fun D h2 hB hD e2 hd => ?_
      · obtain ⟨r, hr, rfl⟩ := List.mem_map.mp hv
        refine i_call (i_cons (i_var (upd_same ..) (i_nil ?_)))
        refine rising_spec ((A.2 r hr).ext hx) (fine_all M' r hr) fun h3 e3 => ⟨true, rfl, q' h3 e3⟩
      · refine i_list (i_nil ⟨Nat.zero_le _, fun D2 hB2 hD2 => ?_⟩)
        refine ⟨_, _, nil_data (Ext.new hD2 _ _ hd), nil_data (upd_same ..), nil_shaped, nil_shaped, ?_⟩
        rw [eqv_nil]
        exact i_f rfl (i_skip (q _ _ ⟨mem, mn, RL, rs, pd, es, M'.ext ((e1.trans e2).trans (Ext.new hD2)), L', hR⟩))
  · exact i_f (by simpa using hc) (i_skip (q _ _ ⟨mem, mn, RL, rs, pd, es, M, L, hR⟩))
end
end Mini

/-! L1K -/
namespace Mini

def tailL : List Int := [0, 1, 5, 0, 2, 6, 3, 0, 0, 2, 1, 0, 3, 0, 0, 4, 0, 0, 5, 0, 12]

theorem slice3 {nums : List Int} {k : Nat} (h : 3 * k + 3 ≤ nums.length) : ∃ a b c, (nums.take (3 * k + 3)).drop (3 * k) = [a, b, c] := by
  have hl : ((nums.take (3 * k + 3)).drop (3 * k)).length = 3 := by rw [List.length_drop, List.length_take]; omega
  generalize (nums.take (3 * k + 3)).drop (3 * k) = l at *
  match l, hl with
  | [a, b, c], _ => exact ⟨a, b, c, rfl⟩
theorem asT3 {a : Addr} {x y z : AV} {i j k : Nat} {loc : Loc} {h : AH} {Q : Loc → AH → Prop} (ha : h a = some (.list [x, y, z])) (q : Q (upd (upd (upd loc i x) j y) k z) h) : T.asT [i, j, k] (.ref a) loc h Q :=
  ⟨a, _, rfl, .inl ha, rfl, q⟩
theorem take_ints (xs : List Int) (n : Nat) : (xs.map AV.int).take n = (xs.take n).map AV.int := List.map_take.symm
theorem drop_ints (xs : List Int) (n : Nat) : (xs.map AV.int).drop n = (xs.drop n).map AV.int := List.map_drop.symm
theorem small_bits {x : Int} (h : x.natAbs < 2 ^ 60) : Builtin.Int.intBits x ≤ 64 := by
  unfold Builtin.Int.intBits
  split
  · exact Nat.zero_le _
  · rename_i hx
    have hx0 : x.natAbs ≠ 0 := by simpa using hx
    have := (Nat.log2_lt hx0).mpr h
    omega

theorem i_itRd {loc : Loc} {h : AH} {f : EsT} {Q : Src → AH → Prop} (q : f loc h fun vs h1 => ∃ a b : Int, vs = [.int a, .int b, .int (-1)] ∧ T.small a ∧ T.small b ∧ Q (.range a (-1) (a - b).toNat) h1) : T.itRd f loc h Q := q

/-- what stands between two turns -/
def Bt (B N : Addr) (nums : List Int) (R : Nat) (loc : Loc) (h : AH) : Prop :=
  ∃ mem mn RL rs pd es, Mem B N nums h mem RL pd mn rs es ∧ loc 1 = some (.ref N) ∧ loc 2 = some (.ref mem) ∧ loc 3 = some (.ref RL) ∧ loc 4 = some (.ref pd) ∧ rs.length ≤ R

theorem turn_ok {B N g : Addr} {nums : List Int} {i : Nat} {loc : Loc} {h : AH} {Q : Fl → Loc → AH → Prop} (W : Bt B N nums i loc h) (hi : 3 * i + 3 ≤ nums.length) (hn : nums.length ≤ 2000) (q : ∀ loc' h', Bt B N nums (i + 1) loc' h' → Q .next loc' h') :
   (T.seq (T.asgT [6, 7, 8] (T.slice B (T.var 1) (some (T.bin P.mul (T.int 3) (T.var 5))) (some (T.bin P.add (T.bin P.mul (T.int 3) (T.var 5)) (T.int 3)))))
  (T.seq (T.asg 9 (T.bin P.fmod (T.var 6) (T.int 6)))
  (T.seq (T.asg 10 (T.bin P.fmod (T.call (T.econs (T.var 7) T.enil) F.abs) (T.int 12)))
  (T.seq (T.ife (T.cmp P.lt (T.var 9) (T.int 2))
   (T.seq (T.expr (T.call (T.econs (T.var 2) (T.econs (T.var 10) (T.econs (T.var 8) T.enil))) (f_set B g)))
  (T.setidxD B (T.var 4) (T.var 10) (T.var 8)))
   T.skip)
  (T.seq (T.ife (T.cmp P.eqI (T.var 9) (T.int 2))
   (T.seq (T.expr (T.call (T.econs (T.var 2) (T.econs (T.var 10) (T.econs T.none T.enil))) (f_set B g)))
  (T.ife (T.cmp P.inD (T.var 10) (T.var 4))
   (T.expr (T.methD (T.var 4) (T.econs (T.var 10) T.enil) (F.dpop B)))
   T.skip))
   T.skip)
  (T.seq (T.ife (T.and (T.cmp P.eqI (T.var 9) (T.int 3)) (T.cmp P.neD (T.var 2) (T.list B T.enil)))
   (T.seq (T.asg 3 (T.bin (P.addL B) (T.list B (T.econs (T.var 2) T.enil)) (T.var 3)))
  (T.asg 2 (T.list B T.enil)))
   T.skip)
  (T.seq (T.ife (T.and (T.cmp P.eqI (T.var 9) (T.int 4)) (T.cmp P.gt (T.call (T.econs (T.var 3) T.enil) F.len) (T.int 1)))
   (T.seq (T.asg 11 (T.bin P.fmod (T.call (T.econs (T.var 8) T.enil) F.abs) (T.bin P.sub (T.call (T.econs (T.var 3) T.enil) F.len) (T.int 1))))
  (T.asg 3 (T.bin (P.addL B) (T.bin (P.addL B) (T.slice B (T.var 3) none (some (T.var 11))) (T.list B (T.econs (T.call (T.econs (T.idx (T.var 3) (T.var 11)) (T.econs (T.idx (T.var 3) (T.bin P.add (T.var 11) (T.int 1))) (T.econs (T.val (T.cmp P.eqI (T.bin P.add (T.var 11) (T.int 2)) (T.call (T.econs (T.var 3) T.enil) F.len))) T.enil))) (f_merge B g)) T.enil))) (T.slice B (T.var 3) (some (T.bin P.add (T.var 11) (T.int 2))) none))))
   T.skip)
  (T.seq (T.ife (T.cmp P.eqI (T.var 9) (T.int 5))
   (T.seq (T.asg 12 (T.call (T.econs (T.var 10) (T.econs (T.bin P.fmod (T.call (T.econs (T.var 8) T.enil) F.abs) (T.int 13)) T.enil)) F.min2))
  (T.seq (T.asg 13 (T.call (T.econs (T.var 10) (T.econs (T.bin P.fmod (T.call (T.econs (T.var 8) T.enil) F.abs) (T.int 13)) T.enil)) F.max2))
  (T.ife (T.cmp P.neD (T.call (T.econs (T.bin (P.addL B) (T.list B (T.econs (T.var 2) T.enil)) (T.var 3)) (T.econs (T.var 12) (T.econs (T.var 13) T.enil))) (f_scan B g)) (T.call (T.econs (T.var 4) (T.econs (T.var 12) (T.econs (T.var 13) T.enil))) (f_due B g)))
   (T.ret (T.bool false))
   T.skip)))
   T.skip)
  (T.seq (T.ife (T.cmp P.neO (T.call (T.econs (T.bin (P.addL B) (T.list B (T.econs (T.var 2) T.enil)) (T.var 3)) (T.econs (T.var 10) T.enil)) (f_get B g)) (T.methD (T.var 4) (T.econs (T.var 10) T.enil) F.dget))
   (T.ret (T.bool false))
   T.skip)
  (T.ife (T.cmp P.eqI (T.bin P.fmod (T.var 5) (T.int 4)) (T.int 3))
   (T.seq (T.for_ (T.itR1 (T.econs (T.int 12) T.enil)) (T.asN 14)
   (T.ife (T.cmp P.neO (T.call (T.econs (T.bin (P.addL B) (T.list B (T.econs (T.var 2) T.enil)) (T.var 3)) (T.econs (T.var 14) T.enil)) (f_get B g)) (T.methD (T.var 4) (T.econs (T.var 14) T.enil) F.dget))
   (T.ret (T.bool false))
   T.skip))
  (T.ife (T.cmp P.neD (T.comp B (T.itL (T.bin (P.addL B) (T.list B (T.econs (T.var 2) T.enil)) (T.var 3))) 17 (T.not (T.truB (T.call (T.econs (T.var 17) T.enil) (f_rising B g)))) (T.var 17)) (T.list B T.enil))
   (T.ret (T.bool false))
   T.skip))
   T.skip)))))))))) (upd loc 5 (.int (i : Int))) h Q := by
  obtain ⟨mem, mn, RL, rs, pd, es, M, l1, l2, l3, l4, hR⟩ := W
  refine i_seq ?_
  refine ⟨_, (upd_ne (by decide)).trans l1, ?_⟩
  refine i_bin (i_int (i_var (upd_same ..) ⟨_, _, rfl, rfl, IntMulOk.of_left (by decide), ((3 * i : Nat) : Int), by rw [show (3 : Int) * (i : Int) = ((3 * i : Nat) : Int) by omega], ?_⟩))
  refine i_bin (i_bin (i_int (i_var (upd_same ..) ⟨_, _, rfl, rfl, IntMulOk.of_left (by decide), i_int (i_add ⟨((3 * i + 3 : Nat) : Int), by rw [show (3 : Int) * (i : Int) + 3 = ((3 * i + 3 : Nat) : Int) by omega], ?_⟩)⟩)))
  refine ⟨N, _, rfl, M.Nn, by rw [List.length_map]; omega, Int.natCast_nonneg _, Int.natCast_nonneg _, fun D1 hB1 hD1 => ?_⟩
  obtain ⟨a, b, c, hs⟩ := slice3 (nums := nums) (k := i) hi
  have hsl : sliceA (nums.map AV.int) (some ((3 * i : Nat) : Int)) (some ((3 * i + 3 : Nat) : Int)) = [.int a, .int b, .int c] := by
    show ((nums.map AV.int).take (3 * i + 3)).drop (3 * i) = _
    rw [take_ints, drop_ints, hs]; rfl
  rw [hsl]
  refine asT3 (upd_same ..) ?_
  have M1 := M.ext (Ext.new (c := .list [.int a, .int b, .int c]) hD1)
  refine i_seq (i_asg (i_bin (i_var (v := .int a) rfl (i_int ⟨_, _, rfl, rfl, by decide, ?_⟩))))
  refine i_seq (i_asg (i_bin (i_call (i_cons (i_var (v := .int b) rfl (i_nil ⟨b, rfl, i_int ⟨_, _, rfl, rfl, by decide, ?_⟩⟩))))))
  have hk : 0 ≤ ((b.natAbs : Int)).fmod 12 ∧ ((b.natAbs : Int)).fmod 12 < 12 := ⟨Int.fmod_nonneg_of_pos _ (by decide), Int.fmod_lt_of_pos _ (by decide)⟩
  generalize ((b.natAbs : Int)).fmod 12 = k at *
  generalize a.fmod 6 = kind
  have u : ∀ j, j < 5 → upd (upd (upd (upd (upd (upd loc 5 (.int (i : Int))) 6 (.int a)) 7 (.int b)) 8 (.int c)) 9 (.int kind)) 10 (.int k) j = loc j := fun j hj => by
    rw [upd_ne (by omega), upd_ne (by omega), upd_ne (by omega), upd_ne (by omega), upd_ne (by omega), upd_ne (by omega)]
  have W0 : Wk B N nums i (i : Int) c kind k (upd (upd (upd (upd (upd (upd loc 5 (.int (i : Int))) 6 (.int a)) 7 (.int b)) 8 (.int c)) 9 (.int kind)) 10 (.int k)) (upd h D1 (.list [.int a, .int b, .int c])) :=
    ⟨mem, mn, RL, rs, pd, es, M1, ⟨(u 1 (by decide)).trans l1, (u 2 (by decide)).trans l2, (u 3 (by decide)).trans l3, (u 4 (by decide)).trans l4, rfl, rfl, rfl, rfl⟩, hR⟩
  refine i_seq (put_ok W0 hk fun loc1 h1 W1 => ?_)
  refine i_seq (del_ok W1 hk fun loc2 h2 W2 => ?_)
  refine i_seq (flush_ok W2 (by omega) fun loc3 h3 W3 => ?_)
  refine i_seq (compact_ok W3 (by omega) fun loc4 h4 W4 => ?_)
  refine i_seq (scanck_ok W4 (by omega) hk fun loc5 h5 W5 => ?_)
  refine i_seq (getck_ok W5 (by omega) fun loc6 h6 W6 => ?_)
  refine sweepck_ok W6 (by omega) fun loc7 h7 W7 => ?_
  obtain ⟨mem, mn, RL, rs, pd, es, M7, L7, hR7⟩ := W7
  exact q _ _ ⟨mem, mn, RL, rs, pd, es, M7, L7.l1, L7.l2, L7.l3, L7.l4, hR7⟩

/-- the last merge of all, and the last question -/
theorem last_ok {B N g : Addr} {nums : List Int} {R : Nat} {loc : Loc} {h : AH} {Q : AV → AH → Prop} (W : Bt B N nums R loc h) (hR9 : R ≤ 800) (q : ∀ h', Q (.bool true) h') :
  T.seq (T.asg 15 (T.bin (P.addL B) (T.list B (T.econs (T.var 2) T.enil)) (T.var 3)))
  (T.seq (T.asg 16 (T.list B T.enil))
  (T.seq (T.for_ (T.itRd (T.econs (T.bin P.sub (T.call (T.econs (T.var 15) T.enil) F.len) (T.int 1)) (T.econs (T.neg (T.int 1)) (T.econs (T.neg (T.int 1)) T.enil)))) (T.asN 11)
   (T.asg 16 (T.call (T.econs (T.idx (T.var 15) (T.var 11)) (T.econs (T.var 16) (T.econs (T.val (T.cmp P.eqI (T.var 11) (T.int 0))) T.enil))) (f_merge B g))))
  (T.ret (T.val (T.cmp P.eqD (T.var 16) (T.call (T.econs (T.var 4) (T.econs (T.int 0) (T.econs (T.int 12) T.enil))) (f_due B g))))))) loc h (FnRet Q) := by
  obtain ⟨mem, mn, RL, rs, pd, es, M, l1, l2, l3, l4, hR⟩ := W
  refine i_seq (i_asg (lists_ok M l2 l3 (by omega) fun LL h1 e1 _ _ A => ?_))
  have M1 := M.ext e1
  refine i_seq (i_asg (i_list (i_nil ⟨Nat.zero_le _, fun D hB hD => ?_⟩)))
  have e2 : Ext h1 (upd h1 D (.list [])) := Ext.new hD
  have A2 := A.ext e2
  have M2 := M1.ext e2
  have F := fine_all M
  have hlen : ((mem, mn) :: rs).length ≤ 900 := by rw [List.length_cons]; omega
  have hpos : 0 < ((mem, mn) :: rs).length := by rw [List.length_cons]; omega
  have hget : ∀ j, getL ((mem, mn) :: rs) j = (lookK mn j).or (getL rs j) := fun j => rfl
  generalize ((mem, mn) :: rs) = ls at *
  have hEe : EntsAt (upd h1 D (.list [])) D [] := ⟨upd_same .., fun p hp => absurd hp List.not_mem_nil⟩
  generalize upd h1 D (Cell.list []) = h2 at *
  refine i_seq (i_itRd (i_cons (i_bin (i_len ((upd_ne (by decide)).trans (upd_same ..)) A2.1 (by rw [List.length_map]; omega) (i_int (i_sub (i_cons ⟨1, rfl, i_cons ⟨1, rfl, i_nil ⟨(ls.length : Int) - 1, -1, by rw [List.length_map], by unfold T.small; omega, by unfold T.small; omega, ?_⟩⟩⟩)))))))
  have hcnt : ((ls.length : Int) - 1 - -1).toNat = ls.length := by omega
  rw [hcnt]
  refine ⟨fun i loc' h' => ∃ W wn, i ≤ ls.length ∧ loc' 15 = some (.ref LL) ∧ loc' 4 = some (.ref pd) ∧ loc' 16 = some (.ref W) ∧ Ext h2 h' ∧ EntsAt h' W wn ∧ Fine wn ∧ ∀ j, lookK wn j = (if i = ls.length then dropN else id) (getL (ls.drop (ls.length - i)) j), ls.length,
    ⟨D, [], Nat.zero_le _, (upd_ne (by decide)).trans (upd_same ..), (upd_ne (by decide)).trans ((upd_ne (by decide)).trans l4), upd_same .., Ext.refl _, hEe, Fine.nil, fun j => ?_⟩, ?_⟩
  · rw [if_neg (by omega), Nat.sub_zero, List.drop_length]; rfl
  rintro i loc' h' ⟨W, wn, hi, k15, k4, k16, eh, Ew, Fw, hlook⟩
  refine ⟨_, rfl, by rw [rangeL_len]; exact Nat.le_refl _, ?_⟩
  by_cases hil : i < ls.length
  · rw [rangeL_get hil]
    obtain ⟨p, hp⟩ : ∃ p : Nat, p + i + 1 = ls.length := ⟨ls.length - 1 - i, by omega⟩
    have e0 : ((ls.length : Int) - 1) + (i : Int) * -1 = (p : Int) := by omega
    rw [e0]
    dsimp only [T.asN]
    have hpl : p < ls.length := by omega
    have hm : ls[p] ∈ ls := List.getElem_mem hpl
    have A' := A2.ext eh
    refine i_asg (i_call (i_cons ?_))
    refine ⟨_, (upd_ne (by decide)).trans k15, .int (p : Int), upd_same .., LL, _, _, .ref ls[p].1, rfl, rfl, A'.1, by omega, by omega, by rw [Int.toNat_natCast, List.getElem?_map, List.getElem?_eq_getElem hpl]; rfl, i_cons (i_var ((upd_ne (by decide)).trans k16) (i_cons ?_))⟩
    refine i_cmp (i_var (upd_same ..) (i_int ⟨_, _, rfl, rfl, i_nil ?_⟩))
    refine merge_spec (A'.2 _ hm) (F _ hm) Ew Fw fun D2 h3 en _ e3 E3 F3 hl3 => ?_
    refine ⟨D2, en, by omega, (upd_ne (by decide)).trans ((upd_ne (by decide)).trans k15), (upd_ne (by decide)).trans ((upd_ne (by decide)).trans k4), upd_same .., eh.trans e3, E3, F3, fun j => ?_⟩
    have hlook' : lookK wn j = getL (ls.drop (ls.length - i)) j := by rw [hlook, if_neg (by omega)]; rfl
    rw [hl3, hlook']
    have hd1 : ls.length - (i + 1) = p := by omega
    have hd2 : ls.length - i = p + 1 := by omega
    rw [hd1, hd2, List.drop_eq_getElem_cons hpl, getL]
    by_cases hp0 : p = 0
    · rw [if_pos (show ((p : Int) == 0) = true by rw [beq_iff_eq]; omega), if_pos (show i + 1 = ls.length by omega)]
    · rw [if_neg (show ¬ ((p : Int) == 0) = true by rw [beq_iff_eq]; omega), if_neg (show ¬ i + 1 = ls.length by omega)]
  · rw [rangeL_end (by omega)]
    have hie : i = ls.length := by omega
    rw [if_pos hie, hie, Nat.sub_self, List.drop_zero] at hlook
    refine i_ret (i_cmp (i_var k16 (i_call (i_cons (i_var k4 (i_cons (i_int (i_cons (i_int (i_nil ?_))))))))))
    refine due_spec (eh _ _ M2.Pd) M.Fd fun D2 h3 en2 e3 E2 F2 k2 => ?_
    refine ⟨_, _, (Ew.ext e3).data Fw.ov, E2.data F2.ov, dEs_shaped _, dEs_shaped _, ?_⟩
    have hv : wn.map (·.2) = en2.map (·.2) := vals_eq Fw.sk F2.sk fun j => by
      rw [hlook, k2, hget, ← M.rel j]
      split
      · rfl
      · rename_i hj
        refine lookD_none fun hm => hj ?_
        obtain ⟨r, hr, rfl⟩ := List.mem_map.mp hm
        exact M.Fd.kr r hr
    rw [hv, eqv_refl]
    exact q _
end Mini

/-! L1L -/
namespace Mini

theorem law_spec {B a g gT : Addr} {h : AH} {ns : List Int} {Q : AV → AH → Prop} (ha : h a = some (.list (ns.map AV.int))) (hT : h gT = some (.list (tailL.map AV.int))) (hlen : ns.length ≤ 63)
    (q : ∀ h', Q (.bool true) h') : f_law B g gT [.ref a] h Q := by
  refine ⟨rfl, ?_⟩
  show t_law B g gT _ _ _
  unfold t_law
  have hml : tailL.length = 21 := rfl
  refine i_seq (i_asg (i_call (i_cons ?_)))
  refine ⟨.ref a, rfl, 48, rfl, a, _, rfl, ha, by rw [List.length_map]; omega, trivial, by show (0 : Int) ≤ 48; decide, fun D1 hB1 hD1 => ?_⟩
  have s1 : sliceA (ns.map AV.int) none (some 48) = (ns.take 48).map AV.int := take_ints ns 48
  rw [s1]
  have hl48 : (ns.take 48).length ≤ 48 := by rw [List.length_take]; omega
  refine i_nil ⟨D1, _, rfl, upd_same .., by rw [List.length_map]; omega, fun D2 hB2 hD2 => ?_⟩
  have x2 : Ext h (upd (upd h D1 (.list ((ns.take 48).map AV.int))) D2 (.list ((ns.take 48).map AV.int))) := (Ext.new hD1).trans (Ext.new hD2)
  have hN2 : upd (upd h D1 (.list ((ns.take 48).map AV.int))) D2 (.list ((ns.take 48).map AV.int)) D2 = some (.list ((ns.take 48).map AV.int)) := upd_same ..
  generalize upd (upd h D1 (.list ((ns.take 48).map AV.int))) D2 (.list ((ns.take 48).map AV.int)) = h2 at *
  generalize ns.take 48 = ms at *
  refine i_seq (i_asg (i_bin ?_))
  refine ⟨.ref D2, upd_same .., ?_⟩
  refine i_bin (i_bin (i_len (upd_same ..) hN2 (by rw [List.length_map]; omega) (i_int ⟨_, _, rfl, rfl, by decide, PyProof.noPylong_small (by decide), i_int ⟨_, _, rfl, rfl, IntMulOk.of_right (by decide), ?_⟩⟩)))
  rw [List.length_map]
  have hdiv : ((ms.length : Int)).fdiv 3 = ((ms.length / 3 : Nat) : Int) := by rw [Int.fdiv_eq_ediv_of_nonneg _ (by decide)]; omega
  rw [hdiv]
  have hmul : ((ms.length / 3 : Nat) : Int) * 3 = ((3 * (ms.length / 3) : Nat) : Int) := by omega
  rw [hmul]
  generalize hT3 : ms.length / 3 = t3
  have ht3 : t3 ≤ 16 := by omega
  have ht3' : 3 * t3 ≤ ms.length := by omega
  refine ⟨((3 * t3 : Nat) : Int), rfl, D2, _, rfl, hN2, by rw [List.length_map]; omega, trivial, Int.natCast_nonneg _, fun D3 hB3 hD3 => ?_⟩
  have s2 : sliceA (ms.map AV.int) none (some ((3 * t3 : Nat) : Int)) = (ms.take (3 * t3)).map AV.int := take_ints _ _
  rw [s2]
  have hlt : (ms.take (3 * t3)).length = 3 * t3 := by rw [List.length_take]; omega
  generalize ms.take (3 * t3) = us at *
  have x3 := x2.trans (Ext.new (c := .list (us.map AV.int)) hD3)
  refine i_glob ⟨D3, gT, _, _, rfl, rfl, upd_same .., x3 _ _ hT, by rw [List.length_map, List.length_map, hml]; omega, fun N hBN hN => ?_⟩
  rw [← List.map_append]
  have hul : (us ++ tailL).length = 3 * (t3 + 7) := by rw [List.length_append, hlt, hml]; omega
  have hNN : ∀ h4 : AH, upd h4 N (.list ((us ++ tailL).map AV.int)) N = some (.list ((us ++ tailL).map AV.int)) := fun h4 => upd_same ..
  generalize hnums : us ++ tailL = nums at *
  have x4 : Ext h2 (upd (upd h2 D3 (.list (us.map AV.int))) N (.list (nums.map AV.int))) := (Ext.new hD3).trans (Ext.new hN)
  have hN4 := hNN (upd h2 D3 (.list (us.map AV.int)))
  generalize upd (upd h2 D3 (.list (us.map AV.int))) N (.list (nums.map AV.int)) = h4 at *
  have hnz : nums ≠ [] := fun e => by rw [e] at hul; simp at hul
  refine i_seq (i_asg (i_list (i_nil ⟨Nat.zero_le _, fun mem hBm hmem => ?_⟩)))
  refine i_seq (i_asg (i_list (i_nil ⟨Nat.zero_le _, fun RL hBR hRL => ?_⟩)))
  refine i_seq (i_asg (fun pd hBp hpd => ?_))
  have y1 : Ext h4 (upd h4 mem (.list [])) := Ext.new hmem
  have y2 : Ext (upd h4 mem (.list [])) (upd (upd h4 mem (.list [])) RL (.list [])) := Ext.new hRL
  have y3 : Ext (upd (upd h4 mem (.list [])) RL (.list [])) (upd (upd (upd h4 mem (.list [])) RL (.list [])) pd (.idict [])) := Ext.new hpd
  have W0 : Bt B N nums 0 (upd (upd (upd (upd (upd (fun i => ((fun avs => avs) [AV.ref a])[i]?) 1 (.ref D2)) 1 (.ref N)) 2 (.ref mem)) 3 (.ref RL)) 4 (.ref pd)) (upd (upd (upd h4 mem (.list [])) RL (.list [])) pd (.idict [])) :=
    ⟨mem, [], RL, [], pd, [], ⟨⟨y3 _ _ (y2 _ _ (upd_same ..)), fun p hp => absurd hp List.not_mem_nil⟩, ⟨y3 _ _ (upd_same ..), fun p hp => absurd hp List.not_mem_nil⟩, upd_same .., Fine.nil, fun p hp => absurd hp List.not_mem_nil,
      ⟨List.nodup_nil, fun p hp => absurd hp List.not_mem_nil, fun p hp => absurd hp List.not_mem_nil⟩, hBm, hBp, (ne_of (upd_same ..) hRL).symm, fun p hp => absurd hp List.not_mem_nil, fun j => rfl, y3 _ _ (y2 _ _ (y1 _ _ hN4)), hnz⟩,
      rfl, rfl, rfl, rfl, Nat.le_refl _⟩
  have hNow := y3 _ _ (y2 _ _ (y1 _ _ hN4))
  generalize upd (upd (upd h4 mem (.list [])) RL (.list [])) pd (.idict []) = h5 at *
  refine i_seq (i_itR1 (i_cons (i_bin (i_len rfl hNow (by rw [List.length_map]; omega) (i_int ⟨_, _, rfl, rfl, by decide, PyProof.noPylong_small (by decide), i_nil ⟨((t3 + 7 : Nat) : Int), ?_, by unfold T.small; omega, ?_⟩⟩)))))
  · rw [List.length_map, hul, Int.fdiv_eq_ediv_of_nonneg _ (by decide)]
    congr 2; omega
  rw [Int.toNat_natCast]
  refine ⟨fun i loc h' => i ≤ t3 + 7 ∧ Bt B N nums i loc h', t3 + 7, ⟨Nat.zero_le _, W0⟩, ?_⟩
  rintro i loc h' ⟨hi, W⟩
  refine ⟨_, rfl, by rw [rangeL_len]; exact Nat.le_refl _, ?_⟩
  by_cases hil : i < t3 + 7
  · rw [rangeL_get hil]
    have e0 : (0 : Int) + (i : Int) * 1 = (i : Int) := by omega
    rw [e0]
    dsimp only [T.asN]
    exact turn_ok W (by omega) (by omega) fun loc2 h2 W2 => ⟨by omega, W2⟩
  · rw [rangeL_end (by omega)]
    exact last_ok W (by omega) q
end Mini

namespace Mini
set_option maxRecDepth 100000 in
set_option maxHeartbeats 8000000 in
open_top hd for PySem.Challenge.rw_ec5002_01
end Mini
/-! L1Q -/
namespace Mini
open PySem.Challenge

noncomputable abbrev K1 (P : Params) : Frag := Mini.hd.heap_39 P
theorem in_bis (P : Params) : FnIn (K1 P) 23 (fdOf (K1 P) 23) (bodyAt pw_ec5002_01 1) (scopeAt pw_ec5002_01 1) := ⟨⟨_, _, _, rfl⟩, rfl, rfl, rfl, rfl, rfl, rfl⟩
theorem in_key (P : Params) : FnIn (K1 P) 31 (fdOf (K1 P) 31) (bodyAt pw_ec5002_01 4) (scopeAt pw_ec5002_01 4) := ⟨⟨_, _, _, rfl⟩, rfl, rfl, rfl, rfl, rfl, rfl⟩
theorem in_set (P : Params) : FnIn (K1 P) 38 (fdOf (K1 P) 38) (bodyAt pw_ec5002_01 5) (scopeAt pw_ec5002_01 5) := ⟨⟨_, _, _, rfl⟩, rfl, rfl, rfl, rfl, rfl, rfl⟩
theorem in_find (P : Params) : FnIn (K1 P) 45 (fdOf (K1 P) 45) (bodyAt pw_ec5002_01 6) (scopeAt pw_ec5002_01 6) := ⟨⟨_, _, _, rfl⟩, rfl, rfl, rfl, rfl, rfl, rfl⟩
theorem in_get (P : Params) : FnIn (K1 P) 52 (fdOf (K1 P) 52) (bodyAt pw_ec5002_01 7) (scopeAt pw_ec5002_01 7) := ⟨⟨_, _, _, rfl⟩, rfl, rfl, rfl, rfl, rfl, rfl⟩
theorem in_scan (P : Params) : FnIn (K1 P) 57 (fdOf (K1 P) 57) (bodyAt pw_ec5002_01 8) (scopeAt pw_ec5002_01 8) := ⟨⟨_, _, _, rfl⟩, rfl, rfl, rfl, rfl, rfl, rfl⟩
theorem in_merge (P : Params) : FnIn (K1 P) 62 (fdOf (K1 P) 62) (bodyAt pw_ec5002_01 9) (scopeAt pw_ec5002_01 9) := ⟨⟨_, _, _, rfl⟩, rfl, rfl, rfl, rfl, rfl, rfl⟩
theorem in_rising (P : Params) : FnIn (K1 P) 67 (fdOf (K1 P) 67) (bodyAt pw_ec5002_01 10) (scopeAt pw_ec5002_01 10) := ⟨⟨_, _, _, rfl⟩, rfl, rfl, rfl, rfl, rfl, rfl⟩
theorem in_due (P : Params) : FnIn (K1 P) 72 (fdOf (K1 P) 72) (bodyAt pw_ec5002_01 11) (scopeAt pw_ec5002_01 11) := ⟨⟨_, _, _, rfl⟩, rfl, rfl, rfl, rfl, rfl, rfl⟩
theorem in_law (P : Params) : FnIn (K1 P) 77 (fdOf (K1 P) 77) (bodyAt pw_ec5002_01 12) (scopeAt pw_ec5002_01 12) := ⟨⟨_, _, _, rfl⟩, rfl, rfl, rfl, rfl, rfl, rfl⟩
theorem pk_bis3 (P : Params) (a b v : Value) (S : Setting) : peek (K1 P) S (bindArgs (fdOf (K1 P) 23) ⟨[a, b], [("key", v)]⟩) = some (n_bis.zip [a, b, .int 0 189, .none, v]) := rfl
theorem pk_bis4 (P : Params) (a b c v : Value) (S : Setting) : peek (K1 P) S (bindArgs (fdOf (K1 P) 23) ⟨[a, b, c], [("key", v)]⟩) = some (n_bis.zip [a, b, c, .none, v]) := rfl
theorem pk_key (P : Params) (a : Value) (S : Setting) : peek (K1 P) S (bindArgs (fdOf (K1 P) 31) ⟨[a], []⟩) = some (n_key.zip [a]) := rfl
theorem pk_set (P : Params) (a b c : Value) (S : Setting) : peek (K1 P) S (bindArgs (fdOf (K1 P) 38) ⟨[a, b, c], []⟩) = some (n_set.zip [a, b, c]) := rfl
theorem pk_find (P : Params) (a b : Value) (S : Setting) : peek (K1 P) S (bindArgs (fdOf (K1 P) 45) ⟨[a, b], []⟩) = some (n_find.zip [a, b]) := rfl
theorem pk_get (P : Params) (a b : Value) (S : Setting) : peek (K1 P) S (bindArgs (fdOf (K1 P) 52) ⟨[a, b], []⟩) = some (n_get.zip [a, b]) := rfl
theorem pk_scan (P : Params) (a b c : Value) (S : Setting) : peek (K1 P) S (bindArgs (fdOf (K1 P) 57) ⟨[a, b, c], []⟩) = some (n_scan.zip [a, b, c]) := rfl
theorem pk_merge (P : Params) (a b c : Value) (S : Setting) : peek (K1 P) S (bindArgs (fdOf (K1 P) 62) ⟨[a, b, c], []⟩) = some (n_merge.zip [a, b, c]) := rfl
theorem pk_rising (P : Params) (a : Value) (S : Setting) : peek (K1 P) S (bindArgs (fdOf (K1 P) 67) ⟨[a], []⟩) = some (n_rising.zip [a]) := rfl
theorem pk_due (P : Params) (a b c : Value) (S : Setting) : peek (K1 P) S (bindArgs (fdOf (K1 P) 72) ⟨[a, b, c], []⟩) = some (n_due.zip [a, b, c]) := rfl
theorem pk_law (P : Params) (a : Value) (S : Setting) : peek (K1 P) S (bindArgs (fdOf (K1 P) 77) ⟨[a], []⟩) = some (n_law.zip [a]) := rfl
theorem tail_at (P : Params) : ∃ vs, (K1 P).lookup 24 = some ⟨.type "list", none, .seq vs 0, #[]⟩ ∧ vs.toList.map er = tailL.map AV.int := ⟨_, rfl, rfl⟩
end Mini

/-! L1R -/
namespace Mini
open PySem.Challenge

theorem k_names {sc : Scope} {names : List Str} (h : (names.all fun x => sc.names.lookup x == some .local || sc.names.lookup x == some .cell) = true) : ∀ x ∈ names, sc.names.lookup x = some .local ∨ sc.names.lookup x = some .cell := by
  intro x hx
  have h := List.all_eq_true.mp h x hx
  rcases Bool.or_eq_true_iff.mp h with h | h
  · exact .inl (beq_iff_eq.mp h)
  · exact .inr (beq_iff_eq.mp h)
theorem kn_bis : ∀ x ∈ n_bis, (scopeAt pw_ec5002_01 1).names.lookup x = some .local ∨ (scopeAt pw_ec5002_01 1).names.lookup x = some .cell := k_names (by decide +kernel)
theorem kn_law : ∀ x ∈ n_law, (scopeAt pw_ec5002_01 12).names.lookup x = some .local ∨ (scopeAt pw_ec5002_01 12).names.lookup x = some .cell := k_names (by decide +kernel)
theorem fo_n {W : Wd} (ok : WdOk W) {K : Frag} (X : K.In W.h₀) {n : Nat} {f : Addr} {fd : FuncData} {body : List Stmt} {sc : Scope} {v : List (Nat × Str)} {names : List Str} {t : ST} (F : FnIn K f fd body sc) (hb : BkOk W n sc (vmOf v) body t)
    (pk : ∀ vs : List Value, vs.length = names.length → ∀ S : Setting, peek K S (bindArgs fd ⟨vs, []⟩) = some (names.zip vs)) (hvm : (v.all fun p => match names[p.1]? with | some y => p.2 == y | none => true) = true) (hnd : names.Nodup)
    (hkind : (names.all fun x => sc.names.lookup x == some .local || sc.names.lookup x == some .cell) = true) (knd : sc.kind = .function) (cor : sc.isCoroutine = false) (gen : sc.isGenerator = false) :
    FOk W (n + 1) (.ref f) (fun avs h Q => avs.length = names.length ∧ fnT (fun avs => avs) t avs h Q) :=
  fn_ok ok (names := names) (vfill := fun vs => vs) (F.at X knd cor gen) (by rw [F.scp]; exact hb) (vm_names hvm) hnd (by rw [F.scp]; exact k_names hkind) (fun s vs hl k => binds_peek X (pk vs hl) s k) (fun vs h => h) (fun _ _ => rfl)

theorem plain_of_well {P : Params} {h : Heap} {a : Addr} {xs : List WData} (w : Well P h (.ref a) (.list xs)) {vs : List Value} (hl : h.IsList a vs.toArray) : h.PlainList a vs.toArray := by
  cases w with
  | list ho _ =>
    obtain ⟨o, h1, h2, n, h3⟩ := hl
    rw [ho] at h1; cases h1
    cases h3
    exact ⟨_, ho⟩

section
variable {w : World} {h₀ : Heap} {p : Program} {loose : List Str} {mean : ExcName → Option Value} {mg mb : Str → Option Value}

abbrev W1 (w : World) (h₀ : Heap) : Wd := ⟨pw_ec5002_01, w, h₀, h₀.objs.size⟩
theorem W1_ok (T : Top p loose mean mg mb h₀) : WdOk (W1 w h₀) := ⟨fun b o e => Heap.lt_size e, T.nolimit⟩

theorem l1 {α : Type} {P : List α → Prop} (h : ∀ a, P [a]) : ∀ vs : List α, vs.length = 1 → P vs | [a], _ => h a
theorem l2 {α : Type} {P : List α → Prop} (h : ∀ a b, P [a, b]) : ∀ vs : List α, vs.length = 2 → P vs | [a, b], _ => h a b
theorem l3 {α : Type} {P : List α → Prop} (h : ∀ a b c, P [a, b, c]) : ∀ vs : List α, vs.length = 3 → P vs | [a, b, c], _ => h a b c

theorem fo_key (X : (K1 w.params).In h₀) (T : Top p loose mean mg mb h₀) (n : Nat) : FOk (W1 w h₀) (n + 1) (.ref 31) (f_key (W1 w h₀).B 31) :=
  fo_n (W1_ok T) (n := n) (names := n_key) X (in_key w.params) (bk_key (W1_ok T)) (l1 (fun a S => pk_key w.params a S)) (by decide +kernel) (by decide +kernel) (by decide +kernel) rfl rfl rfl
theorem bkb (X : (K1 w.params).In h₀) (T : Top p loose mean mg mb h₀) (n : Nat) : BkOk (W1 w h₀) (n + 1) (scopeAt pw_ec5002_01 1) (vmOf v_bis) (bodyAt pw_ec5002_01 1) (t_bis (W1 w h₀).B 31) :=
  bk_bis (W1_ok T) (n := n + 1) (glob_blt X T (x := "len") rfl rfl (by decide)) (FnIn.def (in_key w.params) X T rfl) (fo_key X T n)
theorem fo_bis3 (X : (K1 w.params).In h₀) (T : Top p loose mean mg mb h₀) (n : Nat) : FkOk (W1 w h₀) (n + 2) (.ref 23) "key" (f_bis3 (W1 w h₀).B 31) :=
  fk_ok (W1_ok T) (n := n + 1) (k := 2) (names := n_bis) (vfill := fun vs => vs.take 2 ++ [.int 0 189, .none] ++ vs.drop 2) (FnIn.at (in_bis w.params) X rfl rfl rfl) (bkb X T n) (vm_names (by decide +kernel)) (by decide +kernel) kn_bis
    (fun s vs v hl k => (l2 (P := fun vs => BindsTo s (fdOf (K1 w.params) 23) ⟨vs, [("key", v)]⟩ (n_bis.zip ((vs ++ [v]).take 2 ++ [.int 0 189, .none] ++ (vs ++ [v]).drop 2))) (fun a b => binds_peek X (pk_bis3 w.params a b v) s k)) vs hl)
    (l3 (fun a b c => rfl)) (l3 (fun a b c => rfl))
theorem l4 {α : Type} {P : List α → Prop} (h : ∀ a b c d, P [a, b, c, d]) : ∀ vs : List α, vs.length = 4 → P vs | [a, b, c, d], _ => h a b c d
theorem fo_bis4 (X : (K1 w.params).In h₀) (T : Top p loose mean mg mb h₀) (n : Nat) : FkOk (W1 w h₀) (n + 2) (.ref 23) "key" (f_bis4 (W1 w h₀).B 31) :=
  fk_ok (W1_ok T) (n := n + 1) (k := 3) (names := n_bis) (vfill := fun vs => vs.take 3 ++ [.none] ++ vs.drop 3) (FnIn.at (in_bis w.params) X rfl rfl rfl) (bkb X T n) (vm_names (by decide +kernel)) (by decide +kernel) kn_bis
    (fun s vs v hl k => (l3 (P := fun vs => BindsTo s (fdOf (K1 w.params) 23) ⟨vs, [("key", v)]⟩ (n_bis.zip ((vs ++ [v]).take 3 ++ [.none] ++ (vs ++ [v]).drop 3))) (fun a b c => binds_peek X (pk_bis4 w.params a b c v) s k)) vs hl)
    (l4 (fun a b c d => rfl)) (l4 (fun a b c d => rfl))
theorem fo_set (X : (K1 w.params).In h₀) (T : Top p loose mean mg mb h₀) (n : Nat) : FOk (W1 w h₀) (n + 3) (.ref 38) (f_set (W1 w h₀).B 31) :=
  fo_n (W1_ok T) (n := n + 2) (names := n_set) X (in_set w.params) (bk_set (W1_ok T) (FnIn.def (in_bis w.params) X T rfl) (fo_bis3 X T n) (FnIn.def (in_key w.params) X T rfl) (glob_blt X T (x := "len") rfl rfl (by decide))) (l3 (fun a b c S => pk_set w.params a b c S)) (by decide +kernel) (by decide +kernel) (by decide +kernel) rfl rfl rfl
theorem fo_find (X : (K1 w.params).In h₀) (T : Top p loose mean mg mb h₀) (n : Nat) : FOk (W1 w h₀) (n + 3) (.ref 45) (f_find (W1 w h₀).B 31) :=
  fo_n (W1_ok T) (n := n + 2) (names := n_find) X (in_find w.params) (bk_find (W1_ok T) (FnIn.def (in_bis w.params) X T rfl) (fo_bis3 X T n) (FnIn.def (in_key w.params) X T rfl) (glob_blt X T (x := "len") rfl rfl (by decide))) (l2 (fun a b S => pk_find w.params a b S)) (by decide +kernel) (by decide +kernel) (by decide +kernel) rfl rfl rfl
theorem fo_get (X : (K1 w.params).In h₀) (T : Top p loose mean mg mb h₀) (n : Nat) : FOk (W1 w h₀) (n + 4) (.ref 52) (f_get (W1 w h₀).B 31) :=
  fo_n (W1_ok T) (n := n + 3) (names := n_get) X (in_get w.params) (bk_get (W1_ok T) (FnIn.def (in_find w.params) X T rfl) (fo_find X T n)) (l2 (fun a b S => pk_get w.params a b S)) (by decide +kernel) (by decide +kernel) (by decide +kernel) rfl rfl rfl
theorem fo_scan (X : (K1 w.params).In h₀) (T : Top p loose mean mg mb h₀) (n : Nat) : FOk (W1 w h₀) (n + 4) (.ref 57) (f_scan (W1 w h₀).B 31) :=
  fo_n (W1_ok T) (n := n + 3) (names := n_scan) X (in_scan w.params) (bk_scan (W1_ok T) (FnIn.def (in_bis w.params) X T rfl) (fo_bis3 X T (n + 1)) (fo_bis4 X T (n + 1)) (FnIn.def (in_key w.params) X T rfl) (FnIn.def (in_find w.params) X T rfl) (fo_find X T n) (FnIn.def (in_set w.params) X T rfl) (fo_set X T n)) (l3 (fun a b c S => pk_scan w.params a b c S)) (by decide +kernel) (by decide +kernel) (by decide +kernel) rfl rfl rfl
theorem fo_merge (X : (K1 w.params).In h₀) (T : Top p loose mean mg mb h₀) (n : Nat) : FOk (W1 w h₀) (n + 4) (.ref 62) (f_merge (W1 w h₀).B 31) :=
  fo_n (W1_ok T) (n := n + 3) (names := n_merge) X (in_merge w.params) (bk_merge (W1_ok T) (glob_blt X T (x := "list") rfl rfl (by decide)) (FnIn.def (in_set w.params) X T rfl) (fo_set X T n)) (l3 (fun a b c S => pk_merge w.params a b c S)) (by decide +kernel) (by decide +kernel) (by decide +kernel) rfl rfl rfl
theorem fo_rising (X : (K1 w.params).In h₀) (T : Top p loose mean mg mb h₀) (n : Nat) : FOk (W1 w h₀) (n + 1) (.ref 67) (f_rising (W1 w h₀).B 31) :=
  fo_n (W1_ok T) (n := n) (names := n_rising) X (in_rising w.params) (bk_rising (W1_ok T) (glob_blt X T (x := "range") rfl rfl (by decide)) (glob_blt X T (x := "len") rfl rfl (by decide))) (l1 (fun a S => pk_rising w.params a S)) (by decide +kernel) (by decide +kernel) (by decide +kernel) rfl rfl rfl
theorem fo_due (X : (K1 w.params).In h₀) (T : Top p loose mean mg mb h₀) (n : Nat) : FOk (W1 w h₀) (n + 1) (.ref 72) (f_due (W1 w h₀).B 31) :=
  fo_n (W1_ok T) (n := n) (names := n_due) X (in_due w.params) (bk_due (W1_ok T) (glob_blt X T (x := "sorted") rfl rfl (by decide))) (l3 (fun a b c S => pk_due w.params a b c S)) (by decide +kernel) (by decide +kernel) (by decide +kernel) rfl rfl rfl

theorem law1_ok (X : (K1 w.params).In h₀) (T : Top p loose mean mg mb h₀) {a : Addr} {vs : List Value} {ns : List Int} {s : Shared} (hs : s.heap = h₀) (hl : h₀.PlainList a vs.toArray) (hv : vs.map er = ns.map AV.int) (hlen : ns.length ≤ 63)
    {R : Result → Shared → Prop} (q : ∀ s' : Shared, (∀ b o, s.heap.get? b = some o → s'.heap.get? b = some o) → s'.os = s.os → s'.gens = s.gens → R (.ok (.ret (.bool true))) s') :
    codeAny (model pw_ec5002_01 w) callerA (.call (.ref 77) ⟨[.ref a], []⟩) R s := by
  subst hs
  obtain ⟨ms, hm, he⟩ := tail_at w.params
  have ok := W1_ok (w := w) T
  have hb := bk_law ok (n := 8) (g_key := 31) (g_list := glob_blt X T (x := "list") rfl rfl (by decide)) (g_TAIL := glob_def X T (x := "_law_TAIL") (v := .ref 24) rfl) (g_range := glob_blt X T (x := "range") rfl rfl (by decide))
    (d_merge := FnIn.def (in_merge w.params) X T rfl) (h_merge := fo_merge X T 4) (d_due := FnIn.def (in_due w.params) X T rfl) (h_due := fo_due X T 7) (g_len := glob_blt X T (x := "len") rfl rfl (by decide)) (g_abs := glob_blt X T (x := "abs") rfl rfl (by decide))
    (d_set := FnIn.def (in_set w.params) X T rfl) (h_set := fo_set X T 5) (g_min := glob_blt X T (x := "min") rfl rfl (by decide)) (g_max := glob_blt X T (x := "max") rfl rfl (by decide)) (d_get := FnIn.def (in_get w.params) X T rfl) (h_get := fo_get X T 4)
    (d_scan := FnIn.def (in_scan w.params) X T rfl) (h_scan := fo_scan X T 4) (d_rising := FnIn.def (in_rising w.params) X T rfl) (h_rising := fo_rising X T 7)
  have hmore : s.heap.PlainList 24 ms := ⟨0, X _ _ hm⟩
  have hcells : ∀ (b : Addr) c, upd (upd (fun _ => none) a (.list (ns.map AV.int))) 24 (.list (tailL.map AV.int)) b = some c → CellAt (W1 w s.heap) s.heap b c := fun b c e => by
    by_cases h24 : b = 24
    · subst h24; rw [upd_same] at e; cases e
      exact ⟨ms, hmore, he⟩
    · rw [upd_ne h24] at e
      by_cases hba : b = a
      · subst hba; rw [upd_same] at e; cases e
        exact ⟨_, hl, hv⟩
      · rw [upd_ne hba] at e; cases e
  have ha : upd (upd (fun _ => none) a (.list (ns.map AV.int))) (24 : Nat) (.list (tailL.map AV.int)) a = some (Cell.list (ns.map AV.int)) := by
    by_cases h24 : a = (24 : Nat)
    · subst h24
      rw [upd_same]
      obtain ⟨n1, o1⟩ := hl
      have o2 := X _ _ hm
      rw [o1] at o2
      have : vs.toArray = ms := by injection o2 with o2; injection o2 with _ _ o2; injection o2
      rw [← this] at he
      have he' : vs.map er = tailL.map AV.int := he
      rw [← he', hv]
    · rw [upd_ne h24, upd_same]
  refine codeAny_mono (fn_top ok (n := 8) (FnIn.at (in_law w.params) X rfl rfl rfl) (names := n_law) (vals := [.ref a]) (E := fun _ _ => False) hb (vm_names (by decide +kernel)) (by decide +kernel) kn_law ⟨rfl, by decide +kernel, by decide +kernel⟩ hcells (fun _ _ e => e) (Nat.le_refl _) (binds_peek X (pk_law w.params (.ref a))) rfl
    (Q := fun v _ => v = .bool true) (law_spec (Q := fun v _ => v = .bool true) ha (upd_same ..) hlen fun _ => rfl).2) ?_
  intro r s' g
  match r, g with
  | .ok (.ret v), ⟨h', hp, tk, e, S, hq⟩ =>
    subst e
    rw [er_bool hq]
    exact q _ (fun b o eb => S.keep b o eb (.inr (.inl (Heap.lt_size eb)))) rfl rfl
end
end Mini

/-! L1S -/
namespace Mini
theorem ofPy_list (xs : List PyData) : ofPy (.list xs) = .list (ofPys xs) := by simp only [ofPy]
theorem post_t (x : List WData) : PySem.Challenge.rw_ec5002_01.row.claim.post x (WData.bool true) x = true :=
  postW_of (X := true) (by simp [OpenLaw.row, WShape.has, WShape.arms]) ((w_eq_bool (k := true) (l := true) (w_res rfl) w_lit).trans rfl) rfl
end Mini
set_option maxRecDepth 100000 in
set_option maxHeartbeats 8000000 in
theorem PySem.Challenge.cw_ec5002_01_holds : PySem.Challenge.rw_ec5002_01.Holds := by
  refine Mini.hd ?_
  k_fill
  intro w s₀ s₁ mg mb G Y fa o pm cd doc dV kV ho hd hcd hD hmg hg args vals as hpre hlay hrd hwl hlo
  have KX := kIn_of Y
  refine Ground.open G ?_
  intro T B D TE TW
  wrow_args hpre hlay hrd hwl hlo
  refine enter_call ?_
  refine codeAny_mono ?_ (fun _ _ g => GoodW.toG g)
  rename_i ns hs1 hlay0 hL hr2 hl2 w4 w3 a vs w0 hList ra w1 r0 hI hr1 hc1 hc2
  have hfa : some (Value.ref 77) = some (Value.ref fa) := (mg_of KX T.g (n := "law") rfl).symm.trans hmg
  cases hfa
  rw [Mini.ofPy_list] at w1
  exact Mini.law1_ok KX T rfl (Mini.plain_of_well w1 hList) (Mini.er_intsA hI) (by omega) (fun s' k e1 e2 => ⟨.inl ⟨_, .bool true, [], rfl, fun _ => rfl, ReadsW.bool true, Mini.post_t _, fun _ => ⟨List.nodup_nil, fun a ha => absurd ha List.not_mem_nil⟩⟩, k, e1, e2.trans hg⟩)
