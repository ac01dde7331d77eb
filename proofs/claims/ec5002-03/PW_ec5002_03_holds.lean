import PyProof.Rows.All
import Wide.All
import OpenK.AllK
import Wide.FinOn
import Lean
import PySem.Challenge.RW_ec5002_03
open PySem PySem.W PySem.Calls PyProof.Rows
set_option Elab.async false
set_option maxRecDepth 100000
set_option linter.unusedVariables false
set_option linter.unusedSectionVars false
/-! MiniA -/
namespace Mini

inductive AV where
  | none | bool (b : Bool) | int (i : Int) | ref (a : Addr) | other

def er : Value → AV
  | .none => .none
  | .bool b => .bool b
  | .int i _ => .int i
  | .ref a => .ref a
  | _ => .other

theorem er_int {v : Value} {i : Int} (h : er v = .int i) : ∃ t, v = .int i t := by
  cases v <;> simp [er] at h; exact ⟨_, by rw [h]⟩
theorem er_bool {v : Value} {b : Bool} (h : er v = .bool b) : v = .bool b := by
  cases v <;> simp [er] at h; rw [h]
theorem er_ref {v : Value} {a : Addr} (h : er v = .ref a) : v = .ref a := by
  cases v <;> simp [er] at h; rw [h]
theorem er_none {v : Value} (h : er v = .none) : v = .none := by
  cases v <;> simp [er] at h; rfl

inductive Cell where
  | list (xs : List AV)
  | tup (xs : List AV)
  | idict (es : List (Int × AV))
  | tdict (es : List (List Int × AV))

abbrev AH := Addr → Option Cell
abbrev Loc := Nat → Option AV

def upd {α : Type} (f : Nat → Option α) (i : Nat) (v : α) : Nat → Option α := fun j => if j = i then some v else f j
theorem upd_same {α : Type} (f : Nat → Option α) (i : Nat) (v : α) : upd f i v i = some v := if_pos rfl
theorem upd_ne {α : Type} {f : Nat → Option α} {i j : Nat} {v : α} (h : j ≠ i) : upd f i v j = f j := if_neg h

-- the world of one law
structure Wd where
  prog : Program
  w : World
  h₀ : Heap
  B : Addr

def IDictAt (W : Wd) (hp : Heap) (a : Addr) (es : List (Int × AV)) : Prop := ∃ kvs : List (Int × Value), hp.DictOf (intKind W.prog W.w) a kvs ∧ kvs.map (fun p => (p.1, er p.2)) = es ∧ (a == sysModules) = false
def TDictAt (W : Wd) (hp : Heap) (a : Addr) (es : List (List Int × AV)) : Prop := ∃ xs : List (List Int × Addr × Value), hp.DictOfH (tupleKind (intKind W.prog W.w)) a xs ∧ xs.map (fun x => (x.1, er x.2.2)) = es ∧ (a == sysModules) = false

def PlainTup (hp : Heap) (a : Addr) (vs : Array Value) : Prop := ∃ n, hp.get? a = some { cls := .type "tuple", data := .seq vs n }
theorem PlainTup.isTuple {hp : Heap} {a : Addr} {vs : Array Value} (x : PlainTup hp a vs) : hp.IsTuple a vs := let ⟨n, e⟩ := x; ⟨_, e, rfl, n, rfl⟩

def CellAt (W : Wd) (hp : Heap) (a : Addr) : Cell → Prop
  | .list xs => ∃ vs : Array Value, hp.PlainList a vs ∧ vs.toList.map er = xs
  | .tup xs => ∃ vs : Array Value, PlainTup hp a vs ∧ vs.toList.map er = xs
  | .idict es => IDictAt W hp a es
  | .tdict es => TDictAt W hp a es

def IsTupO (o : Obj) : Prop := o.cls = .type "tuple" ∧ ∃ xs n, o.data = .seq xs n
theorem ns_notTup {hp : Heap} {L : Addr} {m : Str → Option Value} (n : hp.Ns L m) : ∀ o, hp.get? L = some o → ¬ IsTupO o := by
  obtain ⟨o, es, ep, h1, h2, _⟩ := n
  rintro o' e ⟨_, xs, k, hd⟩
  rw [h1] at e; cases e; rw [h2] at hd; cases hd
theorem cell_notTup {hp : Heap} {c : Addr} {v : Option Value} (n : hp.IsCell c v) : ∀ o, hp.get? c = some o → ¬ IsTupO o := by
  obtain ⟨o, h1, h2⟩ := n
  rintro o' e ⟨_, xs, k, hd⟩
  rw [h1] at e; cases e; rw [h2] at hd; cases hd
theorem list_notTup {hp : Heap} {c : Addr} {vs : Array Value} (n : hp.PlainList c vs) : ∀ o, hp.get? c = some o → ¬ IsTupO o := by
  obtain ⟨o, h1, h2, _⟩ := n.isList
  rintro o' e ⟨hd, _⟩
  rw [h1] at e; cases e; rw [h2] at hd; exact absurd hd (by decide)

theorem CellAt.mono {W : Wd} {hp hp' : Heap} {a : Addr} {c : Cell} (x : CellAt W hp a c) (ha : ∀ o, hp.get? a = some o → hp'.get? a = some o)
    (ht : ∀ b o, hp.get? b = some o → IsTupO o → hp'.get? b = some o) : CellAt W hp' a c := by
  cases c with
  | list xs => obtain ⟨vs, ⟨n, ho⟩, e⟩ := x; exact ⟨vs, ⟨n, ha _ ho⟩, e⟩
  | tup xs => obtain ⟨vs, ⟨n, ho⟩, e⟩ := x; exact ⟨vs, ⟨n, ha _ ho⟩, e⟩
  | idict es => obtain ⟨kvs, ⟨o, es, ep, ho, r⟩, e⟩ := x; exact ⟨kvs, ⟨o, es, ep, ha _ ho, r⟩, e⟩
  | tdict es =>
    obtain ⟨xs, ⟨o, es, ep, ho, hc, hd, he, hk, hn⟩, e⟩ := x
    refine ⟨xs, ⟨o, es, ep, ha _ ho, hc, hd, he, fun y hy => ?_, hn⟩, e⟩
    obtain ⟨o', items, n, h1, h2, h3, h4⟩ := hk y hy
    exact ⟨o', items, n, ht _ _ h1 ⟨h2, _, _, h3⟩, h2, h3, h4⟩

structure Rel (W : Wd) (h : AH) (hp : Heap) : Prop where
  cells : ∀ a c, h a = some c → CellAt W hp a c
  base : ∀ b o, W.h₀.get? b = some o → hp.get? b = some o
  wit : ∃ b o, W.B ≤ b ∧ h b = none ∧ hp.get? b = some o

structure Step (W : Wd) (h : AH) (hp : Heap) (h' : AH) (hp' : Heap) : Prop where
  cells : ∀ a c, h' a = some c → CellAt W hp' a c
  keep : ∀ b o, hp.get? b = some o → (h b = none ∨ b < W.B ∨ IsTupO o) → hp'.get? b = some o
  fresh : ∀ b, h b = none → h' b ≠ none → hp.get? b = none ∧ W.B ≤ b
  dom : ∀ b, h' b = none → h b = none

structure WdOk (W : Wd) : Prop where
  size : ∀ b o, W.h₀.get? b = some o → b < W.B
  nolimit : W.h₀.NoLimit

theorem Step.rel {W : Wd} (ok : WdOk W) {h h' : AH} {hp hp' : Heap} (R : Rel W h hp) (S : Step W h hp h' hp') : Rel W h' hp' := by
  refine ⟨S.cells, fun b o e => S.keep b o (R.base b o e) (.inr (.inl (ok.size b o e))), ?_⟩
  obtain ⟨b, o, h1, h2, h3⟩ := R.wit
  refine ⟨b, o, h1, ?_, S.keep b o h3 (.inl h2)⟩
  cases q : h' b with
  | none => rfl
  | some c => have := (S.fresh b h2 (by rw [q]; exact nofun)).1; rw [h3] at this; cases this

theorem Step.stay {W : Wd} {h h' : AH} {hp hp' : Heap} (S : Step W h hp h' hp') {b : Addr} {o : Obj} (hb : hp.get? b = some o) (hn : h b = .none) : h' b = .none := by
  cases q : h' b with
  | none => rfl
  | some c => have := (S.fresh b hn (by rw [q]; exact nofun)).1; rw [hb] at this; cases this

theorem Step.refl {W : Wd} {h : AH} {hp : Heap} (R : Rel W h hp) : Step W h hp h hp :=
  ⟨R.cells, fun _ _ e _ => e, fun _ h1 h2 => absurd h1 h2, fun _ e => e⟩

theorem Step.trans {W : Wd} {h h' h'' : AH} {hp hp' hp'' : Heap} (S : Step W h hp h' hp') (T : Step W h' hp' h'' hp'') : Step W h hp h'' hp'' := by
  refine ⟨T.cells, fun b o e q => ?_, fun b h1 h2 => ?_, fun b e => S.dom b (T.dom b e)⟩
  · have e' := S.keep b o e q
    rcases q with q | q | q
    · exact T.keep b o e' (.inl (S.stay e q))
    · exact T.keep b o e' (.inr (.inl q))
    · exact T.keep b o e' (.inr (.inr q))
  · cases q : h' b with
    | some c => exact S.fresh b h1 (by rw [q]; exact nofun)
    | none =>
      obtain ⟨h3, h4⟩ := T.fresh b q h2
      refine ⟨?_, h4⟩
      cases q' : hp.get? b with
      | none => rfl
      | some o => have := S.keep b o q' (.inl h1); rw [h3] at this; cases this

-- a heap that has grown only (or changed at objects that are no cells and not kept)
theorem Step.keeps {W : Wd} {h : AH} {hp hp' : Heap} (R : Rel W h hp) (k : ∀ b o, hp.get? b = some o → hp'.get? b = some o) : Step W h hp h hp' :=
  ⟨fun a c e => (R.cells a c e).mono (fun o => k a o) (fun b o e _ => k b o e), fun b o e _ => k b o e, fun _ h1 h2 => absurd h1 h2, fun _ e => e⟩

-- the new cell
theorem Step.alloc {W : Wd} {h : AH} {hp hp' : Heap} {a : Addr} {c : Cell} (R : Rel W h hp) (ha : hp.get? a = Option.none) (hB : W.B ≤ a)
    (k : ∀ b o, hp.get? b = some o → hp'.get? b = some o) (hc : CellAt W hp' a c) : Step W h hp (upd h a c) hp' := by
  refine ⟨fun b c' e => ?_, fun b o e _ => k b o e, fun b h1 h2 => ?_, fun b e => ?_⟩
  · by_cases hb : b = a
    · subst hb; rw [upd_same] at e; cases e; exact hc
    · rw [upd_ne hb] at e
      exact (R.cells b c' e).mono (fun o => k b o) (fun b o e _ => k b o e)
  · by_cases hb : b = a
    · subst hb; exact ⟨ha, hB⟩
    · rw [upd_ne hb] at h2; exact absurd h1 h2
  · by_cases hb : b = a
    · subst hb; rw [upd_same] at e; cases e
    · rw [upd_ne hb] at e; exact e

theorem Rel.fresh {W : Wd} {h : AH} {hp : Heap} (R : Rel W h hp) {a : Addr} (ha : hp.get? a = Option.none) : h a = Option.none := by
  cases q : h a with
  | none => rfl
  | some c =>
    have := R.cells a c q
    cases c with
    | list xs => obtain ⟨vs, ⟨o, ho⟩, _⟩ := this; rw [ha] at ho; cases ho
    | tup xs => obtain ⟨vs, ⟨o, ho⟩, _⟩ := this; rw [ha] at ho; cases ho
    | idict es => obtain ⟨kvs, ⟨o, es, ep, ho, r⟩, e⟩ := this; rw [ha] at ho; cases ho
    | tdict es => obtain ⟨kvs, ⟨o, es, ep, ho, r⟩, e⟩ := this; rw [ha] at ho; cases ho

theorem Rel.size {W : Wd} {h : AH} {hp : Heap} (R : Rel W h hp) : W.B ≤ hp.objs.size := by
  obtain ⟨b, o, h1, _, h3⟩ := R.wit
  exact Nat.le_of_lt (Nat.lt_of_le_of_lt h1 (Heap.lt_size h3))

theorem get_size_none (hp : Heap) : hp.get? hp.objs.size = none := by
  cases q : hp.get? hp.objs.size with
  | none => rfl
  | some o => exact absurd (Heap.lt_size q) (Nat.lt_irrefl _)

theorem Step.push {W : Wd} {h : AH} {hp : Heap} {c : Cell} {o : Obj} (R : Rel W h hp) (hc : CellAt W (hp.push o) hp.objs.size c) :
    Step W h hp (upd h hp.objs.size c) (hp.push o) :=
  Step.alloc R (get_size_none hp) R.size (fun _ _ e => Heap.get?_push_of_some _ e) hc

-- a cell changed in place (no tuple)
theorem Step.set {W : Wd} {h : AH} {hp hp' : Heap} {a : Addr} {c c' : Cell} (R : Rel W h hp) (ha : h a = some c) (hB : W.B ≤ a) (hnt : ∀ o, hp.get? a = some o → ¬ IsTupO o)
    (hs : Heap.SameBut a hp hp') (hc : CellAt W hp' a c') : Step W h hp (upd h a c') hp' := by
  have hk : ∀ b o, b ≠ a → hp.get? b = some o → hp'.get? b = some o := fun b o hb e => (hs.2 b hb).trans e
  have ht : ∀ b o, hp.get? b = some o → IsTupO o → hp'.get? b = some o := fun b o e t => hk b o (fun q => hnt o (q ▸ e) t) e
  refine ⟨fun b d e => ?_, fun b o e q => ?_, fun b h1 h2 => ?_, fun b e => ?_⟩
  · by_cases hb : b = a
    · subst hb; rw [upd_same] at e; cases e; exact hc
    · rw [upd_ne hb] at e
      exact (R.cells b d e).mono (fun o => hk b o hb) ht
  · rcases q with q | q | q
    · exact hk b o (fun q' => by rw [q', ha] at q; cases q) e
    · exact hk b o (fun q' => by rw [q'] at q; exact absurd hB (Nat.not_le.mpr q)) e
    · exact ht b o e q
  · by_cases hb : b = a
    · rw [hb, ha] at h1; cases h1
    · rw [upd_ne hb] at h2; exact absurd h1 h2
  · by_cases hb : b = a
    · subst hb; rw [upd_same] at e; cases e
    · rw [upd_ne hb] at e; exact e

-- an object that is no cell and not of the base changed in place (an iterator)
theorem Step.other {W : Wd} {h : AH} {hp hp' : Heap} {a : Addr} (R : Rel W h hp) (hs : ∀ b o, b ≠ a → hp.get? b = some o → hp'.get? b = some o)
    (ha : h a = Option.none) : ∀ b c, h b = some c → b ≠ a := fun b c e q => by rw [q, ha] at e; cases e

/-! results -/
/-- a place that is free behind a step was free ahead of it -/
theorem Step.free {W : Wd} {h h' : AH} {hp hp' : Heap} (S : Step W h hp h' hp') {b : Addr} (hb : hp'.get? b = none) (hn : h' b = none) : hp.get? b = none := by
  cases q : hp.get? b with
  | none => rfl
  | some o => have := S.keep b o q (.inl (S.dom b hn)); rw [hb] at this; cases this

def Res (W : Wd) (h : AH) (s : Shared) (Q : AV → AH → Prop) : Value → Shared → Prop :=
  fun v s' => ∃ h' hp tk, s' = { s with heap := hp, toks := tk } ∧ Step W h s.heap h' hp ∧ Q (er v) h'
def ResB (W : Wd) (h : AH) (s : Shared) (Q : Bool → AH → Prop) : Bool → Shared → Prop :=
  fun v s' => ∃ h' hp tk, s' = { s with heap := hp, toks := tk } ∧ Step W h s.heap h' hp ∧ Q v h'

/-! frames -/
abbrev VM := Nat → Option Str

structure Frm (W : Wd) (env : Env) (vm : VM) (loc : Loc) (h : AH) (hp : Heap) : Prop where
  hk : env.scope.kind = .function
  hg : env.globals = mainGlobals
  hb : env.builtins = builtinsNs
  LB : W.B ≤ env.locals
  nL : h env.locals = none
  ns : ∃ m, hp.Ns env.locals m ∧ ∀ i x av, vm i = some x → env.kindOf x = some .local → loc i = some av → ∃ v, m x = some v ∧ er v = av
  cl : ∀ x c, env.cells.lookup x = some c → W.B ≤ c ∧ h c = none ∧ c ≠ env.locals ∧ ∃ v, hp.IsCell c v
  cv : ∀ i x av, vm i = some x → (env.kindOf x = some .cell ∨ env.kindOf x = some .free) → loc i = some av → ∃ c v, env.cells.lookup x = some c ∧ hp.IsCell c (some v) ∧ er v = av
  ap : ∀ x y c, env.cells.lookup x = some c → env.cells.lookup y = some c → x = y
  hc : ∀ x, env.kindOf x = some .cell → ∃ c, env.cells.lookup x = some c

theorem ns_some {hp : Heap} {L : Addr} {m : Str → Option Value} (n : hp.Ns L m) : ∃ o, hp.get? L = some o := let ⟨o, _, _, h, _⟩ := n; ⟨o, h⟩

theorem Frm.step {W : Wd} {env : Env} {vm : VM} {loc : Loc} {h h' : AH} {hp hp' : Heap} (F : Frm W env vm loc h hp) (S : Step W h hp h' hp') : Frm W env vm loc h' hp' := by
  obtain ⟨m, hm, hm2⟩ := F.ns
  obtain ⟨oL, hoL⟩ := ns_some hm
  have kL : ∀ o, hp.get? env.locals = some o → hp'.get? env.locals = some o := fun o e => S.keep _ o e (.inl F.nL)
  refine ⟨F.hk, F.hg, F.hb, F.LB, S.stay hoL F.nL, ⟨m, ?_, hm2⟩, fun x c e => ?_, fun i x av h1 h2 h3 => ?_, F.ap, F.hc⟩
  · obtain ⟨o, es, ep, ho, r⟩ := hm; exact ⟨o, es, ep, kL o ho, r⟩
  · obtain ⟨h1, h2, h3, v, o, ho, hv⟩ := F.cl x c e
    exact ⟨h1, S.stay ho h2, h3, v, o, S.keep c o ho (.inl h2), hv⟩
  · obtain ⟨c, v, e, ⟨o, ho, hv⟩, q⟩ := F.cv i x av h1 h2 h3
    exact ⟨c, v, e, ⟨o, S.keep c o ho (.inl (F.cl x c e).2.1), hv⟩, q⟩

/-! a statement's step: the frame's own objects may change -/
def Own (env : Env) (b : Addr) : Prop := b = env.locals ∨ ∃ x, env.cells.lookup x = some b

structure SStep (W : Wd) (env : Env) (h : AH) (hp : Heap) (h' : AH) (hp' : Heap) : Prop where
  cells : ∀ a c, h' a = some c → CellAt W hp' a c
  keep : ∀ b o, hp.get? b = some o → ¬ Own env b → (h b = none ∨ b < W.B ∨ IsTupO o) → hp'.get? b = some o
  fresh : ∀ b, h b = none → h' b ≠ none → hp.get? b = none ∧ W.B ≤ b
  dom : ∀ b, h' b = none → h b = none

theorem Step.s {W : Wd} {env : Env} {h h' : AH} {hp hp' : Heap} (S : Step W h hp h' hp') : SStep W env h hp h' hp' :=
  ⟨S.cells, fun b o e _ q => S.keep b o e q, S.fresh, S.dom⟩

theorem SStep.stay {W : Wd} {env : Env} {h h' : AH} {hp hp' : Heap} (S : SStep W env h hp h' hp') {b : Addr} {o : Obj} (hb : hp.get? b = some o) (hn : h b = .none) : h' b = .none := by
  cases q : h' b with
  | none => rfl
  | some c => have := (S.fresh b hn (by rw [q]; exact nofun)).1; rw [hb] at this; cases this

theorem SStep.rel {W : Wd} (ok : WdOk W) {env : Env} {vm : VM} {loc : Loc} {h h' : AH} {hp hp' : Heap} (R : Rel W h hp) (F : Frm W env vm loc h' hp') (hown : ∀ b o, W.h₀.get? b = some o → ¬ Own env b)
    (S : SStep W env h hp h' hp') : Rel W h' hp' := by
  obtain ⟨m, hm, _⟩ := F.ns
  obtain ⟨oL, hoL⟩ := ns_some hm
  exact ⟨S.cells, fun b o e => S.keep b o (R.base b o e) (hown b o e) (.inr (.inl (ok.size b o e))), ⟨_, oL, F.LB, F.nL, hoL⟩⟩

theorem Frm.own {W : Wd} (ok : WdOk W) {env : Env} {vm : VM} {loc : Loc} {h : AH} {hp : Heap} (F : Frm W env vm loc h hp) : ∀ b o, W.h₀.get? b = some o → ¬ Own env b := by
  rintro b o e (rfl | ⟨x, q⟩)
  · exact absurd (ok.size _ o e) (Nat.not_lt.mpr F.LB)
  · exact absurd (ok.size _ o e) (Nat.not_lt.mpr (F.cl x b q).1)

theorem SStep.trans {W : Wd} {env : Env} {h h' h'' : AH} {hp hp' hp'' : Heap} (S : SStep W env h hp h' hp') (T : SStep W env h' hp' h'' hp'')
    (how : ∀ b, Own env b → ∃ o, hp'.get? b = some o) : SStep W env h hp h'' hp'' := by
  refine ⟨T.cells, fun b o e n q => ?_, fun b h1 h2 => ?_, fun b e => S.dom b (T.dom b e)⟩
  · have e' := S.keep b o e n q
    rcases q with q | q | q
    · exact T.keep b o e' n (.inl (S.stay e q))
    · exact T.keep b o e' n (.inr (.inl q))
    · exact T.keep b o e' n (.inr (.inr q))
  · cases q : h' b with
    | some c => exact S.fresh b h1 (by rw [q]; exact nofun)
    | none =>
      obtain ⟨h3, h4⟩ := T.fresh b q h2
      refine ⟨?_, h4⟩
      cases q' : hp.get? b with
      | none => rfl
      | some o =>
        by_cases hn : Own env b
        · obtain ⟨o', e'⟩ := how b hn
          rw [h3] at e'; cases e'
        · have := S.keep b o q' hn (.inl h1); rw [h3] at this; cases this

theorem Frm.how {W : Wd} {env : Env} {vm : VM} {loc : Loc} {h : AH} {hp : Heap} (F : Frm W env vm loc h hp) : ∀ b, Own env b → ∃ o, hp.get? b = some o := by
  rintro b (rfl | ⟨x, q⟩)
  · obtain ⟨m, hm, _⟩ := F.ns; exact ns_some hm
  · obtain ⟨_, _, _, v, o, ho, _⟩ := F.cl x b q; exact ⟨o, ho⟩

/-! contexts, states, what is shown of a tree -/
structure Cx (n : Nat) (A : Around) : Prop where
  hd : A.handled = none
  dp : A.depth + n < recursionLimit
  un : A.units + 4 * n + 100 < cLine

theorem Cx.deeper {n : Nat} {A : Around} (c : Cx (n + 1) A) (env : Env) : Cx n (A.deeper env) :=
  ⟨c.hd, by have := c.dp; show A.depth + 1 + n < _; omega, by have := c.un; show A.units + 3 + 4 * n + 100 < _; omega⟩

structure St (W : Wd) (n : Nat) (sc : Scope) (vm : VM) (env : Env) (A : Around) (loc : Loc) (h : AH) (s : Shared) : Prop where
  sc : env.scope = sc
  cx : Cx n A
  fr : Frm W env vm loc h s.heap
  rel : Rel W h s.heap

section
variable {W : Wd} {n : Nat} {sc : Scope} {vm : VM} {env : Env} {A : Around} {loc : Loc} {h h' h'' : AH} {s : Shared} {hp hp' hp'' : Heap} {tk : Nat}

theorem St.step (ok : WdOk W) (x : St W n sc vm env A loc h s) (S : Step W h s.heap h' hp) : St W n sc vm env A loc h' { s with heap := hp, toks := tk } :=
  ⟨x.sc, x.cx, x.fr.step S, S.rel ok x.rel⟩

theorem Res.bind {Q : AV → AH → Prop} {v : Value} {s' : Shared} (S : Step W h s.heap h' hp) (r : Res W h' { s with heap := hp, toks := tk } Q v s') : Res W h s Q v s' := by
  obtain ⟨h2, hp2, tk2, rfl, S2, q⟩ := r
  exact ⟨h2, hp2, tk2, rfl, S.trans S2, q⟩
theorem ResB.bind {Q : Bool → AH → Prop} {v : Bool} {s' : Shared} (S : Step W h s.heap h' hp) (r : ResB W h' { s with heap := hp, toks := tk } Q v s') : ResB W h s Q v s' := by
  obtain ⟨h2, hp2, tk2, rfl, S2, q⟩ := r
  exact ⟨h2, hp2, tk2, rfl, S.trans S2, q⟩
end

abbrev ET := Loc → AH → (AV → AH → Prop) → Prop
abbrev TT := Loc → AH → (Bool → AH → Prop) → Prop
inductive Fl where
  | next | brk | cont
  | ret (v : AV)
abbrev ST := Loc → AH → (Fl → Loc → AH → Prop) → Prop
def erF : Flow → Fl
  | .next => .next
  | .brk => .brk
  | .cont => .cont
  | .ret v => .ret (er v)

def EvOk (W : Wd) (n : Nat) (sc : Scope) (vm : VM) (e : Expr) (t : ET) : Prop :=
  ∀ env A E s loc h Q, St W n sc vm env A loc h s → t loc h Q → wpAny (model W.prog W.w) A (eval e env) (Res W h s Q) E s
def TsOk (W : Wd) (n : Nat) (sc : Scope) (vm : VM) (e : Expr) (t : TT) : Prop :=
  ∀ env A E s loc h Q, St W n sc vm env A loc h s → t loc h Q → wpAny (model W.prog W.w) A (isTrue e env (eval e env)) (ResB W h s Q) E s
def OpOk (W : Wd) (n : Nat) (op : Operator) (p : AV → AV → AH → (AV → AH → Prop) → Prop) : Prop :=
  ∀ A E s va vb h Q, Cx n A → Rel W h s.heap → p (er va) (er vb) h Q → wpAny (model W.prog W.w) A (binaryOp op va vb) (Res W h s Q) E s
def CmpOk (W : Wd) (n : Nat) (op : CmpOp) (p : AV → AV → AH → (Bool → AH → Prop) → Prop) : Prop :=
  ∀ A E s va vb h Q, Cx n A → Rel W h s.heap → p (er va) (er vb) h Q → wpAny (model W.prog W.w) A (compareOp op va vb) (Res W h s fun v h' => ∃ b, v = .bool b ∧ Q b h') E s

def SRes (W : Wd) (env : Env) (vm : VM) (h : AH) (s : Shared) (Q : Fl → Loc → AH → Prop) : Flow → Shared → Prop :=
  fun f s' => ∃ loc' h' hp tk, s' = { s with heap := hp, toks := tk } ∧ SStep W env h s.heap h' hp ∧ Frm W env vm loc' h' hp ∧ Q (erF f) loc' h'
def ExOk (W : Wd) (n : Nat) (sc : Scope) (vm : VM) (st : Stmt) (t : ST) : Prop :=
  ∀ env A E s loc h Q, St W n sc vm env A loc h s → t loc h Q → wpAny (model W.prog W.w) A (exec st env) (SRes W env vm h s Q) E s
def BkOk (W : Wd) (n : Nat) (sc : Scope) (vm : VM) (st : List Stmt) (t : ST) : Prop :=
  ∀ env A E s loc h Q, St W n sc vm env A loc h s → t loc h Q → wpAny (model W.prog W.w) A (execs st env) (SRes W env vm h s Q) E s

section
variable {W : Wd} {n : Nat} {sc : Scope} {vm : VM} {env : Env} {A : Around} {loc : Loc} {h h' h'' : AH} {s : Shared} {hp hp' hp'' : Heap} {tk : Nat} {E : Value → Shared → Prop}

theorem EvOk.use (ok : WdOk W) {e : Expr} {t : ET} (he : EvOk W n sc vm e t) (st : St W n sc vm env A loc h s) {Q' : AV → AH → Prop} (ht : t loc h Q') {P : Value → Shared → Prop}
    (k : ∀ v h1 hp tk, Q' (er v) h1 → St W n sc vm env A loc h1 { s with heap := hp, toks := tk } → Step W h s.heap h1 hp → P v { s with heap := hp, toks := tk }) :
    wpAny (model W.prog W.w) A (eval e env) P E s :=
  wpAny_mono (he env A E s loc h Q' st ht) (by rintro v s' ⟨h1, hp, tk, rfl, S, q⟩; exact k v h1 hp tk q (st.step ok S) S) fun _ _ x => x
theorem TsOk.use (ok : WdOk W) {e : Expr} {t : TT} (he : TsOk W n sc vm e t) (st : St W n sc vm env A loc h s) {Q' : Bool → AH → Prop} (ht : t loc h Q') {P : Bool → Shared → Prop}
    (k : ∀ v h1 hp tk, Q' v h1 → St W n sc vm env A loc h1 { s with heap := hp, toks := tk } → Step W h s.heap h1 hp → P v { s with heap := hp, toks := tk }) :
    wpAny (model W.prog W.w) A (isTrue e env (eval e env)) P E s :=
  wpAny_mono (he env A E s loc h Q' st ht) (by rintro v s' ⟨h1, hp, tk, rfl, S, q⟩; exact k v h1 hp tk q (st.step ok S) S) fun _ _ x => x
end

namespace T
def var (i : Nat) : ET := fun loc h Q => ∃ v, loc i = some v ∧ Q v h
def int (k : Int) : ET := fun _ h Q => Q (.int k) h
def none : ET := fun _ h Q => Q .none h
def bool (b : Bool) : ET := fun _ h Q => Q (.bool b) h
def bin (p : AV → AV → AH → (AV → AH → Prop) → Prop) (l r : ET) : ET := fun loc h Q => l loc h fun a h1 => r loc h1 fun b h2 => p a b h2 Q
def cmp (p : AV → AV → AH → (Bool → AH → Prop) → Prop) (l r : ET) : TT := fun loc h Q => l loc h fun a h1 => r loc h1 fun b h2 => p a b h2 Q
def val (t : TT) : ET := fun loc h Q => t loc h fun b h1 => Q (.bool b) h1
end T

section
variable {W : Wd} (ok : WdOk W) {n : Nat} {sc : Scope} {vm : VM}
include ok

theorem ev_local {i : Nat} {x : Str} {pos : Pos} (hv : vm i = some x) (hl : sc.names.lookup x = some .local) (hd : (x == ("__debug__" : Str)) = false) :
    EvOk W n sc vm (.Name x pos) (T.var i) := by
  rintro env A E s loc h Q st ⟨v, hv', q⟩
  obtain ⟨m, hm, hm2⟩ := st.fr.ns
  have hk : env.kindOf x = some .local := by unfold Env.kindOf; rw [st.sc]; exact hl
  obtain ⟨v', h1, h2⟩ := hm2 i x v hv hk hv'
  refine wpAny_Name (wpAny_loadName_local st.fr.hk hk hm h1 ⟨h, s.heap, s.toks, rfl, Step.refl st.rel, ?_⟩) hd
  rw [h2]; exact q

theorem ev_cell {i : Nat} {x : Str} {pos : Pos} (hv : vm i = some x) (hl : sc.names.lookup x = some .cell) (hd : (x == ("__debug__" : Str)) = false) :
    EvOk W n sc vm (.Name x pos) (T.var i) := by
  rintro env A E s loc h Q st ⟨v, hv', q⟩
  have hk : env.kindOf x = some .cell := by unfold Env.kindOf; rw [st.sc]; exact hl
  obtain ⟨c, v', h1, h2, h3⟩ := st.fr.cv i x v hv (.inl hk) hv'
  refine wpAny_Name (wpAny_loadName_cell st.fr.hk hk h1 h2 ⟨h, s.heap, s.toks, rfl, Step.refl st.rel, ?_⟩) hd
  rw [h3]; exact q

theorem ev_free {i : Nat} {x : Str} {pos : Pos} (hv : vm i = some x) (hl : sc.names.lookup x = some .free) (hd : (x == ("__debug__" : Str)) = false) (hcd : (x == ("__classdict__" : Str)) = false) :
    EvOk W n sc vm (.Name x pos) (T.var i) := by
  rintro env A E s loc h Q st ⟨v, hv', q⟩
  have hk : env.kindOf x = some .free := by unfold Env.kindOf; rw [st.sc]; exact hl
  obtain ⟨c, v', h1, h2, h3⟩ := st.fr.cv i x v hv (.inr hk) hv'
  refine wpAny_Name (wpAny_loadName_free st.fr.hk hk h1 h2 ⟨h, s.heap, s.toks, rfl, Step.refl st.rel, ?_⟩ hcd) hd
  rw [h3]; exact q

theorem ev_int {k : Int} {kk : Nat} {pos : Pos} : EvOk W n sc vm (.Constant (.int k) kk pos) (T.int k) := by
  rintro env A E s loc h Q st q
  exact wpAny_Constant_int ⟨h, s.heap, s.toks + 1, rfl, Step.refl st.rel, q⟩
theorem ev_none {kk : Nat} {pos : Pos} : EvOk W n sc vm (.Constant .none kk pos) T.none := by
  rintro env A E s loc h Q st q
  exact wpAny_Constant_none ⟨h, s.heap, s.toks, rfl, Step.refl st.rel, q⟩
theorem ev_bool {b : Bool} {kk : Nat} {pos : Pos} : EvOk W n sc vm (.Constant (.bool b) kk pos) (T.bool b) := by
  rintro env A E s loc h Q st q
  exact wpAny_Constant_bool ⟨h, s.heap, s.toks, rfl, Step.refl st.rel, q⟩

theorem ev_bin {op : Operator} {p} {l r : Expr} {f g : ET} {pos : Pos} (hp : OpOk W n op p) (hl : EvOk W n sc vm l f) (hr : EvOk W n sc vm r g) :
    EvOk W n sc vm (.BinOp l op r pos) (T.bin p f g) := by
  intro env A E s loc h Q st q
  refine wpAny_BinOp (hl.use ok st q fun a h1 hp1 tk1 q1 st1 S1 => hr.use ok st1 q1 fun b h2 hp2 tk2 q2 st2 S2 => ?_)
  exact wpAny_mono (hp A E _ a b h2 Q st2.cx st2.rel q2) (fun v s' r => Res.bind S1 (Res.bind S2 r)) fun _ _ x => x

theorem ev_cmp {op : CmpOp} {p} {l r : Expr} {f g : ET} {pos : Pos} (hp : CmpOk W n op p) (hl : EvOk W n sc vm l f) (hr : EvOk W n sc vm r g) (hm : behindInMarks op r = false) :
    EvOk W n sc vm (.Compare l [op] [r] pos) (T.val (T.cmp p f g)) := by
  intro env A E s loc h Q st q
  refine wpAny_Compare1 (hl.use ok st q fun a h1 hp1 tk1 q1 st1 S1 => hr.use ok st1 q1 fun b h2 hp2 tk2 q2 st2 S2 => ?_) hm
  refine wpAny_mono (hp A E _ a b h2 _ st2.cx st2.rel q2) (fun v s' r => Res.bind (tk := tk1) S1 (Res.bind (tk := tk2) S2 ?_)) fun _ _ x => x
  obtain ⟨h3, hp3, tk3, e, S3, b, rfl', q3⟩ := r
  exact ⟨h3, hp3, tk3, e, S3, by rw [rfl']; exact q3⟩

theorem ts_cmp {op : CmpOp} {p} {l r : Expr} {f g : ET} {pos : Pos} (hp : CmpOk W n op p) (hl : EvOk W n sc vm l f) (hr : EvOk W n sc vm r g) (hm : behindInMarks op r = false) :
    TsOk W n sc vm (.Compare l [op] [r] pos) (T.cmp p f g) := by
  intro env A E s loc h Q st q
  refine wpAny_isTrue_Compare1 (hl.use ok st q fun a h1 hp1 tk1 q1 st1 S1 => hr.use ok st1 q1 fun b h2 hp2 tk2 q2 st2 S2 => ?_) hm
  refine wpAny_mono (hp A E _ a b h2 _ st2.cx st2.rel q2) (fun v s' r => ?_) fun _ _ x => x
  obtain ⟨h3, hp3, tk3, rfl, S3, b, hb, q3⟩ := r
  rw [er_bool hb]
  exact wpAny_truthy_bool (ResB.bind S1 (ResB.bind S2 ⟨h3, hp3, tk3, rfl, S3, q3⟩))
end
end Mini

/-! MiniB -/
namespace Mini

/-! primitive operators on ints -/
namespace P
abbrev Op := AV → AV → AH → (AV → AH → Prop) → Prop
abbrev Cm := AV → AV → AH → (Bool → AH → Prop) → Prop
def add : Op := fun a b h Q => ∃ x y, a = .int x ∧ b = .int y ∧ Q (.int (x + y)) h
def sub : Op := fun a b h Q => ∃ x y, a = .int x ∧ b = .int y ∧ Q (.int (x - y)) h
def mul : Op := fun a b h Q => ∃ x y, a = .int x ∧ b = .int y ∧ IntMulOk x y ∧ Q (.int (x * y)) h
def fdiv : Op := fun a b h Q => ∃ x y, a = .int x ∧ b = .int y ∧ y ≠ 0 ∧ Builtin.divisionGoesByPylong x y = false ∧ Q (.int (x.fdiv y)) h
def fmod : Op := fun a b h Q => ∃ x y, a = .int x ∧ b = .int y ∧ y ≠ 0 ∧ Q (.int (x.fmod y)) h
def shr : Op := fun a b h Q => ∃ x y, a = .int x ∧ b = .int y ∧ 0 ≤ y ∧ Q (.int (x.fdiv (2 ^ y.toNat))) h
def band : Op := fun a b h Q => ∃ x y, a = .int x ∧ b = .int y ∧ Q (.int (Builtin.bitAnd x y)) h
def pow : Op := fun a b h Q => ∃ x y, a = .int x ∧ b = .int y ∧ 0 ≤ y ∧ (Builtin.Int.intBits x : Int) * y ≤ 2 ^ 27 ∧ Q (.int (x ^ y.toNat)) h
def lt : Cm := fun a b h Q => ∃ x y, a = .int x ∧ b = .int y ∧ Q (decide (x < y)) h
def le : Cm := fun a b h Q => ∃ x y, a = .int x ∧ b = .int y ∧ Q (decide (x ≤ y)) h
def gt : Cm := fun a b h Q => ∃ x y, a = .int x ∧ b = .int y ∧ Q (decide (x > y)) h
def ge : Cm := fun a b h Q => ∃ x y, a = .int x ∧ b = .int y ∧ Q (decide (x ≥ y)) h
def eqI : Cm := fun a b h Q => ∃ x y, a = .int x ∧ b = .int y ∧ Q (x == y) h
def neI : Cm := fun a b h Q => ∃ x y, a = .int x ∧ b = .int y ∧ Q (x != y) h
def isNone (a : AV) : Bool := match a with | .none => true | _ => false
-- only where the right side is the written None
def isN : Cm := fun a b h Q => b = .none ∧ a ≠ .other ∧ Q (isNone a) h
def isNotN : Cm := fun a b h Q => b = .none ∧ a ≠ .other ∧ Q (!isNone a) h
end P

section
variable {W : Wd} {n : Nat}

theorem op_add : OpOk W n .Add P.add := by
  rintro A E s va vb h Q cx R ⟨x, y, ha, hb, q⟩
  obtain ⟨t, rfl⟩ := er_int ha; obtain ⟨u, rfl⟩ := er_int hb
  exact wpAny_add_int ⟨h, s.heap, s.toks + 1, rfl, Step.refl R, q⟩
theorem op_sub : OpOk W n .Sub P.sub := by
  rintro A E s va vb h Q cx R ⟨x, y, ha, hb, q⟩
  obtain ⟨t, rfl⟩ := er_int ha; obtain ⟨u, rfl⟩ := er_int hb
  exact PyProof.Rows.sub_int' ⟨h, s.heap, s.toks + 1, rfl, Step.refl R, q⟩
theorem op_mul : OpOk W n .Mult P.mul := by
  rintro A E s va vb h Q cx R ⟨x, y, ha, hb, hm, q⟩
  obtain ⟨t, rfl⟩ := er_int ha; obtain ⟨u, rfl⟩ := er_int hb
  exact PyProof.Rows.mul_int ⟨h, s.heap, s.toks + 1, rfl, Step.refl R, q⟩ hm
theorem op_fdiv : OpOk W n .FloorDiv P.fdiv := by
  rintro A E s va vb h Q cx R ⟨x, y, ha, hb, hy, hp, q⟩
  obtain ⟨t, rfl⟩ := er_int ha; obtain ⟨u, rfl⟩ := er_int hb
  exact PyProof.Rows.floordiv_int hy ⟨h, s.heap, s.toks + 1, rfl, Step.refl R, q⟩ (.inl hp)
theorem op_fmod : OpOk W n .Mod P.fmod := by
  rintro A E s va vb h Q cx R ⟨x, y, ha, hb, hy, q⟩
  obtain ⟨t, rfl⟩ := er_int ha; obtain ⟨u, rfl⟩ := er_int hb
  exact PyProof.Rows.mod_int' hy ⟨h, s.heap, s.toks + 1, rfl, Step.refl R, q⟩
theorem op_shr : OpOk W n .RShift P.shr := by
  rintro A E s va vb h Q cx R ⟨x, y, ha, hb, hy, q⟩
  obtain ⟨t, rfl⟩ := er_int ha; obtain ⟨u, rfl⟩ := er_int hb
  exact PyProof.Rows.rshift_int hy ⟨h, s.heap, s.toks + 1, rfl, Step.refl R, q⟩
theorem op_band : OpOk W n .BitAnd P.band := by
  rintro A E s va vb h Q cx R ⟨x, y, ha, hb, q⟩
  obtain ⟨t, rfl⟩ := er_int ha; obtain ⟨u, rfl⟩ := er_int hb
  exact PyProof.Rows.and_int ⟨h, s.heap, s.toks + 1, rfl, Step.refl R, q⟩
theorem op_pow : OpOk W n .Pow P.pow := by
  rintro A E s va vb h Q cx R ⟨x, y, ha, hb, hy, hm, q⟩
  obtain ⟨t, rfl⟩ := er_int ha; obtain ⟨u, rfl⟩ := er_int hb
  exact PyProof.Rows.pow_int hy hm ⟨h, s.heap, s.toks + 1, rfl, Step.refl R, q⟩

theorem cm_lt : CmpOk W n .Lt P.lt := by
  rintro A E s va vb h Q cx R ⟨x, y, ha, hb, q⟩
  obtain ⟨t, rfl⟩ := er_int ha; obtain ⟨u, rfl⟩ := er_int hb
  exact wpAny_lt_int ⟨h, s.heap, s.toks, rfl, Step.refl R, _, rfl, q⟩
theorem cm_le : CmpOk W n .LtE P.le := by
  rintro A E s va vb h Q cx R ⟨x, y, ha, hb, q⟩
  obtain ⟨t, rfl⟩ := er_int ha; obtain ⟨u, rfl⟩ := er_int hb
  exact PyProof.Rows.le_int ⟨h, s.heap, s.toks, rfl, Step.refl R, _, rfl, q⟩
theorem cm_gt : CmpOk W n .Gt P.gt := by
  rintro A E s va vb h Q cx R ⟨x, y, ha, hb, q⟩
  obtain ⟨t, rfl⟩ := er_int ha; obtain ⟨u, rfl⟩ := er_int hb
  exact PyProof.Rows.gt_int ⟨h, s.heap, s.toks, rfl, Step.refl R, _, rfl, q⟩
theorem cm_ge : CmpOk W n .GtE P.ge := by
  rintro A E s va vb h Q cx R ⟨x, y, ha, hb, q⟩
  obtain ⟨t, rfl⟩ := er_int ha; obtain ⟨u, rfl⟩ := er_int hb
  exact PyProof.Rows.ge_int ⟨h, s.heap, s.toks, rfl, Step.refl R, _, rfl, q⟩
theorem cm_eqI : CmpOk W n .Eq P.eqI := by
  rintro A E s va vb h Q cx R ⟨x, y, ha, hb, q⟩
  obtain ⟨t, rfl⟩ := er_int ha; obtain ⟨u, rfl⟩ := er_int hb
  exact PyProof.Rows.eq_int ⟨h, s.heap, s.toks, rfl, Step.refl R, _, rfl, q⟩
theorem cm_neI : CmpOk W n .NotEq P.neI := by
  rintro A E s va vb h Q cx R ⟨x, y, ha, hb, q⟩
  obtain ⟨t, rfl⟩ := er_int ha; obtain ⟨u, rfl⟩ := er_int hb
  exact PyProof.Rows.ne_int ⟨h, s.heap, s.toks, rfl, Step.refl R, _, rfl, q⟩
theorem cm_isN : CmpOk W n .Is P.isN := by
  rintro A E s va vb h Q cx R ⟨hb, ho, q⟩
  obtain rfl := er_none hb
  cases va with
  | none => exact wpAny_is_plain rfl ⟨h, s.heap, s.toks, rfl, Step.refl R, _, rfl, q⟩
  | bool b => exact wpAny_is_plain (by cases b <;> rfl) ⟨h, s.heap, s.toks, rfl, Step.refl R, _, rfl, q⟩
  | int i t => exact wpAny_is_plain rfl ⟨h, s.heap, s.toks, rfl, Step.refl R, _, rfl, q⟩
  | ref a => exact wpAny_is_plain rfl ⟨h, s.heap, s.toks, rfl, Step.refl R, _, rfl, q⟩
  | _ => exact absurd rfl ho
theorem cm_isNotN : CmpOk W n .IsNot P.isNotN := by
  rintro A E s va vb h Q cx R ⟨hb, ho, q⟩
  obtain rfl := er_none hb
  cases va with
  | none => exact wpAny_isNot_plain rfl ⟨h, s.heap, s.toks, rfl, Step.refl R, _, rfl, q⟩
  | bool b => exact wpAny_isNot_plain (by cases b <;> rfl) ⟨h, s.heap, s.toks, rfl, Step.refl R, _, rfl, q⟩
  | int i t => exact wpAny_isNot_plain rfl ⟨h, s.heap, s.toks, rfl, Step.refl R, _, rfl, q⟩
  | ref a => exact wpAny_isNot_plain rfl ⟨h, s.heap, s.toks, rfl, Step.refl R, _, rfl, q⟩
  | _ => exact absurd rfl ho
end

/-! tests, branches -/
namespace T
def not (t : TT) : TT := fun loc h Q => t loc h fun b h1 => Q (!b) h1
def and (t u : TT) : TT := fun loc h Q => t loc h fun b h1 => if b then u loc h1 Q else Q false h1
def or (t u : TT) : TT := fun loc h Q => t loc h fun b h1 => if b then Q true h1 else u loc h1 Q
def ifx (t : TT) (a b : ET) : ET := fun loc h Q => t loc h fun c h1 => if c then a loc h1 Q else b loc h1 Q
-- truth of a value
def truB (e : ET) : TT := fun loc h Q => e loc h fun v h1 => ∃ b, v = .bool b ∧ Q b h1
def truL (e : ET) : TT := fun loc h Q => e loc h fun v h1 => ∃ a xs, v = .ref a ∧ h1 a = some (.list xs) ∧ xs.length < 2 ^ 24 ∧ Q (!xs.isEmpty) h1
end T

section
variable {W : Wd} (ok : WdOk W) {n : Nat} {sc : Scope} {vm : VM}
include ok

theorem ts_not {e : Expr} {t : TT} {pos : Pos} (he : TsOk W n sc vm e t) : TsOk W n sc vm (.UnaryOp .Not e pos) (T.not t) := by
  intro env A E s loc h Q st q
  refine wpAny_isTrue_Not (he.use ok st q fun b h1 hp1 tk1 q1 st1 S1 => ⟨h1, hp1, tk1, rfl, S1, q1⟩)

theorem ts_and2 {a b : Expr} {t u : TT} {pos : Pos} (ha : TsOk W n sc vm a t) (hb : TsOk W n sc vm b u) : TsOk W n sc vm (.BoolOp .And [a, b] pos) (T.and t u) := by
  intro env A E s loc h Q st q
  refine wpAny_isTrue_BoolOp (wpAny_allTrue_And_cons (ha.use ok st q fun c h1 hp1 tk1 q1 st1 S1 => ?_))
  cases c with
  | false => exact ⟨h1, hp1, tk1, rfl, S1, q1⟩
  | true =>
    refine wpAny_allTrue_And_cons (hb.use ok st1 q1 fun d h2 hp2 tk2 q2 st2 S2 => ?_)
    cases d with
    | false => exact ⟨h2, hp2, tk2, rfl, S1.trans S2, q2⟩
    | true => exact wpAny_allTrue_And_nil ⟨h2, hp2, tk2, rfl, S1.trans S2, q2⟩
theorem ts_or2 {a b : Expr} {t u : TT} {pos : Pos} (ha : TsOk W n sc vm a t) (hb : TsOk W n sc vm b u) : TsOk W n sc vm (.BoolOp .Or [a, b] pos) (T.or t u) := by
  intro env A E s loc h Q st q
  refine wpAny_isTrue_BoolOp (wpAny_allTrue_Or_cons (ha.use ok st q fun c h1 hp1 tk1 q1 st1 S1 => ?_))
  cases c with
  | true => exact ⟨h1, hp1, tk1, rfl, S1, q1⟩
  | false =>
    refine wpAny_allTrue_Or_cons (hb.use ok st1 q1 fun d h2 hp2 tk2 q2 st2 S2 => ?_)
    cases d with
    | true => exact ⟨h2, hp2, tk2, rfl, S1.trans S2, q2⟩
    | false => exact wpAny_allTrue_Or_nil ⟨h2, hp2, tk2, rfl, S1.trans S2, q2⟩

theorem ev_ifx {t a b : Expr} {c : TT} {f g : ET} {pos : Pos} (ht : TsOk W n sc vm t c) (ha : EvOk W n sc vm a f) (hb : EvOk W n sc vm b g) :
    EvOk W n sc vm (.IfExp t a b pos) (T.ifx c f g) := by
  intro env A E s loc h Q st q
  refine wpAny_IfExp (ht.use ok st q fun d h1 hp1 tk1 q1 st1 S1 => ?_)
  cases d with
  | true => exact wpAny_mono (ha env A E _ loc h1 Q st1 q1) (fun v s' r => Res.bind (tk := tk1) S1 r) fun _ _ x => x
  | false => exact wpAny_mono (hb env A E _ loc h1 Q st1 q1) (fun v s' r => Res.bind (tk := tk1) S1 r) fun _ _ x => x

theorem ts_bool {e : Expr} {t : ET} (he : EvOk W n sc vm e t) (hw : ∀ env, isTrue e env (eval e env) = (do let v ← eval e env; standAt e.pos; holding [v] (truthy v))) :
    TsOk W n sc vm e (T.truB t) := by
  intro env A E s loc h Q st q
  refine wpAny_isTrue_value (he.use ok st q fun v h1 hp1 tk1 q1 st1 S1 => ?_) (hw env)
  obtain ⟨b, hb, q2⟩ := q1
  rw [er_bool hb]
  exact wpAny_truthy_bool ⟨h1, hp1, tk1, rfl, S1, q2⟩
theorem ts_list {e : Expr} {t : ET} (he : EvOk W n sc vm e t) (hw : ∀ env, isTrue e env (eval e env) = (do let v ← eval e env; standAt e.pos; holding [v] (truthy v))) :
    TsOk W n sc vm e (T.truL t) := by
  intro env A E s loc h Q st q
  refine wpAny_isTrue_value (he.use ok st q fun v h1 hp1 tk1 q1 st1 S1 => ?_) (hw env)
  obtain ⟨a, xs, hv, ha, hl, q2⟩ := q1
  obtain rfl := er_ref hv
  obtain ⟨vs, hvs, hx⟩ := st1.rel.cells a _ ha
  have hlen : vs.size = xs.length := by rw [← hx, List.length_map, Array.length_toList]
  refine wpAny_truthy_list hvs.isList (by rw [hlen]; omega) ⟨h1, hp1, tk1 + 1 + 1, rfl, S1, ?_⟩
  have : vs.isEmpty = xs.isEmpty := by
    rw [← hx]; cases vs with | mk l => cases l <;> rfl
  rw [this]; exact q2
end

/-! statements -/
namespace T
def seq (a b : ST) : ST := fun loc h Q => a loc h fun f loc1 h1 => match f with | .next => b loc1 h1 Q | f => Q f loc1 h1
def skip : ST := fun loc h Q => Q .next loc h
def asg (i : Nat) (e : ET) : ST := fun loc h Q => e loc h fun v h1 => Q .next (upd loc i v) h1
def ife (t : TT) (a b : ST) : ST := fun loc h Q => t loc h fun c h1 => if c then a loc h1 Q else b loc h1 Q
def ret (e : ET) : ST := fun loc h Q => e loc h fun v h1 => Q (.ret v) loc h1
def expr (e : ET) : ST := fun loc h Q => e loc h fun v h1 => Q .next loc h1
def raise : ST := fun _ _ _ => False
def while_ (t : TT) (b : ST) : ST := fun loc h Q => ∃ (I : Nat → Loc → AH → Prop) (k : Nat), I k loc h ∧ ∀ k loc h, I k loc h →
  t loc h fun c h1 => if c then b loc h1 fun f loc2 h2 => match f with
      | .next | .cont => ∃ m, m < k ∧ I m loc2 h2
      | .brk => Q .next loc2 h2
      | .ret v => Q (.ret v) loc2 h2
    else Q .next loc h1
end T

section
variable {W : Wd} (ok : WdOk W) {n : Nat} {sc : Scope} {vm : VM}

/-- a state behind a statement -/
theorem St.after (ok : WdOk W) {env : Env} {A : Around} {loc loc' : Loc} {h h' : AH} {s : Shared} {hp : Heap} {tk : Nat} (st : St W n sc vm env A loc h s)
    (S : SStep W env h s.heap h' hp) (F : Frm W env vm loc' h' hp) : St W n sc vm env A loc' h' { s with heap := hp, toks := tk } :=
  ⟨st.sc, st.cx, F, S.rel ok st.rel F (F.own ok)⟩

include ok
theorem bk_nil : BkOk W n sc vm [] T.skip := by
  intro env A E s loc h Q st q
  exact wpAny_execs_nil ⟨loc, h, s.heap, s.toks, rfl, (Step.refl st.rel).s, st.fr, q⟩

theorem bk_cons {a : Stmt} {r : List Stmt} {f g : ST} (ha : ExOk W n sc vm a f) (hr : BkOk W n sc vm r g) : BkOk W n sc vm (a :: r) (T.seq f g) := by
  intro env A E s loc h Q st q
  refine wpAny_execs_cons (wpAny_mono (ha env A E s loc h _ st q) ?_ fun _ _ x => x)
  rintro fl s' ⟨loc1, h1, hp1, tk1, rfl, S1, F1, q1⟩
  cases fl with
  | next =>
    have st1 := st.after ok (tk := tk1) S1 F1
    refine wpAny_mono (hr env A E _ loc1 h1 Q st1 q1) ?_ fun _ _ x => x
    rintro f2 s2 ⟨loc2, h2, hp2, tk2, rfl, S2, F2, q2⟩
    exact ⟨loc2, h2, hp2, tk2, rfl, S1.trans S2 F1.how, F2, q2⟩
  | brk => exact ⟨loc1, h1, hp1, tk1, rfl, S1, F1, q1⟩
  | cont => exact ⟨loc1, h1, hp1, tk1, rfl, S1, F1, q1⟩
  | ret v => exact ⟨loc1, h1, hp1, tk1, rfl, S1, F1, q1⟩

theorem bk_one {a : Stmt} {f : ST} (ha : ExOk W n sc vm a f) : BkOk W n sc vm [a] f := by
  intro env A E s loc h Q st q
  refine wpAny_execs_cons (wpAny_mono (ha env A E s loc h _ st q) ?_ fun _ _ x => x)
  rintro fl s' ⟨loc1, h1, hp1, tk1, rfl, S1, F1, q1⟩
  cases fl with
  | next => exact wpAny_execs_nil ⟨loc1, h1, hp1, tk1, rfl, S1, F1, q1⟩
  | brk => exact ⟨loc1, h1, hp1, tk1, rfl, S1, F1, q1⟩
  | cont => exact ⟨loc1, h1, hp1, tk1, rfl, S1, F1, q1⟩
  | ret v => exact ⟨loc1, h1, hp1, tk1, rfl, S1, F1, q1⟩

theorem ex_if {t : Expr} {a b : List Stmt} {c : TT} {f g : ST} {pos : Pos} (ht : TsOk W n sc vm t c) (ha : BkOk W n sc vm a f) (hb : BkOk W n sc vm b g) :
    ExOk W n sc vm (.If t a b pos) (T.ife c f g) := by
  intro env A E s loc h Q st q
  refine wpAny_If (ht.use ok st q fun d h1 hp1 tk1 q1 st1 S1 => ?_)
  have key : ∀ {l : List Stmt} {k : ST}, BkOk W n sc vm l k → k loc h1 Q → wpAny (model W.prog W.w) A (execs l env) (SRes W env vm h s Q) E { s with heap := hp1, toks := tk1 } := by
    intro l k hl q1
    refine wpAny_mono (hl env A E _ loc h1 Q st1 q1) ?_ fun _ _ x => x
    rintro f2 s2 ⟨loc2, h2, hp2, tk2, rfl, S2, F2, q2⟩
    exact ⟨loc2, h2, hp2, tk2, rfl, S1.s.trans S2 st1.fr.how, F2, q2⟩
  cases d with
  | true => exact key ha q1
  | false => exact key hb q1

theorem ex_return {e : Expr} {f : ET} {pos : Pos} (he : EvOk W n sc vm e f) : ExOk W n sc vm (.Return (some e) pos) (T.ret f) := by
  intro env A E s loc h Q st q
  refine wpAny_Return_some (he.use ok st q fun v h1 hp1 tk1 q1 st1 S1 => ?_)
  exact ⟨loc, h1, hp1, tk1, rfl, S1.s, st1.fr, q1⟩

theorem ex_expr {e : Expr} {f : ET} {pos : Pos} (he : EvOk W n sc vm e f) (hs : ∀ env, swapsWith e none pos.line env = pure false) :
    ExOk W n sc vm (.Expr e pos) (T.expr f) := by
  intro env A E s loc h Q st q
  refine wpAny_Expr_any (he.use ok st q fun v h1 hp1 tk1 q1 st1 S1 => ?_) (by unfold interactive; rw [st.fr.hk]; rfl) (hs env)
  exact ⟨loc, h1, hp1, tk1, rfl, S1.s, st1.fr, q1⟩

def VInj (vm : VM) : Prop := ∀ i j x, vm i = some x → vm j = some x → i = j

omit ok in
/-- a store into the frame, as a tree: one object of the frame's own changes -/
theorem store_core (hj : VInj vm) {env : Env} {A : Around} {E : Value → Shared → Prop} {loc : Loc} {h : AH} {s : Shared} {i : Nat} {x : Str} {v : Value} {P : Unit → Shared → Prop}
    (F : Frm W env vm loc h s.heap) (hv : vm i = some x) (hl : env.kindOf x = some .local ∨ env.kindOf x = some .cell)
    (k : ∀ a hp tk, (a = env.locals ∨ (env.kindOf x = some .cell ∧ env.cells.lookup x = some a)) → (∀ o, s.heap.get? a = some o → ¬ IsTupO o) → h a = none → W.B ≤ a → Heap.SameBut a s.heap hp → Frm W env vm (upd loc i (er v)) h hp → P () { s with heap := hp, toks := tk }) :
    wpAny (model W.prog W.w) A (storeName env x v) P E s := by
  obtain ⟨m, hm, hm2⟩ := F.ns
  rcases hl with hl | hl
  · refine wpAny_storeName_local hl hm (fun h' hn hs => k env.locals h' _ (.inl rfl) (ns_notTup hm) F.nL F.LB hs ?_) (by rw [F.hk]; rfl)
    have hcell : ∀ {c : Addr} {v : Option Value} {y : Str}, env.cells.lookup y = some c → s.heap.IsCell c v → h'.IsCell c v := fun e hc => hc.sameBut hs (F.cl _ _ e).2.2.1
    refine ⟨F.hk, F.hg, F.hb, F.LB, F.nL, ⟨_, hn, fun j y av h1 h2 h3 => ?_⟩, fun y c e => ?_, fun j y av h1 h2 h3 => ?_, F.ap, F.hc⟩
    · by_cases hji : j = i
      · subst hji
        rw [upd_same] at h3; cases h3
        obtain rfl : y = x := Option.some.inj (h1.symm.trans hv)
        exact ⟨v, if_pos rfl, rfl⟩
      · rw [upd_ne hji] at h3
        obtain ⟨w, hw1, hw2⟩ := hm2 j y av h1 h2 h3
        exact ⟨w, by rw [if_neg (fun q : y = x => hji (hj j i x (q ▸ h1) hv))]; exact hw1, hw2⟩
    · obtain ⟨a1, a2, a3, w, hw⟩ := F.cl y c e
      exact ⟨a1, a2, a3, w, hcell e hw⟩
    · have hji : j ≠ i := fun q => by
        subst q
        obtain rfl : y = x := Option.some.inj (h1.symm.trans hv)
        rw [hl] at h2; rcases h2 with h2 | h2 <;> cases h2
      rw [upd_ne hji] at h3
      obtain ⟨c, w, hc, hw1, hw2⟩ := F.cv j y av h1 h2 h3
      exact ⟨c, w, hc, hcell hc hw1, hw2⟩
  · obtain ⟨c, hc⟩ := F.hc x hl
    obtain ⟨b1, b2, b3, v0, hv0⟩ := F.cl x c hc
    refine wpAny_storeName_cell F.hk hl hc hv0 (fun h' hv' hs => k c h' s.toks (.inr ⟨hl, hc⟩) (cell_notTup hv0) b2 b1 hs ?_)
    refine ⟨F.hk, F.hg, F.hb, F.LB, F.nL, ⟨m, hm.sameBut hs (Ne.symm b3), fun j y av h1 h2 h3 => ?_⟩, fun y d e => ?_, fun j y av h1 h2 h3 => ?_, F.ap, F.hc⟩
    · have hji : j ≠ i := fun q => by
        subst q
        obtain rfl : y = x := Option.some.inj (h1.symm.trans hv)
        rw [hl] at h2; cases h2
      rw [upd_ne hji] at h3
      exact hm2 j y av h1 h2 h3
    · obtain ⟨a1, a2, a3, w, hw⟩ := F.cl y d e
      refine ⟨a1, a2, a3, ?_⟩
      by_cases hd : d = c
      · subst hd; exact ⟨_, hv'⟩
      · exact ⟨w, hw.sameBut hs hd⟩
    · by_cases hji : j = i
      · subst hji
        rw [upd_same] at h3; cases h3
        obtain rfl : y = x := Option.some.inj (h1.symm.trans hv)
        exact ⟨c, v, hc, hv', rfl⟩
      · rw [upd_ne hji] at h3
        obtain ⟨d, w, hd, hw1, hw2⟩ := F.cv j y av h1 h2 h3
        refine ⟨d, w, hd, hw1.sameBut hs (fun q => ?_), hw2⟩
        subst q
        obtain rfl := F.ap y x d hd hc
        exact hji (hj j i y h1 hv)

omit ok in
theorem store_ok (hj : VInj vm) {env : Env} {A : Around} {E : Value → Shared → Prop} {loc : Loc} {h : AH} {s : Shared} {i : Nat} {x : Str} {v : Value} {P : Unit → Shared → Prop}
    (F : Frm W env vm loc h s.heap) (R : Rel W h s.heap) (hv : vm i = some x) (hl : env.kindOf x = some .local ∨ env.kindOf x = some .cell)
    (k : ∀ hp tk, SStep W env h s.heap h hp → Frm W env vm (upd loc i (er v)) h hp → P () { s with heap := hp, toks := tk }) :
    wpAny (model W.prog W.w) A (storeName env x v) P E s := by
  refine store_core hj F hv hl fun a hp tk ha hnt hn hB hs F' => k hp tk ?_ F'
  have ho : Own env a := ha.imp id fun q => ⟨x, q.2⟩
  have hk : ∀ b o, b ≠ a → s.heap.get? b = some o → hp.get? b = some o := fun b o hb e => (hs.2 b hb).trans e
  refine ⟨fun b c e => ?_, fun b o e n _ => hk b o (fun q => n (q ▸ ho)) e, fun b h1 h2 => absurd h1 h2, fun _ e => e⟩
  have hb : b ≠ a := fun q => by rw [q, hn] at e; cases e
  exact (R.cells b c e).mono (fun o => hk b o hb) (fun b' o' e' t' => hk b' o' (fun q => hnt o' (q ▸ e') t') e')

theorem ex_asg (hj : VInj vm) {i : Nat} {x : Str} {e : Expr} {f : ET} {p pos : Pos} (he : EvOk W n sc vm e f) (hv : vm i = some x)
    (hl : sc.names.lookup x = some .local ∨ sc.names.lookup x = some .cell) (hs : ∀ env : Env, env.scope = sc → swapsWith e (some (.Name x p)) pos.line env = pure false) :
    ExOk W n sc vm (.Assign [.Name x p] e pos) (T.asg i f) := by
  intro env A E s loc h Q st q
  refine wpAny_Assign_Name (he.use ok st q fun v h1 hp1 tk1 q1 st1 S1 => ?_) (hs env st.sc)
  refine store_ok hj st1.fr st1.rel hv (by unfold Env.kindOf; rw [st.sc]; exact hl) fun hp tk S2 F2 => ?_
  exact ⟨_, h1, hp, tk, rfl, S1.s.trans S2 st1.fr.how, F2, q1⟩

omit ok in
theorem noted_false {M : Model} {A : Around} {env : Env} {v : Value} {s : Shared} (h : (fun _ _ => False : Value → Shared → Prop) v s) {P : Value → Shared → Prop} : P v s := h.elim

theorem ex_while {t : Expr} {b : List Stmt} {c : TT} {f : ST} {pos : Pos} (ht : TsOk W n sc vm t c) (hb : BkOk W n sc vm b f) : ExOk W n sc vm (.While t b [] pos) (T.while_ c f) := by
  rintro env A E s loc h Q st ⟨I, k, hI, turn⟩
  refine wpAny_While ?_
  refine codeAny_whileLoop (prog := W.prog) (w := W.w) (fun k s' => ∃ loc' h' hp tk, s' = { s with heap := hp, toks := tk } ∧ SStep W env h s.heap h' hp ∧ Frm W env vm loc' h' hp ∧ I k loc' h') ?_ k
    ⟨loc, h, s.heap, s.toks, rfl, (Step.refl st.rel).s, st.fr, hI⟩
  rintro k _ ⟨loc1, h1, hp1, tk1, rfl, S1, F1, hI1⟩
  have st1 := st.after ok (tk := tk1) S1 F1
  refine ht.use ok st1 (turn k loc1 h1 hI1) fun d h2 hp2 tk2 q2 st2 S2 => ?_
  cases d with
  | true =>
    refine wpAny_mono (hb env A (fun _ _ => False) _ loc1 h2 _ st2 q2) ?_ fun _ _ x => x.elim
    rintro f2 s2 ⟨loc3, h3, hp3, tk3, rfl, S3, F3, q3⟩
    have S := (S1.trans S2.s F1.how).trans S3 st2.fr.how
    cases f2 with
    | next => obtain ⟨m, hm, q3⟩ := q3; exact ⟨m, hm, loc3, h3, hp3, tk3, rfl, S, F3, q3⟩
    | cont => obtain ⟨m, hm, q3⟩ := q3; exact ⟨m, hm, loc3, h3, hp3, tk3, rfl, S, F3, q3⟩
    | brk => exact ⟨loc3, h3, hp3, tk3, rfl, S, F3, q3⟩
    | ret v => exact ⟨loc3, h3, hp3, tk3, rfl, S, F3, q3⟩
  | false => exact wpAny_execs_nil ⟨loc1, h2, hp2, tk2, rfl, S1.trans S2.s F1.how, st2.fr, q2⟩
end
end Mini

/-! MiniC -/
namespace Mini

/-! globals -/
def GlobAt (W : Wd) (x : Str) (v : Value) : Prop :=
  ∀ hp : Heap, (∀ b o, W.h₀.get? b = some o → hp.get? b = some o) → ∃ mg mb, hp.Ns mainGlobals mg ∧ hp.Ns builtinsNs mb ∧ (mg x = some v ∨ (mg x = none ∧ mb x = some v))

theorem glob_name {W : Wd} {n : Nat} {sc : Scope} {vm : VM} {env : Env} {A : Around} {loc : Loc} {h : AH} {s : Shared} {E : Value → Shared → Prop} {x : Str} {pos : Pos} {v : Value} {P : Value → Shared → Prop}
    (g : GlobAt W x v) (st : St W n sc vm env A loc h s) (hx : sc.names.lookup x = some .globalImplicit) (hd : (x == ("__debug__" : Str)) = false) (k : P v s) :
    wpAny (model W.prog W.w) A (eval (.Name x pos) env) P E s := by
  obtain ⟨mg, mb, h1, h2, h3⟩ := g s.heap st.rel.base
  have hk : env.kindOf x = some .globalImplicit := by unfold Env.kindOf; rw [st.sc]; exact hx
  rw [← st.fr.hg] at h1
  rw [← st.fr.hb] at h2
  rcases h3 with h3 | ⟨h3, h4⟩
  · exact Name_function_global st.fr.hk hk (loadGlobal_global h1 h3 k) hd
  · exact Name_function_global st.fr.hk hk (loadGlobal_builtin h1 h3 h2 h4 k) hd

namespace T
def glob (v : AV) : ET := fun _ h Q => Q v h
end T

/-- what is to hold whatever the new cell's place -/
def New (B : Addr) (h : AH) (c : Cell) (Q : AV → AH → Prop) : Prop := ∀ a, B ≤ a → h a = none → Q (.ref a) (upd h a c)

abbrev EsT := Loc → AH → (List AV → AH → Prop) → Prop
namespace T
def enil : EsT := fun _ h Q => Q [] h
def econs (f : ET) (g : EsT) : EsT := fun loc h Q => f loc h fun v h1 => g loc h1 fun vs h2 => Q (v :: vs) h2
def call (t : EsT) (p : List AV → AH → (AV → AH → Prop) → Prop) : ET := fun loc h Q => t loc h fun vs h1 => p vs h1 Q
def callv (i : Nat) (f : Addr) (t : EsT) (p : List AV → AH → (AV → AH → Prop) → Prop) : ET := fun loc h Q => loc i = some (.ref f) ∧ t loc h fun vs h1 => p vs h1 Q
def list (B : Addr) (t : EsT) : ET := fun loc h Q => t loc h fun vs h1 => vs.length ≤ 2 ^ 20 ∧ New B h1 (.list vs) Q
def tup (B : Addr) (t : EsT) : ET := fun loc h Q => t loc h fun vs h1 => vs.length ≤ 2 ^ 20 ∧ New B h1 (.tup vs) Q
end T

def ResL (W : Wd) (h : AH) (s : Shared) (Q : List AV → AH → Prop) : List Value → Shared → Prop :=
  fun v s' => ∃ h' hp tk, s' = { s with heap := hp, toks := tk } ∧ Step W h s.heap h' hp ∧ Q (v.map er) h'

def EsOk (W : Wd) (n : Nat) (sc : Scope) (vm : VM) (es : List Expr) (t : EsT) : Prop :=
  ∀ env A E s loc h Q pos, St W n sc vm env A loc h s → t loc h Q → wpAny (model W.prog W.w) A (spliced (backTo pos (starEach es env))) (ResL W h s Q) E s

def FOk (W : Wd) (n : Nat) (f : Value) (p : List AV → AH → (AV → AH → Prop) → Prop) : Prop :=
  ∀ A E s vs h Q, Cx n A → Rel W h s.heap → p (vs.map er) h Q → wpAny (model W.prog W.w) A (call f vs) (Res W h s Q) E s
def FkOk (W : Wd) (n : Nat) (f : Value) (kn : Str) (p : List AV → AH → (AV → AH → Prop) → Prop) : Prop :=
  ∀ A E s vs kv h Q, Cx n A → Rel W h s.heap → p ((vs ++ [kv]).map er) h Q → wpAny (model W.prog W.w) A (call f vs [(kn, kv)]) (Res W h s Q) E s

theorem Cx.le {m n : Nat} {A : Around} (h : m ≤ n) (c : Cx n A) : Cx m A := ⟨c.hd, by have := c.dp; omega, by have := c.un; omega⟩
theorem FOk.le {W : Wd} {m n : Nat} {f : Value} {p} (h : m ≤ n) (x : FOk W m f p) : FOk W n f p := fun A E s vs hh Q cx => x A E s vs hh Q (cx.le h)
theorem FkOk.le {W : Wd} {m n : Nat} {f : Value} {kn : Str} {p} (h : m ≤ n) (x : FkOk W m f kn p) : FkOk W n f kn p := fun A E s vs kv hh Q cx => x A E s vs kv hh Q (cx.le h)

section
variable {W : Wd} (ok : WdOk W) {n : Nat} {sc : Scope} {vm : VM}
include ok

theorem ev_glob {x : Str} {v : Value} {pos : Pos} (g : GlobAt W x v) (hx : sc.names.lookup x = some .globalImplicit) (hd : (x == ("__debug__" : Str)) = false) :
    EvOk W n sc vm (.Name x pos) (T.glob (er v)) := by
  intro env A E s loc h Q st q
  exact glob_name g st hx hd ⟨h, s.heap, s.toks, rfl, Step.refl st.rel, q⟩

theorem es_nil : EsOk W n sc vm [] T.enil := by
  intro env A E s loc h Q pos st q
  exact Calls.spliced_nil ⟨h, s.heap, s.toks, rfl, Step.refl st.rel, q⟩

theorem es_cons {e : Expr} {es : List Expr} {f : ET} {g : EsT} (he : EvOk W n sc vm e f) (hes : EsOk W n sc vm es g)
    (hs : ∀ env, starEach (e :: es) env = (false, eval e env) :: starEach es env) : EsOk W n sc vm (e :: es) (T.econs f g) := by
  intro env A E s loc h Q pos st q
  rw [hs]
  refine Calls.spliced_cons (he.use ok st q fun v h1 hp1 tk1 q1 st1 S1 => ?_)
  refine wpAny_mono (hes env A E _ loc h1 _ pos st1 q1) ?_ fun _ _ x => x
  rintro vs s' ⟨h2, hp2, tk2, rfl, S2, q2⟩
  exact ⟨h2, hp2, tk2, rfl, S1.trans S2, q2⟩

theorem ev_list {es : List Expr} {t : EsT} {pos : Pos} (hes : EsOk W n sc vm es t) : EvOk W n sc vm (.List es pos) (T.list W.B t) := by
  intro env A E s loc h Q st q
  refine wpAny_List_spliced (wpAny_mono (hes env A E s loc h _ pos st q) ?_ fun _ _ x => x)
  rintro vs s' ⟨h1, hp1, tk1, rfl, S1, hlen, q1⟩
  rw [List.length_map] at hlen
  refine ⟨by rw [sizeLine_eq]; omega, ?_⟩
  have R1 := S1.rel ok st.rel
  refine ⟨_, _, tk1, rfl, S1.trans (Step.push (c := .list (vs.map er)) R1 ⟨_, ⟨0, Heap.get?_push_size _ rfl⟩, by simp⟩), q1 _ R1.size (R1.fresh (get_size_none _))⟩

theorem ev_tup {es : List Expr} {t : EsT} {kk : Nat} {pos : Pos} (hes : EsOk W n sc vm es t) : EvOk W n sc vm (.Tuple es kk pos) (T.tup W.B t) := by
  intro env A E s loc h Q st q
  refine wpAny_Tuple_spliced (wpAny_mono (hes env A E s loc h _ pos st q) ?_ fun _ _ x => x)
  rintro vs s' ⟨h1, hp1, tk1, rfl, S1, hlen, q1⟩
  rw [List.length_map] at hlen
  refine ⟨by rw [sizeLine_eq]; omega, ?_⟩
  have R1 := S1.rel ok st.rel
  refine ⟨_, _, tk1, rfl, S1.trans (Step.push (c := .tup (vs.map er)) R1 ⟨_, ⟨0, Heap.get?_push_size _ rfl⟩, by simp⟩), q1 _ R1.size (R1.fresh (get_size_none _))⟩

/-- a call of a built-in function or type by its global name -/
theorem ev_callB {x : Str} {f : Value} {np pos : Pos} {e : Expr} {es : List Expr} {t : EsT} {p} (hf : (∃ id, f = .builtin id) ∨ ∃ T, f = .type T) (g : GlobAt W x f) (hx : sc.names.lookup x = some .globalImplicit)
    (hd : (x == ("__debug__" : Str)) = false) (hes : EsOk W n sc vm (e :: es) t) (hp : FOk W n f p)
    (hs : ∀ env, starEach (e :: es) env = (false, eval e env) :: starEach es env) (hpl : ∀ env pos, (backTo pos (starEach es env)).any (·.1) = false) :
    EvOk W n sc vm (.Call (.Name x np) (e :: es) [] pos) (T.call t p) := by
  intro env A E s loc h Q st q
  refine wpAny_Call_NameR (glob_name g st hx hd ?_)
  have key : wpAny (model W.prog W.w) A (spliced (backTo pos (starEach (e :: es) env))) (fun vs s₁ => wpAny (model W.prog W.w) A (call f vs) (Res W h s Q) E s₁) E s := by
    refine wpAny_mono (hes env A E s loc h _ pos st q) ?_ fun _ _ x => x
    rintro vs s' ⟨h1, hp1, tk1, rfl, S1, q1⟩
    exact wpAny_mono (hp A E _ vs h1 Q st.cx (S1.rel ok st.rel) q1) (fun v s' r => Res.bind (tk := tk1) S1 r) fun _ _ x => x
  have hany : (backTo pos (starEach (e :: es) env)).any (·.1) = false := by
    rw [hs]
    show (false || (backTo pos (starEach es env)).any (·.1)) = false
    rw [hpl]; rfl
  rcases hf with ⟨id, rfl⟩ | ⟨T, rfl⟩
  · refine Calls.callWith_builtin hany ?_
    rw [hs] at key ⊢
    exact Calls.evalArgs_plain key
  · refine PyProof.Rows.callWith_type hany ?_
    rw [hs] at key ⊢
    exact Calls.evalArgs_plain key

/-- a call of a def by its global name -/
theorem ev_callF {x : Str} {f : Addr} {o : Obj} {fd : FuncData} {np pos : Pos} {e : Expr} {es : List Expr} {t : EsT} {p} (g : GlobAt W x (.ref f)) (hx : sc.names.lookup x = some .globalImplicit)
    (hd : (x == ("__debug__" : Str)) = false) (ho : W.h₀.get? f = some o) (hod : o.data = .func fd) (hes : EsOk W n sc vm (e :: es) t) (hp : FOk W n (.ref f) p)
    (hs : ∀ env, starEach (e :: es) env = (false, eval e env) :: starEach es env) :
    EvOk W n sc vm (.Call (.Name x np) (e :: es) [] pos) (T.call t p) := by
  intro env A E s loc h Q st q
  refine wpAny_Call_NameR (glob_name g st hx hd ?_)
  refine Calls.callWith_function (o := o) (fd := fd) ?_
  have key : wpAny (model W.prog W.w) A (spliced (backTo pos (starEach (e :: es) env))) (fun vs s₁ => (s₁.heap.get? f = some o ∧ o.data = .func fd) ∧ wpAny (model W.prog W.w) A (call (.ref f) vs) (Res W h s Q) E s₁) E s := by
    refine wpAny_mono (hes env A E s loc h _ pos st q) ?_ fun _ _ x => x
    rintro vs s' ⟨h1, hp1, tk1, rfl, S1, q1⟩
    have R1 := S1.rel ok st.rel
    exact ⟨⟨R1.base _ _ ho, hod⟩, wpAny_mono (hp A E _ vs h1 Q st.cx R1 q1) (fun v s' r => Res.bind (tk := tk1) S1 r) fun _ _ x => x⟩
  rw [hs] at key ⊢
  exact Calls.evalArgs_plain key

/-- a call of a def by its global name with one keyword -/
theorem ev_callK {x : Str} {f : Addr} {o : Obj} {fd : FuncData} {np pos kp : Pos} {e ke : Expr} {es : List Expr} {kn : Str} {t : EsT} {kt : ET} {p} (g : GlobAt W x (.ref f)) (hx : sc.names.lookup x = some .globalImplicit)
    (hd : (x == ("__debug__" : Str)) = false) (ho : W.h₀.get? f = some o) (hod : o.data = .func fd) (hes : EsOk W n sc vm (e :: es) t) (hk : EvOk W n sc vm ke kt) (hp : FkOk W n (.ref f) kn p)
    (hs : ∀ env, starEach (e :: es) env = (false, eval e env) :: starEach es env) :
    EvOk W n sc vm (.Call (.Name x np) (e :: es) [⟨some kn, ke, kp⟩] pos) (T.call (fun loc h Q => t loc h fun vs h1 => kt loc h1 fun v h2 => Q (vs ++ [v]) h2) p) := by
  intro env A E s loc h Q st q
  refine wpAny_Call_Name_kw (glob_name g st hx hd ?_)
  refine callWith_function_kw (o := o) (fd := fd) ?_
  have key : wpAny (model W.prog W.w) A (spliced (backTo pos (starEach (e :: es) env))) (fun vs s₁ => wpAny (model W.prog W.w) A (evalAll ((backToKw pos (keywordEach [⟨some kn, ke, kp⟩] env)).map (·.2)))
      (fun ks s₂ => (s₂.heap.get? f = some o ∧ o.data = .func fd) ∧ wpAny (model W.prog W.w) A (call (.ref f) ([] ++ vs) (((backToKw pos (keywordEach [⟨some kn, ke, kp⟩] env)).filterMap (·.1)).zip ks)) (Res W h s Q) E s₂) E s₁) E s := by
    refine wpAny_mono (hes env A E s loc h _ pos st q) ?_ fun _ _ x => x
    rintro vs s' ⟨h1, hp1, tk1, rfl, S1, q1⟩
    have st1 : St W n sc vm env A loc h1 { s with heap := hp1, toks := tk1 } := st.step ok S1
    show wpAny _ A (evalAll [(do let v ← eval ke env; standAt pos; pure v)]) _ _ _
    refine wpAny_evalAll_cons (wpAny_bind (hk.use ok st1 q1 fun kv h2 hp2 tk2 q2 st2 S2 => wpAny_bind (wpAny_standAt (wpAny_pure (wpAny_evalAll_nil ?_)))))
    refine ⟨⟨st2.rel.base _ _ ho, hod⟩, ?_⟩
    show wpAny _ A (call (.ref f) vs [(kn, kv)]) _ _ _
    refine wpAny_mono (hp A E _ vs kv h2 Q st.cx st2.rel ?_) (fun v s' r => Res.bind (tk := tk1) S1 (Res.bind (tk := tk2) S2 r)) fun _ _ x => x
    rw [List.map_append]; exact q2
  rw [hs] at key ⊢
  exact evalArgs_kw rfl key

/-- a call of a def that a local name holds -/
theorem ev_callV {i : Nat} {x : Str} {f : Addr} {o : Obj} {fd : FuncData} {np pos : Pos} {e : Expr} {es : List Expr} {t : EsT} {p} (hv : EvOk W n sc vm (.Name x np) (T.var i))
    (ho : W.h₀.get? f = some o) (hod : o.data = .func fd) (hes : EsOk W n sc vm (e :: es) t) (hp : FOk W n (.ref f) p)
    (hs : ∀ env, starEach (e :: es) env = (false, eval e env) :: starEach es env) :
    EvOk W n sc vm (.Call (.Name x np) (e :: es) [] pos) (T.callv i f t p) := by
  rintro env A E s loc h Q st ⟨hi, q⟩
  refine wpAny_Call_NameR (hv.use ok st (Q' := fun v h1 => v = .ref f ∧ t loc h1 fun vs h1 => p vs h1 Q) ⟨_, hi, rfl, q⟩ fun v h0 hp0 tk0 q0 st0 S0 => ?_)
  obtain ⟨hv0, q0⟩ := q0
  obtain rfl := er_ref hv0
  refine Calls.callWith_function (o := o) (fd := fd) ?_
  have key : wpAny (model W.prog W.w) A (spliced (backTo pos (starEach (e :: es) env))) (fun vs s₁ => (s₁.heap.get? f = some o ∧ o.data = .func fd) ∧ wpAny (model W.prog W.w) A (call (.ref f) vs) (Res W h s Q) E s₁) E { s with heap := hp0, toks := tk0 } := by
    refine wpAny_mono (hes env A E _ loc h0 _ pos st0 q0) ?_ fun _ _ x => x
    rintro vs s' ⟨h1, hp1, tk1, rfl, S1, q1⟩
    have R1 := S1.rel ok st0.rel
    exact ⟨⟨R1.base _ _ ho, hod⟩, wpAny_mono (hp A E _ vs h1 Q st.cx R1 q1) (fun v s' r => Res.bind (tk := tk0) S0 (Res.bind (tk := tk1) S1 r)) fun _ _ x => x⟩
  rw [hs] at key ⊢
  exact Calls.evalArgs_plain key
end

/-! the call of a def: its frame, its body -/
theorem bindL_out {k : Str → Option NameKind} {x : Str} : ∀ {binds : List (Str × Value)} {m : Str → Option Value}, x ∉ binds.map (·.1) → bindL k binds m x = m x
  | [], _, _ => rfl
  | (y, v) :: r, m, h => by
    simp only [List.map_cons, List.mem_cons, not_or] at h
    unfold bindL
    rw [bindL_out h.2]
    split
    · exact if_neg h.1
    · rfl
theorem bindC_out {k : Str → Option NameKind} {x : Str} : ∀ {binds : List (Str × Value)} {m : Str → Option Value}, x ∉ binds.map (·.1) → bindC k binds m x = m x
  | [], _, _ => rfl
  | (y, v) :: r, m, h => by
    simp only [List.map_cons, List.mem_cons, not_or] at h
    unfold bindC
    rw [bindC_out h.2]
    split
    · rfl
    · exact if_neg h.1
theorem bindL_mem {k : Str → Option NameKind} {x : Str} {v : Value} (hk : k x = some .local) : ∀ {binds : List (Str × Value)} {m : Str → Option Value}, (binds.map (·.1)).Nodup → (x, v) ∈ binds → bindL k binds m x = some v
  | (y, u) :: r, m, hn, h => by
    simp only [List.map_cons, List.nodup_cons] at hn
    unfold bindL
    rcases List.mem_cons.mp h with e | h
    · cases e
      rw [bindL_out hn.1, if_pos hk, if_pos rfl]
    · exact bindL_mem hk hn.2 h
theorem bindC_mem {k : Str → Option NameKind} {x : Str} {v : Value} (hk : k x = some .cell) : ∀ {binds : List (Str × Value)} {m : Str → Option Value}, (binds.map (·.1)).Nodup → (x, v) ∈ binds → bindC k binds m x = some v
  | (y, u) :: r, m, hn, h => by
    simp only [List.map_cons, List.nodup_cons] at hn
    unfold bindC
    rcases List.mem_cons.mp h with e | h
    · cases e
      rw [bindC_out hn.1, if_neg (by rw [hk]; decide), if_pos rfl]
    · exact bindC_mem hk hn.2 h

structure FnAt (W : Wd) (f : Addr) (fd : FuncData) (body : List Stmt) : Prop where
  obj : ∃ o, W.h₀.get? f = some o ∧ o.data = .func fd
  code : W.h₀.CodeRec fd.code fd.qualname
  clo : fd.closure = []
  glo : fd.globals = mainGlobals
  blt : fd.builtins = builtinsNs
  bdy : fd.body = .stmts body
  knd : fd.scope.kind = .function
  cor : fd.scope.isCoroutine = false
  gen : fd.scope.isGenerator = false

def FnRet (Q : AV → AH → Prop) : Fl → Loc → AH → Prop := fun f _ h => match f with | .ret v => Q v h | _ => Q .none h

/-- the body's tree, run in a new frame -/
def fnT (fill : List AV → List AV) (t : ST) : List AV → AH → (AV → AH → Prop) → Prop := fun avs h Q => t (fun i => (fill avs)[i]?) h (FnRet Q)

theorem fn_core {W : Wd} (ok : WdOk W) {n : Nat} {f : Addr} {fd : FuncData} {body : List Stmt} {vm : VM} {t : ST} {names : List Str} (FA : FnAt W f fd body) (hb : BkOk W n fd.scope vm body t)
    (hvm : ∀ i x, vm i = some x → ∀ y, names[i]? = some y → x = y) (hnd : names.Nodup) (hkind : ∀ x ∈ names, fd.scope.names.lookup x = some .local ∨ fd.scope.names.lookup x = some .cell)
    {A : Around} {E : Value → Shared → Prop} {s : Shared} {args : Args} {vals : List Value} {h : AH} {Q : AV → AH → Prop} (cx : Cx (n + 1) A) (R : Rel W h s.heap)
    (hbind : ∀ s' : Shared, (∀ b o, W.h₀.get? b = some o → s'.heap.get? b = some o) → BindsTo s' fd args (names.zip vals)) (hlen : vals.length = names.length)
    (q : t (fun i => (vals.map er)[i]?) h (FnRet Q)) : codeAny (model W.prog W.w) A (.call (.ref f) args) (fun r s' => match r with | .ok (.ret v) => Res W h s Q v s' | .ok _ => False | .error e => E e s') s := by
  obtain ⟨o, ho, hd⟩ := FA.obj
  refine codeAny_call_function (by have := cx.dp; omega) (R.base _ _ ho) hd FA.cor FA.gen FA.bdy (FA.code.keeps R.base) (hbind s R.base _ _ _ _ ?_)
  have hfst : (names.zip vals).map (·.1) = names := List.map_fst_zip (by omega)
  rw [FA.clo, FA.glo, FA.blt]
  refine wpAny_newFunctionEnv_cells FA.knd (fun x hx => ?_) (fun env henv s' X => ?_)
  · have hm : x.1 ∈ names := by rw [← hfst]; exact List.mem_map_of_mem hx
    rcases hkind x.1 hm with e | e
    · exact .inl e
    · exact .inr ⟨e, cellsFrom_some _ _ _ (.inl e)⟩
  have keep := X.toInCall.keep
  refine ⟨(ok.nolimit.keeps R.base).keeps keep, codeAny_func ?_⟩
  obtain ⟨h1, tk1, rfl, -⟩ := X.done
  have R1 : Rel W h h1 := (Step.keeps R keep).rel ok R
  have hscope : env.scope = fd.scope := by rw [henv]; rfl
  have hloc : env.locals = s.heap.objs.size := by rw [henv]; rfl
  have hcells : env.cells = cellsFrom (s.heap.objs.size + 1) fd.scope.names [] := by rw [henv]; rfl
  have above : ∀ x c, env.cells.lookup x = some c → s.heap.objs.size < c := fun x c e => hloc ▸ X.above x c (mem_of_lookup e)
  have hnone : ∀ b, s.heap.objs.size ≤ b → h b = none := fun b hb' => by
    refine R.fresh ?_
    cases q : s.heap.get? b with
    | none => rfl
    | some o => exact absurd (Heap.lt_size q) (Nat.not_lt.mpr hb')
  have inb : ∀ i x av, vm i = some x → (vals.map er)[i]? = some av → ∃ v, (x, v) ∈ names.zip vals ∧ er v = av := by
    intro i x av h1 h2
    rw [List.getElem?_map] at h2
    obtain ⟨v, hv, rfl⟩ := Option.map_eq_some_iff.mp h2
    have hi : i < vals.length := by
      rcases Nat.lt_or_ge i vals.length with q | q
      · exact q
      · rw [List.getElem?_eq_none q] at hv; cases hv
    have hn : names[i]? = some names[i] := List.getElem?_eq_getElem (by omega)
    have := hvm i x h1 _ hn
    refine ⟨v, ?_, rfl⟩
    have hz : (names.zip vals)[i]? = some (names[i], v) := by
      rw [List.getElem?_zip_eq_some]; exact ⟨hn, hv⟩
    rw [this]; exact List.mem_of_getElem? hz
  have F : Frm W env vm (fun i => (vals.map er)[i]?) h h1 := by
    refine ⟨by rw [hscope]; exact FA.knd, by rw [henv]; rfl, by rw [henv]; rfl, by rw [hloc]; exact R.size, by rw [hloc]; exact hnone _ (Nat.le_refl _), ⟨_, X.toInCall.ns, fun i x av e1 e2 e3 => ?_⟩, fun x c e => ?_, fun i x av e1 e2 e3 => ?_, fun x y c e1 e2 => ?_, fun x e => ?_⟩
    · obtain ⟨v, hv, hev⟩ := inb i x av e1 e3
      exact ⟨v, bindL_mem e2 (by rw [hfst]; exact hnd) hv, hev⟩
    · have := above x c e
      exact ⟨Nat.le_trans R.size (Nat.le_of_lt this), hnone c (Nat.le_of_lt this), by rw [hloc]; exact Nat.ne_of_gt this, _, X.cell x c e⟩
    · obtain ⟨v, hv, hev⟩ := inb i x av e1 e3
      have hc : env.kindOf x = some .cell := by
        rcases e2 with e2 | e2
        · exact e2
        · have hm : x ∈ names := by rw [← hfst]; exact List.mem_map_of_mem hv
          unfold Env.kindOf at e2
          rw [hscope] at e2
          rcases hkind x hm with e | e <;> rw [e] at e2 <;> cases e2
      have hs : (env.cells.lookup x).isSome = true := by
        rw [hcells]; exact cellsFrom_some _ _ _ (.inl (by unfold Env.kindOf at hc; rw [hscope] at hc; exact hc))
      obtain ⟨c, hc'⟩ := Option.isSome_iff_exists.mp hs
      refine ⟨c, v, hc', ?_, hev⟩
      have := X.cell x c hc'
      rw [bindC_mem hc (by rw [hfst]; exact hnd) hv] at this
      exact this
    · exact name_of_addr X.apart (mem_of_lookup e1) (mem_of_lookup e2)
    · have hs : (env.cells.lookup x).isSome = true := by
        rw [hcells]; exact cellsFrom_some _ _ _ (.inl (by unfold Env.kindOf at e; rw [hscope] at e; exact e))
      exact Option.isSome_iff_exists.mp hs
  have st : St W n fd.scope vm env (A.deeper env) (fun i => (vals.map er)[i]?) h { s with heap := h1, toks := tk1 } := ⟨hscope, cx.deeper env, F, R1⟩
  refine wpAny_mono (hb env (A.deeper env) (fun _ _ => False) _ _ h _ st q) ?_ fun _ _ x => x.elim
  rintro fl s2 ⟨loc2, h2, hp2, tk2, rfl, S2, F2, q2⟩
  have hS : Step W h s.heap h2 hp2 := by
    refine ⟨S2.cells, fun b o e c => ?_, fun b e1 e2 => ?_, S2.dom⟩
    · refine S2.keep b o (keep b o e) ?_ c
      have hlt := Heap.lt_size e
      rintro (q | ⟨x, q⟩)
      · rw [q, hloc] at hlt; exact Nat.lt_irrefl _ hlt
      · exact Nat.lt_irrefl _ (Nat.lt_trans (above x b q) hlt)
    · obtain ⟨e3, e4⟩ := S2.fresh b e1 e2
      refine ⟨?_, e4⟩
      cases q : s.heap.get? b with
      | none => rfl
      | some o => have := keep b o q; rw [e3] at this; cases this
  cases fl with
  | ret v => exact ⟨h2, hp2, tk2, rfl, hS, q2⟩
  | next => exact ⟨h2, hp2, tk2, rfl, hS, q2⟩
  | brk => exact ⟨h2, hp2, tk2, rfl, hS, q2⟩
  | cont => exact ⟨h2, hp2, tk2, rfl, hS, q2⟩

/-- positional arguments that fill the parameters -/
theorem fn_ok {W : Wd} (ok : WdOk W) {n : Nat} {f : Addr} {fd : FuncData} {body : List Stmt} {vm : VM} {t : ST} {names : List Str} (FA : FnAt W f fd body) (hb : BkOk W n fd.scope vm body t)
    (hvm : ∀ i x, vm i = some x → ∀ y, names[i]? = some y → x = y) (hnd : names.Nodup) (hkind : ∀ x ∈ names, fd.scope.names.lookup x = some .local ∨ fd.scope.names.lookup x = some .cell)
    {fill : List AV → List AV} {vfill : List Value → List Value} {k : Nat}
    (hbind : ∀ (s : Shared) vs, vs.length = k → (∀ b o, W.h₀.get? b = some o → s.heap.get? b = some o) → BindsTo s fd ⟨vs, []⟩ (names.zip (vfill vs)))
    (hlen : ∀ vs, vs.length = k → (vfill vs).length = names.length) (her : ∀ vs, vs.length = k → (vfill vs).map er = fill (vs.map er)) :
    FOk W (n + 1) (.ref f) (fun avs h Q => avs.length = k ∧ fnT fill t avs h Q) := by
  rintro A E s vs h Q cx R ⟨hk, q⟩
  rw [List.length_map] at hk
  refine wpAny_call (fn_core ok FA hb hvm hnd hkind cx R (fun s' hs => hbind s' vs hk hs) (hlen vs hk) ?_)
  rw [her vs hk]; exact q

theorem fk_ok {W : Wd} (ok : WdOk W) {n : Nat} {f : Addr} {fd : FuncData} {body : List Stmt} {vm : VM} {t : ST} {names : List Str} {kn : Str} (FA : FnAt W f fd body) (hb : BkOk W n fd.scope vm body t)
    (hvm : ∀ i x, vm i = some x → ∀ y, names[i]? = some y → x = y) (hnd : names.Nodup) (hkind : ∀ x ∈ names, fd.scope.names.lookup x = some .local ∨ fd.scope.names.lookup x = some .cell)
    {fill : List AV → List AV} {vfill : List Value → List Value} {k : Nat}
    (hbind : ∀ (s : Shared) vs v, vs.length = k → (∀ b o, W.h₀.get? b = some o → s.heap.get? b = some o) → BindsTo s fd ⟨vs, [(kn, v)]⟩ (names.zip (vfill (vs ++ [v]))))
    (hlen : ∀ vs, vs.length = k + 1 → (vfill vs).length = names.length) (her : ∀ vs, vs.length = k + 1 → (vfill vs).map er = fill (vs.map er)) :
    FkOk W (n + 1) (.ref f) kn (fun avs h Q => avs.length = k + 1 ∧ fnT fill t avs h Q) := by
  rintro A E s vs v h Q cx R ⟨hk, q⟩
  rw [List.length_map] at hk
  have hk' : vs.length = k := by rw [List.length_append, List.length_singleton] at hk; omega
  refine wpAny_call (fn_core ok FA hb hvm hnd hkind cx R (fun s' hs => hbind s' vs v hk' hs) (hlen _ hk) ?_)
  rw [her _ hk]; exact q
end Mini

/-! MiniD -/
namespace Mini

theorem map_get? {vs : Array Value} {xs : List AV} (h : vs.toList.map er = xs) {i : Nat} {v : AV} (hx : xs[i]? = some v) : ∃ x, vs[i]? = some x ∧ er x = v := by
  rw [← h, List.getElem?_map] at hx
  obtain ⟨x, h1, h2⟩ := Option.map_eq_some_iff.mp hx
  exact ⟨x, by rw [← Array.getElem?_toList]; exact h1, h2⟩
theorem map_len {vs : Array Value} {xs : List AV} (h : vs.toList.map er = xs) : vs.size = xs.length := by rw [← h, List.length_map, Array.length_toList]

def sliceA (xs : List AV) : Option Int → Option Int → List AV
  | none, none => xs
  | some a, none => xs.drop a.toNat
  | none, some b => xs.take b.toNat
  | some a, some b => (xs.take b.toNat).drop a.toNat
def ge0 : Option Int → Prop
  | none => True
  | some a => 0 ≤ a

theorem slicePick_er {vs : Array Value} {xs : List AV} (h : vs.toList.map er = xs) {lo hi : Option Int} (h1 : ge0 lo) (h2 : ge0 hi) : (slicePick vs lo hi none).toList.map er = sliceA xs lo hi := by
  subst h
  cases lo with
  | none => cases hi with
    | none => rw [slicePick_all]; rfl
    | some b =>
      obtain ⟨k, rfl⟩ := Int.eq_ofNat_of_zero_le h2
      rw [show (some (k : Int) : Option Int) = some ((k : Nat) : Int) from rfl, slicePick_upto']
      simp [sliceA, List.map_take]
  | some a =>
    obtain ⟨j, rfl⟩ := Int.eq_ofNat_of_zero_le h1
    cases hi with
    | none => rw [slicePick_from']; simp [sliceA, List.map_drop]
    | some b =>
      obtain ⟨k, rfl⟩ := Int.eq_ofNat_of_zero_le h2
      rw [slicePick_plain]
      simp only [Option.elim, clipAt_nat, sliceA, Int.toNat_natCast]
      rw [List.map_take, List.map_drop]
      generalize hys : vs.toList.map er = ys
      have hsz : vs.size = ys.length := by rw [← hys, List.length_map, Array.length_toList]
      rw [hsz]
      apply List.ext_getElem?
      intro i
      rw [List.getElem?_take, List.getElem?_drop, List.getElem?_drop, List.getElem?_take]
      by_cases h3 : i < min k ys.length - min j ys.length
      · rw [if_pos h3, if_pos (by omega)]
        congr 1; omega
      · rw [if_neg h3]
        by_cases h4 : j + i < k
        · rw [if_pos h4, List.getElem?_eq_none (by omega)]
        · rw [if_neg h4]

namespace T
def idx (o i : ET) : ET := fun loc h Q => o loc h fun a h1 => i loc h1 fun k h2 => ∃ l xs x v, a = .ref l ∧ k = .int x ∧ h2 l = some (.list xs) ∧ 0 ≤ x ∧ x < 2 ^ 62 ∧ xs[x.toNat]? = some v ∧ Q v h2
def sliceF (B : Addr) (a : AV) (Q : AV → AH → Prop) (lo hi : Option Int) (h3 : AH) : Prop :=
  ∃ l xs, a = .ref l ∧ h3 l = some (.list xs) ∧ xs.length ≤ 2 ^ 20 ∧ ge0 lo ∧ ge0 hi ∧ New B h3 (.list (sliceA xs lo hi)) Q
def part (f : Option ET) (loc : Loc) (h : AH) (k : Option Int → AH → Prop) : Prop := match f with
  | Option.none => k Option.none h
  | some f => f loc h fun v h1 => ∃ x, v = .int x ∧ k (some x) h1
def slice (B : Addr) (o : ET) (lo hi : Option ET) : ET := fun loc h Q => o loc h fun a h1 => part lo loc h1 fun x h2 => part hi loc h2 fun y h3 => sliceF B a Q x y h3
-- a list in its place: l[i] = v
def setP (B : Addr) (a k v : AV) (h : AH) (Q : AH → Prop) : Prop :=
  ∃ l xs x, a = .ref l ∧ k = .int x ∧ h l = some (.list xs) ∧ B ≤ l ∧ 0 ≤ x ∧ x < xs.length ∧ xs.length ≤ 2 ^ 20 ∧ Q (upd h l (.list (xs.set x.toNat v)))
def setidx (B : Addr) (o i e : ET) : ST := fun loc h Q => e loc h fun v h1 => o loc h1 fun a h2 => i loc h2 fun k h3 => setP B a k v h3 fun h4 => Q .next loc h4
def augidx (B : Addr) (o i e : ET) : ST := fun loc h Q => o loc h fun a h1 => i loc h1 fun k h2 => ∃ l xs x y, a = .ref l ∧ k = .int x ∧ h2 l = some (.list xs) ∧ 0 ≤ x ∧ x < 2 ^ 62 ∧ xs[x.toNat]? = some (.int y) ∧
  e loc h2 fun v h3 => ∃ z, v = .int z ∧ setP B a k (.int (y + z)) h3 fun h4 => Q .next loc h4
end T

section
variable {W : Wd} (ok : WdOk W) {n : Nat} {sc : Scope} {vm : VM}

theorem sub_any {A : Around} {E : Value → Shared → Prop} {s : Shared} {P : Value → Shared → Prop} {value slice : Expr} {o i : Value} {T id : String} (hT : s.TypeIs o T)
    (hl : typeLookup (.type T) "__getitem__" = pure (some (.builtin id))) (hs : subscripted slice false o i = operate [o, i] (getItem o i) ∨ subscripted slice false o i = operate [i, o] (getItem o i))
    (h : wpAny (model W.prog W.w) A (getItem o i) P E s) :
    wpAny (model W.prog W.w) A (getitemInPython o >>= fun b => subscripted slice b o i >>= fun r => letTemporaryGo value o r >>= fun _ => pure r) P E s := by
  rw [getitemInPython_of_ne hT.not_modules]
  refine wpAny_bind (wpAny_bind (wpAny_specialOf hT hl (wpAny_pure ?_)))
  have h' : wpAny (model W.prog W.w) A (subscripted slice false o i) P E s := by
    rcases hs with e | e <;> rw [e] <;> exact wpAny_operating h
  exact wpAny_bind (wpAny_mono h' (fun r s' hr => wpAny_bind (wpAny_letTemporaryGo (wpAny_pure hr))) fun _ _ x => x)

theorem getItem_ok {A : Around} {E : Value → Shared → Prop} {s : Shared} {h : AH} {l : Addr} {xs : List AV} {x : Int} {t : Tok} {v : AV} {P : Value → Shared → Prop} (R : Rel W h s.heap)
    (hc : h l = some (.list xs)) (h0 : 0 ≤ x) (h1 : x < 2 ^ 62) (hx : xs[x.toNat]? = some v) (k : ∀ u, er u = v → P u s) :
    wpAny (model W.prog W.w) A (getItem (.ref l) (.int x t)) P E s := by
  obtain ⟨vs, hp, hm⟩ := R.cells l _ hc
  obtain ⟨u, hu, he⟩ := map_get? hm hx
  exact wpAny_getItem_list hp.isList h0 (Int.lt_trans h1 (by decide)) hu (k u he)

/-- a store into a plain list, by its index -/
theorem setItem_ok {A : Around} {E : Value → Shared → Prop} {s : Shared} {h : AH} {l : Addr} {xs : List AV} {x : Int} {t : Tok} {v : Value} {P : Unit → Shared → Prop} (R : Rel W h s.heap)
    (hc : h l = some (.list xs)) (hB : W.B ≤ l) (h0 : 0 ≤ x) (h1 : x < xs.length) (h2 : xs.length ≤ 2 ^ 20) (k : ∀ hp, Step W h s.heap (upd h l (.list (xs.set x.toNat (er v)))) hp → P () { s with heap := hp }) :
    wpAny (model W.prog W.w) A (setItem (.ref l) (.int x t) v) P E s := by
  obtain ⟨vs, hp, hm⟩ := R.cells l _ hc
  obtain ⟨m, ho⟩ := id hp
  have hsz := map_len hm
  have hT : s.TypeIs (.ref l) "list" := ⟨_, ho, rfl⟩
  have hfit : Builtin.List.listFitsIndex x = true := fitsIndex_of h0 (by omega)
  unfold setItem
  try with_reducible refine wpAny_holding ?_
  first | refine wpAny_bind (wpAny_pure ?_) | skip
  refine wpAny_bind (wpAny_sequenceKey hT (by decide) ?_)
  refine wpAny_bind (wpAny_callSpecial?_slot (name := Str.ofString "__setitem__") hT slot_list_setitem (wpAny_call_entry slot_list_setitem hT entry_list_setitem ?_ (args_list_setitem _ _ _)))
  show wpAny _ _ (Builtin.List.listSubscript? (.int x t) >>= _) _ _ s
  refine wpAny_bind (wpAny_listSubscript_int hfit ?_)
  clear hfit
  obtain ⟨j, rfl⟩ := Int.eq_ofNat_of_zero_le h0
  have hj : j < vs.size := by omega
  show wpAny _ _ ((seqItemAt l j >>= fun r => pure (r.map (j, ·))) >>= _) _ _ s
  refine wpAny_bind (wpAny_bind (wpAny_seqItemAt ho rfl (wpAny_pure ?_)))
  rw [Array.getElem?_eq_getElem hj]
  show wpAny _ _ (setSeqItemAt l j v >>= _) _ _ s
  refine wpAny_bind (wpAny_setSeqItemAt ho rfl ?_)
  have hnew : (s.heap.update l (Obj.mapSeq (·.setIfInBounds j v))).PlainList l (vs.setIfInBounds j v) := by
    refine ⟨m, ?_⟩
    rw [Heap.get?_update_self _ ho (by simp [Obj.mapSeq]; rfl)]
    simp [Obj.mapSeq]
  have hS : Step W h s.heap (upd h l (.list (xs.set j (er v)))) (s.heap.update l (Obj.mapSeq (·.setIfInBounds j v))) :=
    Step.set R hc hB (list_notTup hp) (Heap.SameBut.update ..) ⟨_, hnew, by rw [Array.toList_setIfInBounds, List.map_set, hm]⟩
  first
    | exact wpAny_bind (wpAny_pure (wpAny_pure ⟨.none, rfl, wpAny_pure (k _ hS)⟩))
    | exact wpAny_pure ⟨.none, rfl, wpAny_pure (k _ hS)⟩
include ok

theorem ev_idx {o i : Expr} {f g : ET} {pos : Pos} (ho : EvOk W n sc vm o f) (hi : EvOk W n sc vm i g) (hs : ∀ a b, subscripted i false a b = operate [a, b] (getItem a b)) :
    EvOk W n sc vm (.Subscript o i pos) (T.idx f g) := by
  intro env A E s loc h Q st q
  rw [arm_eval_Subscript]
  refine wpAny_bind (ho.use ok st q fun a h1 hp1 tk1 q1 st1 S1 => wpAny_bind (wpAny_holding (hi.use ok st1 q1 fun b h2 hp2 tk2 q2 st2 S2 => wpAny_bind (wpAny_standAt ?_))))
  obtain ⟨l, xs, x, v, ha, hb, hl, h0, hx1, hx, q3⟩ := q2
  obtain rfl := er_ref ha
  obtain ⟨t, rfl⟩ := er_int hb
  obtain ⟨vs, hp, hm⟩ := st2.rel.cells l _ hl
  refine sub_any hp.isList.typeIs slot_list_getitem.lookup (.inl (hs _ _)) (getItem_ok st2.rel hl h0 hx1 hx fun u hu => ?_)
  exact ⟨h2, hp2, tk2, rfl, S1.trans S2, by rw [hu]; exact q3⟩

theorem ex_setidx {o i e : Expr} {f g k : ET} {p pos : Pos} (ho : EvOk W n sc vm o f) (hi : EvOk W n sc vm i g) (he : EvOk W n sc vm e k) (hs : ∀ env : Env, env.scope = sc → swapsWith e (some (.Subscript o i p)) pos.line env = pure false) :
    ExOk W n sc vm (.Assign [.Subscript o i p] e pos) (T.setidx W.B f g k) := by
  intro env A E s loc h Q st q
  refine wpAny_Assign_Subscript (he.use ok st q fun v h1 hp1 tk1 q1 st1 S1 => ho.use ok st1 q1 fun a h2 hp2 tk2 q2 st2 S2 => hi.use ok st2 q2 fun b h3 hp3 tk3 q3 st3 S3 => ?_) (hs env st.sc)
  obtain ⟨l, xs, x, ha, hb, hl, hB, h0, hx1, hx2, q4⟩ := q3
  obtain rfl := er_ref ha
  obtain ⟨t, rfl⟩ := er_int hb
  refine setItem_ok st3.rel hl hB h0 hx1 hx2 fun hp S4 => ?_
  have S := ((S1.trans S2).trans S3).trans S4
  exact ⟨loc, _, hp, tk3, rfl, S.s, st.fr.step S, q4⟩

theorem ex_augidx {o i e : Expr} {f g k : ET} {p pos : Pos} (ho : EvOk W n sc vm o f) (hi : EvOk W n sc vm i g) (he : EvOk W n sc vm e k)
    (hs : ∀ ov iv new, augStore i ov iv new = (do holding [new, ov, iv] (setItem ov iv new); release [new, ov, iv] []; pure .next)) :
    ExOk W n sc vm (.AugAssign (.Subscript o i p) .Add e pos) (T.augidx W.B f g k) := by
  intro env A E s loc h Q st q
  refine wpAny_AugAssign_SubscriptAny (ho.use ok st q fun a h1 hp1 tk1 q1 st1 S1 => hi.use ok st1 q1 fun b h2 hp2 tk2 q2 st2 S2 => ?_) hs
  obtain ⟨l, xs, x, y, ha, hb, hl, h0, hx1, hx, q3⟩ := q2
  obtain rfl := er_ref ha
  obtain ⟨t, rfl⟩ := er_int hb
  refine getItem_ok st2.rel hl h0 hx1 hx fun u hu => ?_
  obtain ⟨tu, rfl⟩ := er_int hu
  refine he.use ok st2 q3 fun v h3 hp3 tk3 q4 st3 S3 => ?_
  obtain ⟨z, hz, l', xs', x', e1, e2, hl', hB, h0', hx1', hx2', q5⟩ := q4
  obtain ⟨tz, rfl⟩ := er_int hz
  cases e1
  cases e2
  refine wpAny_iadd_int ?_
  refine setItem_ok (s := { s with heap := hp3, toks := tk3 + 1 }) st3.rel hl' hB h0' hx1' hx2' fun hp S4 => ?_
  have S := ((S1.trans S2).trans S3).trans S4
  exact ⟨loc, _, hp, tk3 + 1, rfl, S.s, st.fr.step S, q5⟩

omit ok in
theorem ev_part {p : Option Expr} {f : Option ET} (hp : match p, f with | none, none => True | some e, some g => EvOk W n sc vm e g | _, _ => False) (ok : WdOk W) {env : Env} {A : Around} {E : Value → Shared → Prop} {s : Shared} {loc : Loc} {h : AH}
    {k : Option Int → AH → Prop} {P : Value → Shared → Prop} (st : St W n sc vm env A loc h s) (q : T.part f loc h k)
    (j : ∀ v x h1 hp tk, IsPart v x → k x h1 → St W n sc vm env A loc h1 { s with heap := hp, toks := tk } → Step W h s.heap h1 hp → P v { s with heap := hp, toks := tk }) :
    wpAny (model W.prog W.w) A (evalPart p env) P E s := by
  cases p with
  | none => cases f with
    | none => exact wpAny_evalPart_none (j _ none h s.heap s.toks .none q st (Step.refl st.rel))
    | some g => exact hp.elim
  | some e => cases f with
    | none => exact hp.elim
    | some g =>
      refine wpAny_evalPart_some (EvOk.use ok hp st q fun v h1 hp1 tk1 q1 st1 S1 => ?_)
      obtain ⟨x, hx, q2⟩ := q1
      obtain ⟨t, rfl⟩ := er_int hx
      exact j _ _ h1 hp1 tk1 (.int x t) q2 st1 S1

theorem ev_slice {o : Expr} {lo hi : Option Expr} {f : ET} {g k : Option ET} {p pos : Pos} (ho : EvOk W n sc vm o f)
    (hlo : match lo, g with | none, none => True | some e, some g => EvOk W n sc vm e g | _, _ => False)
    (hhi : match hi, k with | none, none => True | some e, some g => EvOk W n sc vm e g | _, _ => False) :
    EvOk W n sc vm (.Subscript o (.Slice lo hi none p) pos) (T.slice W.B f g k) := by
  intro env A E s loc h Q st q
  rw [arm_eval_Subscript]
  refine wpAny_bind (ho.use ok st q fun a h1 hp1 tk1 q1 st1 S1 => wpAny_bind (wpAny_holding ?_))
  refine wpAny_Slice (ev_part hlo ok st1 q1 fun vl x h2 hp2 tk2 pl q2 st2 S2 => ev_part hhi ok st2 q2 fun vu y h3 hp3 tk3 pu q3 st3 S3 => wpAny_evalPart_none ?_)
  obtain ⟨l, xs, ha, hl, hsz, hx, hy, q4⟩ := q3
  obtain rfl := er_ref ha
  obtain ⟨vs, hp, hm⟩ := st3.rel.cells l _ hl
  refine wpAny_bind (wpAny_standAt ?_)
  refine sub_any (hp.isList.push _).typeIs slot_list_getitem.lookup (.inr rfl) ?_
  have hvs := map_len hm
  refine wpAny_getItem_list_slice (hp.isList.push _) (Heap.IsSliceOf.new ..) pl pu .none (by simp) ?_ (by rw [hvs, sizeLine_eq]; omega)
  have Sp : Step W h3 hp3 h3 (hp3.push { cls := .type "slice", data := .fields #[vl, vu, .none] }) := Step.keeps st3.rel fun _ _ e => Heap.get?_push_of_some _ e
  have Rp := Sp.rel ok st3.rel
  refine ⟨_, _, tk3, rfl, (((S1.trans S2).trans S3).trans Sp).trans (Step.push (c := .list (sliceA xs x y)) Rp ⟨_, ⟨0, Heap.get?_push_size _ rfl⟩, slicePick_er hm hx hy⟩), ?_⟩
  exact q4 _ Rp.size (Rp.fresh (get_size_none _))
end

/-! operators on lists -/
namespace P
def addL (B : Addr) : Op := fun a b h Q => ∃ l m xs ys, a = .ref l ∧ b = .ref m ∧ h l = some (.list xs) ∧ h m = some (.list ys) ∧ xs.length + ys.length ≤ 2 ^ 20 ∧ New B h (.list (xs ++ ys)) Q
def mulL (B : Addr) : Op := fun a b h Q => ∃ l xs y, a = .ref l ∧ b = .int y ∧ h l = some (.list [xs]) ∧ 0 ≤ y ∧ y ≤ 2 ^ 20 ∧ New B h (.list (List.replicate y.toNat xs)) Q
end P

theorem joined_one (v : Value) (k : Nat) : ∀ acc : Array Value, (List.foldl (fun x1 x2 => x1 ++ x2) acc (List.replicate k #[v])).toList = acc.toList ++ List.replicate k v := by
  induction k with
  | zero => intro acc; simp
  | succ k ih => intro acc; rw [List.replicate_succ, List.foldl_cons, ih]; simp [List.replicate_succ]

section
variable {W : Wd} {n : Nat} (ok : WdOk W)
include ok
theorem op_addL : OpOk W n .Add (P.addL W.B) := by
  rintro A E s va vb h Q cx R ⟨l, m, xs, ys, ha, hb, hl, hm, hsz, q⟩
  obtain rfl := er_ref ha
  obtain rfl := er_ref hb
  obtain ⟨vs, ⟨k1, e1⟩, m1⟩ := R.cells l _ hl
  obtain ⟨us, ⟨k2, e2⟩, m2⟩ := R.cells m _ hm
  refine P.add_list (n := k1) (n2 := k2) e1 e2 ?_ (by rw [map_len m1, map_len m2, sizeLine_eq]; omega)
  exact ⟨_, _, s.toks, rfl, Step.push (c := .list (xs ++ ys)) R ⟨_, ⟨0, Heap.get?_push_size _ rfl⟩, by simp [m1, m2]⟩, q _ R.size (R.fresh (get_size_none _))⟩

theorem op_mulL : OpOk W n .Mult (P.mulL W.B) := by
  rintro A E s va vb h Q cx R ⟨l, x, y, ha, hb, hl, h0, h1, q⟩
  obtain rfl := er_ref ha
  obtain ⟨t, rfl⟩ := er_int hb
  obtain ⟨vs, ⟨k1, e1⟩, m1⟩ := R.cells l _ hl
  have hvs : ∃ v, vs = #[v] ∧ er v = x := by
    have hl1 := map_len m1
    obtain ⟨li⟩ := vs
    cases li with
    | nil => simp at m1
    | cons v r => cases r with
      | nil => exact ⟨v, rfl, by simpa using m1⟩
      | cons w r => simp at m1
  obtain ⟨v, rfl, hv⟩ := hvs
  refine wpAny_binaryOp_repeat_ref (T := "list") (U := "int") (by decide) ⟨_, e1, rfl⟩ (fun s' => typeIs_int s' y t) noFill_list_mul F.fills_int_mul F.slot_int_rmul repeat_list F.slot_int_index.lookup ?_
  refine call_meets F.slot_int_rmul (typeIs_int s y t) F.entry_int_rmul (F.args_int_rmul_2 _ _) (int___rmul___int_list y t l #[v] k1) ⟨e1, rfl, ⟨_, e1, rfl⟩, ?_⟩
  refine call_meets F.slot_list_mul ⟨_, e1, rfl⟩ F.entry_list_mul (F.args_list_mul_2 _ _)
    (AutoListH.list___mul___list_int_3 l #[v] k1 y t (by simp [Builtin.List.listFitsIndex]; omega) (by simp; omega) (by simp [Builtin.List.listTooLong, sizeLine]; omega)) ⟨e1, ?_⟩
  refine ⟨_, _, s.toks, rfl, Step.push (c := .list (List.replicate y.toNat x)) R ⟨_, ⟨0, Heap.get?_push_size _ rfl⟩, ?_⟩, q _ R.size (R.fresh (get_size_none _))⟩
  have : (if (#[v] : Array Value).isEmpty = true then 0 else y.toNat) = y.toNat := by simp
  rw [this, joined_one]
  simp [hv]
end
end Mini

/-! MiniE -/
namespace Mini

theorem ints_items {is : List Int} : ∀ {l : List Value}, l.map er = is.map AV.int → ∃ xs : List (Int × Tok), l = xs.map (fun p => Value.int p.1 p.2) ∧ xs.map (·.1) = is := by
  induction is with
  | nil => intro l h; cases l with
    | nil => exact ⟨[], rfl, rfl⟩
    | cons v r => simp at h
  | cons i is ih => intro l h; cases l with
    | nil => simp at h
    | cons v r =>
      simp only [List.map_cons, List.cons.injEq] at h
      obtain ⟨t, rfl⟩ := er_int h.1
      obtain ⟨xs, rfl, e⟩ := ih h.2
      exact ⟨(i, t) :: xs, rfl, by simp [e]⟩
theorem ints_array {vs : Array Value} {is : List Int} (h : vs.toList.map er = is.map AV.int) : ∃ xs : Array (Int × Tok), vs = intItems xs ∧ xs.toList.map (·.1) = is := by
  obtain ⟨xs, h1, h2⟩ := ints_items h
  refine ⟨xs.toArray, ?_, h2⟩
  apply Array.toList_inj.mp
  rw [h1]; simp [intItems]

namespace F
abbrev Fn := List AV → AH → (AV → AH → Prop) → Prop
def len : Fn := fun avs h Q => ∃ l xs, avs = [.ref l] ∧ h l = some (.list xs) ∧ xs.length < 2 ^ 24 ∧ Q (.int xs.length) h
def abs : Fn := fun avs h Q => ∃ x : Int, avs = [.int x] ∧ Q (.int x.natAbs) h
def max2 : Fn := fun avs h Q => ∃ x y, avs = [.int x, .int y] ∧ Q (.int (max x y)) h
def min2 : Fn := fun avs h Q => ∃ x y, avs = [.int x, .int y] ∧ Q (.int (min x y)) h
def maxL : Fn := fun avs h Q => ∃ l is, avs = [.ref l] ∧ h l = some (.list (is.map AV.int)) ∧ is ≠ [] ∧ ∀ M, M ∈ is → (∀ a, a ∈ is → a ≤ M) → Q (.int M) h
def minL : Fn := fun avs h Q => ∃ l is, avs = [.ref l] ∧ h l = some (.list (is.map AV.int)) ∧ is ≠ [] ∧ ∀ M, M ∈ is → (∀ a, a ∈ is → M ≤ a) → Q (.int M) h
def sum : Fn := fun avs h Q => ∃ l, ∃ is : List Int, avs = [.ref l] ∧ h l = some (.list (is.map AV.int)) ∧ Q (.int is.sum) h
def listOf (B : Addr) : Fn := fun avs h Q => ∃ l xs, avs = [.ref l] ∧ h l = some (.list xs) ∧ xs.length ≤ 2 ^ 20 ∧ New B h (.list xs) Q
def append (B : Addr) : Fn := fun avs h Q => ∃ l xs v, avs = [.ref l, v] ∧ h l = some (.list xs) ∧ B ≤ l ∧ xs.length < 2 ^ 20 ∧ Q .none (upd h l (.list (xs ++ [v])))
def insert (B : Addr) : Fn := fun avs h Q => ∃ l xs x v, avs = [.ref l, .int x, v] ∧ h l = some (.list xs) ∧ B ≤ l ∧ xs.length < 2 ^ 20 ∧ 0 ≤ x ∧ x ≤ xs.length ∧ Q .none (upd h l (.list (xs.take x.toNat ++ v :: xs.drop x.toNat)))
end F

theorem map1 {vs : List Value} {a : AV} (h : vs.map er = [a]) : ∃ v, vs = [v] ∧ er v = a := by
  cases vs with
  | nil => simp at h
  | cons v r => cases r with
    | nil => exact ⟨v, rfl, by simpa using h⟩
    | cons w r => simp at h
theorem map2 {vs : List Value} {a b : AV} (h : vs.map er = [a, b]) : ∃ v w, vs = [v, w] ∧ er v = a ∧ er w = b := by
  cases vs with
  | nil => simp at h
  | cons v r =>
    simp only [List.map_cons, List.cons.injEq] at h
    obtain ⟨w, rfl, hw⟩ := map1 h.2
    exact ⟨v, w, rfl, h.1, hw⟩
theorem map3 {vs : List Value} {a b c : AV} (h : vs.map er = [a, b, c]) : ∃ v w x, vs = [v, w, x] ∧ er v = a ∧ er w = b ∧ er x = c := by
  cases vs with
  | nil => simp at h
  | cons v r =>
    simp only [List.map_cons, List.cons.injEq] at h
    obtain ⟨w, x, rfl, hw⟩ := map2 h.2
    exact ⟨v, w, x, rfl, h.1, hw⟩

section
variable {W : Wd} {n : Nat} (ok : WdOk W)
include ok

theorem fo_len : FOk W n (.builtin "len") F.len := by
  rintro A E s vs h Q cx R ⟨l, xs, e, hl, hsz, q⟩
  obtain ⟨v, rfl, hv⟩ := map1 e
  obtain rfl := er_ref hv
  obtain ⟨us, hp, hm⟩ := R.cells l _ hl
  have := map_len hm
  refine Calls.call_len_list hp.isList (by omega) ⟨h, s.heap, s.toks + 1 + 1, rfl, Step.refl R, ?_⟩
  show Q (.int us.size) h
  rw [this]; exact q

theorem fo_abs : FOk W n (.builtin "abs") F.abs := by
  rintro A E s vs h Q cx R ⟨x, e, q⟩
  obtain ⟨v, rfl, hv⟩ := map1 e
  obtain ⟨t, rfl⟩ := er_int hv
  refine call_abs_int fun u tk => ⟨h, s.heap, tk, rfl, Step.refl R, ?_⟩
  have : (if x < 0 then -x else x) = (x.natAbs : Int) := by split <;> omega
  show Q (.int (if x < 0 then -x else x)) h
  rw [this]; exact q

theorem fo_max2 : FOk W n (.builtin "max") F.max2 := by
  rintro A E s vs h Q cx R ⟨x, y, e, q⟩
  obtain ⟨v, w, rfl, hv, hw⟩ := map2 e
  obtain ⟨t, rfl⟩ := er_int hv
  obtain ⟨u, rfl⟩ := er_int hw
  refine max_two_ints cx.hd fun h' tk hk => ⟨h, h', tk, rfl, Step.keeps R hk, ?_⟩
  have : er (if y > x then Value.int y u else Value.int x t) = .int (max x y) := by
    by_cases c : y > x
    · rw [if_pos c]; show AV.int y = _; congr 1; omega
    · rw [if_neg c]; show AV.int x = _; congr 1; omega
  rw [this]; exact q
theorem fo_min2 : FOk W n (.builtin "min") F.min2 := by
  rintro A E s vs h Q cx R ⟨x, y, e, q⟩
  obtain ⟨v, w, rfl, hv, hw⟩ := map2 e
  obtain ⟨t, rfl⟩ := er_int hv
  obtain ⟨u, rfl⟩ := er_int hw
  refine min_two_ints cx.hd fun h' tk hk => ⟨h, h', tk, rfl, Step.keeps R hk, ?_⟩
  have : er (if y < x then Value.int y u else Value.int x t) = .int (min x y) := by
    by_cases c : y < x
    · rw [if_pos c]; show AV.int y = _; congr 1; omega
    · rw [if_neg c]; show AV.int x = _; congr 1; omega
  rw [this]; exact q

theorem fo_maxL : FOk W n (.builtin "max") F.maxL := by
  rintro A E s vs h Q cx R ⟨l, is, e, hl, hne, q⟩
  obtain ⟨v, rfl, hv⟩ := map1 e
  obtain rfl := er_ref hv
  obtain ⟨us, hp, hm⟩ := R.cells l _ hl
  obtain ⟨xs, rfl, hx⟩ := ints_array hm
  have hlen : xs.size = is.length := by rw [← hx]; simp
  have hpos : 0 < xs.size := by rw [hlen]; exact List.length_pos_iff.mpr hne
  refine max_intList cx.hd hp.isList hpos fun v h' tk hv hk => ⟨h, h', tk, rfl, Step.keeps R hk, ?_⟩
  obtain ⟨t, rfl⟩ := intItems_at hv
  obtain ⟨h1, h2⟩ := argBest_gt (numAt xs) (xs.size - 1)
  refine q _ ?_ fun a ha => ?_
  · rw [numAt_eq, hx]; exact getD_mem (by omega)
  · obtain ⟨j, hj, rfl⟩ := mem_getD ha
    rw [← hx, ← numAt_eq]; exact h2 j (by omega)
theorem fo_minL : FOk W n (.builtin "min") F.minL := by
  rintro A E s vs h Q cx R ⟨l, is, e, hl, hne, q⟩
  obtain ⟨v, rfl, hv⟩ := map1 e
  obtain rfl := er_ref hv
  obtain ⟨us, hp, hm⟩ := R.cells l _ hl
  obtain ⟨xs, rfl, hx⟩ := ints_array hm
  have hlen : xs.size = is.length := by rw [← hx]; simp
  have hpos : 0 < xs.size := by rw [hlen]; exact List.length_pos_iff.mpr hne
  refine min_intList cx.hd hp.isList hpos fun v h' tk hv hk => ⟨h, h', tk, rfl, Step.keeps R hk, ?_⟩
  obtain ⟨t, rfl⟩ := intItems_at hv
  obtain ⟨h1, h2⟩ := argBest_lt (numAt xs) (xs.size - 1)
  refine q _ ?_ fun a ha => ?_
  · rw [numAt_eq, hx]; exact getD_mem (by omega)
  · obtain ⟨j, hj, rfl⟩ := mem_getD ha
    rw [← hx, ← numAt_eq]; exact h2 j (by omega)

theorem fo_sum : FOk W n (.builtin "sum") F.sum := by
  rintro A E s vs h Q cx R ⟨l, is, e, hl, q⟩
  obtain ⟨v, rfl, hv⟩ := map1 e
  obtain rfl := er_ref hv
  obtain ⟨us, hp, hm⟩ := R.cells l _ hl
  obtain ⟨xs, rfl, hx⟩ := ints_array hm
  refine sum_intListG cx.hd hp.isList fun h' tk t' hk => ⟨h, h', tk, rfl, Step.keeps R hk, ?_⟩
  show Q (.int (preSum (numAt xs) xs.size)) h
  rw [preSum_eq, List.take_of_length_le (by simp), hx]; exact q

theorem fo_list : FOk W n (.type "list") (F.listOf W.B) := by
  rintro A E s vs h Q cx R ⟨l, xs, e, hl, hsz, q⟩
  obtain ⟨v, rfl, hv⟩ := map1 e
  obtain rfl := er_ref hv
  obtain ⟨us, ⟨k, ho⟩, hm⟩ := R.cells l _ hl
  refine call_list_seq (T := "list") l (.inl rfl) ho rfl rfl (fun h' c' hk hnew => ?_) (by rw [map_len hm, sizeLine_eq]; omega)
  refine ⟨_, h', s.toks, rfl, Step.alloc R (get_size_none _) R.size hk (c := .list xs) ⟨us, ⟨c', hnew⟩, hm⟩, q _ R.size (R.fresh (get_size_none _))⟩

theorem fo_append : FOk W n (.builtin "list.append") (F.append W.B) := by
  rintro A E s vs h Q cx R ⟨l, xs, a, e, hl, hB, hsz, q⟩
  obtain ⟨v, w, rfl, hv, hw⟩ := map2 e
  obtain rfl := er_ref hv
  obtain ⟨us, hp, hm⟩ := R.cells l _ hl
  refine wpAny_list_append_plain hp (fun h' hp' hs => ⟨_, h', s.toks, rfl, Step.set R hl hB (list_notTup hp) hs (c' := .list (xs ++ [a])) ⟨_, hp', ?_⟩, q⟩) (by rw [map_len hm, sizeLine_eq]; omega)
  simp [hm, hw]

theorem fo_insert : FOk W n (.builtin "list.insert") (F.insert W.B) := by
  rintro A E s vs h Q cx R ⟨l, xs, x, a, e, hl, hB, hsz, h0, h1, q⟩
  obtain ⟨v, w, u, rfl, hv, hw, hu⟩ := map3 e
  obtain rfl := er_ref hv
  obtain ⟨t, rfl⟩ := er_int hw
  obtain ⟨us, hp, hm⟩ := R.cells l _ hl
  obtain ⟨k, ho⟩ := id hp
  have hlen := map_len hm
  refine call_meets F.slot_list_insert ⟨_, ho, rfl⟩ F.entry_list_insert (F.args_list_insert_3 _ _ _)
    (AutoSeq1.list_insert_list_int_val_1 l us k x t u (by simp [Builtin.List.listFitsIndex]; omega) (by rw [hlen, sizeLine_eq]; omega)) ⟨ho, ?_⟩
  refine ⟨_, _, s.toks, rfl, Step.set R hl hB (list_notTup hp) (Heap.SameBut.update ..) (c' := .list (xs.take x.toNat ++ a :: xs.drop x.toNat)) ?_, q⟩
  have hx : ¬ x < 0 := by omega
  have hk : min x.toNat us.size = x.toNat := by omega
  refine ⟨(us.extract 0 x.toNat).push u ++ us.extract x.toNat, ?_, ?_⟩
  · have hz : ((us.extract 0 x.toNat).push u ++ us.extract x.toNat).size = us.size + 1 := by simp; omega
    refine ⟨k + 1, ?_⟩
    rw [Heap.get?_update_self _ ho (by simp only [Obj.mapSeq]; rfl)]
    simp only [Obj.mapSeq, if_neg hx, hk]
    rw [if_neg (by rw [hz]; simp)]
  · have e2 : ((us.extract 0 x.toNat).push u ++ us.extract x.toNat).toList = us.toList.take x.toNat ++ u :: us.toList.drop x.toNat := by
      simp
      exact List.take_of_length_le (by simp)
    rw [e2]
    simp [hm, hu, List.map_take, List.map_drop]
end
end Mini

/-! MiniF -/
namespace Mini

/-! methods -/
namespace T
def meth (f : ET) (t : EsT) (p : F.Fn) : ET := fun loc h Q => f loc h fun a h1 => (∃ l xs, a = .ref l ∧ h1 l = some (.list xs)) ∧ t loc h1 fun vs h2 => p (a :: vs) h2 Q
end T

section
variable {W : Wd} (ok : WdOk W) {n : Nat} {sc : Scope} {vm : VM}
include ok
theorem ev_meth {o : Expr} {name : Str} {id : String} {apos pos : Pos} {e : Expr} {es : List Expr} {f : ET} {t : EsT} {p : F.Fn} (slot : Slot "list" name id) (hty : typeOf (.builtin id) = pure (.type "method_descriptor"))
    (hbase : ∀ env, attributeBase o name env (eval o env) = eval o env)
    (hfew : ∀ env, ((backTo pos (starEach (e :: es) env)).all (fun x => !x.1) && (backToKw pos (keywordEach [] env)).all (fun x => x.1.isSome)
      && decide ((e :: es).length + ([] : List Keyword).length + (if ([] : List Keyword).isEmpty then 0 else 1) < 30)) = true)
    (hline : (apos.endLine == pos.line) = true) (ho : EvOk W n sc vm o f) (hes : EsOk W n sc vm (e :: es) t) (hp : FOk W n (.builtin id) p)
    (hs : ∀ env, starEach (e :: es) env = (false, eval e env) :: starEach es env) (hpl : ∀ env pos, (backTo pos (starEach es env)).any (·.1) = false) :
    EvOk W n sc vm (.Call (.Attribute o name apos) (e :: es) [] pos) (T.meth f t p) := by
  intro env A E s loc h Q st q
  refine wpAny_Call_method (T := "list") (id := id) (hbase env) (hfew env) hline F.plainAttrs_list slot hty (ho.use ok st q fun a h1 hp1 tk1 q1 st1 S1 => ?_)
  obtain ⟨⟨l, xs, ha, hl⟩, q1⟩ := q1
  obtain rfl := er_ref ha
  obtain ⟨vs, ⟨k, ho1⟩, hm⟩ := st1.rel.cells l _ hl
  refine ⟨⟨_, ho1, rfl⟩, fun a e => by cases e; exact ⟨_, ho1, rfl⟩, ?_⟩
  have hany : (backTo pos (starEach (e :: es) env)).any (·.1) = false := by
    rw [hs]
    show (false || (backTo pos (starEach es env)).any (·.1)) = false
    rw [hpl]; rfl
  refine Calls.callWith_builtin hany ?_
  have key : wpAny (model W.prog W.w) A (spliced (backTo pos (starEach (e :: es) env))) (fun vs s₁ => wpAny (model W.prog W.w) A (call (.builtin id) (.ref l :: vs)) (Res W h s Q) E s₁) E { s with heap := hp1, toks := tk1 } := by
    refine wpAny_mono (hes env A E _ loc h1 _ pos st1 q1) ?_ fun _ _ x => x
    rintro vs s' ⟨h2, hp2, tk2, rfl, S2, q2⟩
    exact wpAny_mono (hp A E _ (.ref l :: vs) h2 Q st.cx (S2.rel ok st1.rel) q2) (fun v s' r => Res.bind (tk := tk1) S1 (Res.bind (tk := tk2) S2 r)) fun _ _ x => x
  rw [hs] at key ⊢
  exact Calls.evalArgs_plain key
end

/-! iterators -/
inductive Src where
  | list (a : Addr)
  | tup (a : Addr)
  | range (lo step : Int) (n : Nat)

def rangeL (lo step : Int) (n : Nat) : List Int := (List.range n).map fun (i : Nat) => lo + (i : Int) * step
def Src.items : Src → AH → Option (List AV)
  | .list a, h => match h a with | some (.list xs) => some xs | _ => none
  | .tup a, h => match h a with | some (.tup xs) => some xs | _ => none
  | .range lo step n, _ => some ((rangeL lo step n).map AV.int)

def ItAt : Src → Heap → Addr → Nat → Prop
  | .list a, hp, it, i => hp.IsListIter it a i
  | .tup a, hp, it, i => hp.IsTupleIter it a i
  | .range lo step n, hp, it, i => i ≤ n ∧ IsRangeIter hp it (lo + (i : Int) * step) ((n : Int) - i) step

theorem ItAt.mono {src : Src} {hp hp' : Heap} {it : Addr} {i : Nat} (x : ItAt src hp it i) (k : ∀ o, hp.get? it = some o → hp'.get? it = some o) : ItAt src hp' it i := by
  cases src with
  | list a => obtain ⟨o, ho, r⟩ := x; exact ⟨o, k o ho, r⟩
  | tup a => obtain ⟨o, ho, r⟩ := x; exact ⟨o, k o ho, r⟩
  | range lo st n => exact ⟨x.1, k _ x.2⟩
theorem ItAt.obj {src : Src} {hp : Heap} {it : Addr} {i : Nat} (x : ItAt src hp it i) : ∃ o, hp.get? it = some o ∧ ¬ IsTupO o := by
  cases src with
  | list a => obtain ⟨o, ho, r, _⟩ := x; exact ⟨o, ho, fun q => by rw [q.1] at r; exact absurd r (by decide)⟩
  | tup a => obtain ⟨o, ho, r, _⟩ := x; exact ⟨o, ho, fun q => by rw [q.1] at r; exact absurd r (by decide)⟩
  | range lo st n => exact ⟨_, x.2, fun q => absurd (Value.type.inj q.1) (by decide)⟩

section
variable {W : Wd} {n : Nat}

theorem next_ok {A : Around} {E : Value → Shared → Prop} {s : Shared} {h : AH} {src : Src} {it : Addr} {i : Nat} {xs : List AV} {P : Option Value → Shared → Prop} (cx : Cx n A) (R : ∀ a c, h a = some c → CellAt W s.heap a c)
    (hi : ItAt src s.heap it i) (hx : src.items h = some xs)
    (kn : xs[i]? = none → ∀ hp, Heap.ExtBut it s.heap hp → P none { s with heap := hp })
    (ks : ∀ av, xs[i]? = some av → ∀ v hp tk, er v = av → ItAt src hp it (i + 1) → Heap.ExtBut it s.heap hp → P (some v) { s with heap := hp, toks := tk }) :
    wpAny (model W.prog W.w) A (pyNext (.ref it)) P E s := by
  cases src with
  | list a =>
    have ⟨ys, hy⟩ : ∃ ys, h a = some (.list ys) := by
      simp only [Src.items] at hx; split at hx
      · exact ⟨_, by assumption⟩
      · cases hx
    have : ys = xs := by simp only [Src.items, hy] at hx; exact Option.some.inj hx
    subst this
    obtain ⟨vs, hp, hm⟩ := R a _ hy
    cases hq : ys[i]? with
    | none =>
      refine wpAny_pyNext_list_end cx.hd hi hp.isList ?_ fun h' e => kn hq h' e
      rw [Array.getElem?_eq_none_iff, map_len hm]; exact List.getElem?_eq_none_iff.mp hq
    | some av =>
      obtain ⟨v, hv, he⟩ := map_get? hm hq
      exact wpAny_pyNext_list_item hi hp.isList hv fun h' hi' hs => ks av hq v h' s.toks he hi' hs.extBut
  | tup a =>
    have ⟨ys, hy⟩ : ∃ ys, h a = some (.tup ys) := by
      simp only [Src.items] at hx; split at hx
      · exact ⟨_, by assumption⟩
      · cases hx
    have : ys = xs := by simp only [Src.items, hy] at hx; exact Option.some.inj hx
    subst this
    obtain ⟨vs, hp, hm⟩ := R a _ hy
    cases hq : ys[i]? with
    | none =>
      refine wpAny_pyNext_tuple_end cx.hd hi hp.isTuple ?_ fun h' e => kn hq h' e
      rw [Array.getElem?_eq_none_iff, map_len hm]; exact List.getElem?_eq_none_iff.mp hq
    | some av =>
      obtain ⟨v, hv, he⟩ := map_get? hm hq
      exact wpAny_pyNext_tuple_item hi hp.isTuple hv fun h' hi' hs => ks av hq v h' s.toks he hi' hs.extBut
  | range lo step k =>
    obtain rfl : (rangeL lo step k).map AV.int = xs := Option.some.inj hx
    obtain ⟨hik, hit⟩ := hi
    have hlen : ((rangeL lo step k).map AV.int).length = k := by simp [rangeL]
    by_cases hlt : i < k
    · refine wpAny_pyNext_range_item hit (by omega) fun h' hi' hs => ks (.int (lo + (i : Int) * step)) ?_ _ h' _ rfl ⟨by omega, ?_⟩ hs.extBut
      · simp [rangeL, hlt]
      · have e1 : lo + ((i + 1 : Nat) : Int) * step = lo + (i : Int) * step + step := by rw [Int.natCast_add, Int.add_mul]; simp; omega
        have e2 : (k : Int) - ((i + 1 : Nat) : Int) = (k : Int) - i - 1 := by omega
        rw [e1, e2]; exact hi'
    · refine wpAny_pyNext_range_end cx.hd hit (by omega) fun h' e => kn ?_ h' e
      rw [List.getElem?_eq_none_iff, hlen]; omega
end

/-! what changes an object that is no cell -/
theorem Frm.ext {W : Wd} {env : Env} {vm : VM} {loc : Loc} {h : AH} {hp hp' : Heap} {it : Addr} (F : Frm W env vm loc h hp) (e : Heap.ExtBut it hp hp') (hn : ¬ Own env it) : Frm W env vm loc h hp' := by
  have h1 : env.locals ≠ it := fun q => hn (.inl q.symm)
  have h2 : ∀ x c, env.cells.lookup x = some c → c ≠ it := fun x c q r => hn (.inr ⟨x, r ▸ q⟩)
  obtain ⟨m, hm, hm2⟩ := F.ns
  refine ⟨F.hk, F.hg, F.hb, F.LB, F.nL, ⟨m, hm.extBut e h1, hm2⟩, fun x c q => ?_, fun i x av q1 q2 q3 => ?_, F.ap, F.hc⟩
  · obtain ⟨a1, a2, a3, v, o, ho, hv⟩ := F.cl x c q; exact ⟨a1, a2, a3, v, o, e c o (h2 x c q) ho, hv⟩
  · obtain ⟨c, v, q4, ⟨o, ho, hv⟩, q5⟩ := F.cv i x av q1 q2 q3
    exact ⟨c, v, q4, ⟨o, e c o (h2 x c q4) ho, hv⟩, q5⟩

theorem cells_ext {W : Wd} {h : AH} {hp hp' : Heap} {it : Addr} (R : ∀ a c, h a = some c → CellAt W hp a c) (e : Heap.ExtBut it hp hp') (hn : h it = none) (ht : ∀ o, hp.get? it = some o → ¬ IsTupO o) :
    ∀ a c, h a = some c → CellAt W hp' a c := fun a c q =>
  (R a c q).mono (fun o => e a o (fun r => by rw [r, hn] at q; cases q)) (fun b o h1 h2 => e b o (fun r => ht o (r ▸ h1) h2) h1)

theorem SStep.ext {W : Wd} {env : Env} {h0 h : AH} {hp0 hp hp' : Heap} {it : Addr} (S : SStep W env h0 hp0 h hp) (e : Heap.ExtBut it hp hp') (hn : h it = none) (h0n : hp0.get? it = none)
    (ht : ∀ o, hp.get? it = some o → ¬ IsTupO o) : SStep W env h0 hp0 h hp' :=
  ⟨cells_ext S.cells e hn ht, fun b o q1 q2 q3 => e b o (fun r => by rw [r, h0n] at q1; cases q1) (S.keep b o q1 q2 q3), S.fresh, S.dom⟩
theorem Step.ext {W : Wd} {h0 h : AH} {hp0 hp hp' : Heap} {it : Addr} (S : Step W h0 hp0 h hp) (e : Heap.ExtBut it hp hp') (hn : h it = none) (h0n : hp0.get? it = none)
    (ht : ∀ o, hp.get? it = some o → ¬ IsTupO o) : Step W h0 hp0 h hp' :=
  ⟨cells_ext S.cells e hn ht, fun b o q1 q3 => e b o (fun r => by rw [r, h0n] at q1; cases q1) (S.keep b o q1 q3), S.fresh, S.dom⟩

/-! what a for runs over -/
abbrev ItT := Loc → AH → (Src → AH → Prop) → Prop
def ItRes (W : Wd) (h : AH) (s : Shared) (Q : Src → AH → Prop) : Value → Shared → Prop :=
  fun v s' => ∃ src I h' hp tk, v = .ref I ∧ s' = { s with heap := hp, toks := tk } ∧ Step W h s.heap h' hp ∧ s.heap.get? I = none ∧ h' I = none ∧ W.B ≤ I ∧ ItAt src hp I 0 ∧ Q src h'
def ItOk (W : Wd) (n : Nat) (sc : Scope) (vm : VM) (e : Expr) (t : ItT) : Prop :=
  ∀ env A E s loc h Q, St W n sc vm env A loc h s → t loc h Q → wpAny (model W.prog W.w) A (eval e env) (fun x s1 => wpAny (model W.prog W.w) A (pyIter x) (ItRes W h s Q) E s1) E s

namespace T
def itL (f : ET) : ItT := fun loc h Q => f loc h fun v h1 => ∃ a xs, v = .ref a ∧ h1 a = some (.list xs) ∧ Q (.list a) h1
def itT (f : ET) : ItT := fun loc h Q => f loc h fun v h1 => ∃ a xs, v = .ref a ∧ h1 a = some (.tup xs) ∧ Q (.tup a) h1
def small (x : Int) : Prop := -(2 ^ 40) ≤ x ∧ x ≤ 2 ^ 40
def itR1 (f : EsT) : ItT := fun loc h Q => f loc h fun vs h1 => ∃ b, vs = [.int b] ∧ small b ∧ Q (.range 0 1 b.toNat) h1
def itR2 (f : EsT) : ItT := fun loc h Q => f loc h fun vs h1 => ∃ a b, vs = [.int a, .int b] ∧ small a ∧ small b ∧ Q (.range a 1 (b - a).toNat) h1
-- downwards by one
def itRd (f : EsT) : ItT := fun loc h Q => f loc h fun vs h1 => ∃ a b, vs = [.int a, .int b, .int (-1)] ∧ small a ∧ small b ∧ Q (.range a (-1) (a - b).toNat) h1
end T

theorem small_fits {x : Int} (h : T.small x) : Builtin.Range.rangeFitsLong x = true := by
  obtain ⟨h1, h2⟩ := h
  unfold Builtin.Range.rangeFitsLong
  simp only [Bool.and_eq_true, decide_eq_true_eq]
  omega

section
variable {W : Wd} (ok : WdOk W) {n : Nat} {sc : Scope} {vm : VM}
include ok

theorem it_list {e : Expr} {f : ET} (he : EvOk W n sc vm e f) : ItOk W n sc vm e (T.itL f) := by
  intro env A E s loc h Q st q
  refine he.use ok st q fun v h1 hp1 tk1 q1 st1 S1 => ?_
  obtain ⟨a, xs, hv, ha, q2⟩ := q1
  obtain rfl := er_ref hv
  obtain ⟨vs, hp, hm⟩ := st1.rel.cells a _ ha
  refine wpAny_pyIter_list hp.isList ?_
  exact ⟨.list a, hp1.objs.size, h1, _, tk1, rfl, rfl, S1.trans (Step.keeps st1.rel fun _ _ e => Heap.get?_push_of_some _ e), S1.free (get_size_none _) (st1.rel.fresh (get_size_none _)), st1.rel.fresh (get_size_none _), st1.rel.size,
    ⟨_, Heap.get?_push_size _ rfl, rfl, rfl⟩, q2⟩

theorem it_tup {e : Expr} {f : ET} (he : EvOk W n sc vm e f) : ItOk W n sc vm e (T.itT f) := by
  intro env A E s loc h Q st q
  refine he.use ok st q fun v h1 hp1 tk1 q1 st1 S1 => ?_
  obtain ⟨a, xs, hv, ha, q2⟩ := q1
  obtain rfl := er_ref hv
  obtain ⟨vs, hp, hm⟩ := st1.rel.cells a _ ha
  refine wpAny_pyIter_tuple hp.isTuple ?_
  exact ⟨.tup a, hp1.objs.size, h1, _, tk1, rfl, rfl, S1.trans (Step.keeps st1.rel fun _ _ e => Heap.get?_push_of_some _ e), S1.free (get_size_none _) (st1.rel.fresh (get_size_none _)), st1.rel.fresh (get_size_none _), st1.rel.size,
    ⟨_, Heap.get?_push_size _ rfl, rfl, rfl⟩, q2⟩

omit ok in
theorem range_it {A : Around} {E : Value → Shared → Prop} {s : Shared} {h h1 : AH} {hp : Heap} {tk : Nat} {Q : Src → AH → Prop} {r : Addr} {a b c : Int} {t u v : Tok} {k : Nat} (R : Rel W h1 hp) (S : Step W h s.heap h1 hp)
    (hr : IsRange hp r a b c t u v) (hs : Builtin.Range.small a b c = true) (hk : Builtin.Range.rangeSize a b c = (k : Int)) (q : Q (.range a c k) h1) :
    wpAny (model W.prog W.w) A (pyIter (.ref r)) (ItRes W h s Q) E { s with heap := hp, toks := tk } := by
  refine wpAny_pyIter_range hr hs ?_
  exact ⟨.range a c k, hp.objs.size, h1, _, tk, rfl, rfl, S.trans (Step.keeps R fun _ _ e => Heap.get?_push_of_some _ e), S.free (get_size_none _) (R.fresh (get_size_none _)), R.fresh (get_size_none _), R.size,
    ⟨Nat.zero_le _, by show Heap.get? (hp.push _) hp.objs.size = _; rw [Heap.get?_push_size _ rfl, hk]; simp⟩, q⟩

theorem it_range1 {x : Str} {np pos : Pos} {e : Expr} {f : EsT} (g : GlobAt W x (.type "range")) (hx : sc.names.lookup x = some .globalImplicit) (hd : (x == ("__debug__" : Str)) = false) (hes : EsOk W n sc vm [e] f)
    (hs : ∀ env, starEach [e] env = (false, eval e env) :: starEach [] env) : ItOk W n sc vm (.Call (.Name x np) [e] [] pos) (T.itR1 f) := by
  intro env A E s loc h Q st q
  refine wpAny_Call_NameR (glob_name g st hx hd ?_)
  refine PyProof.Rows.callWith_type (by rw [hs]; rfl) ?_
  have key := hes env A E s loc h _ pos st q
  rw [hs] at key ⊢
  refine Calls.evalArgs_plain (wpAny_mono key ?_ fun _ _ x => x)
  rintro vs s' ⟨h1, hp1, tk1, rfl, S1, b, e, hb, q1⟩
  obtain ⟨v, rfl, hv⟩ := map1 e
  obtain ⟨t, rfl⟩ := er_int hv
  have st1 : St W n sc vm env A loc h1 { s with heap := hp1, toks := tk1 } := st.step ok S1
  refine call_range_1 ?_
  have Sp : Step W h1 hp1 h1 (hp1.push { cls := .type "range", data := .fields #[.int 0 tk1, .int b t, .int 1 (tk1 + 1)] }) := Step.keeps st1.rel fun _ _ e => Heap.get?_push_of_some _ e
  refine range_it (Sp.rel ok st1.rel) (S1.trans Sp) (a := 0) (b := b) (c := 1) (Heap.get?_push_size _ rfl) ?_ ?_ q1
  · obtain ⟨h1, h2⟩ := hb
    unfold Builtin.Range.small Builtin.Range.rangeSize Builtin.Range.rangeFitsLong
    simp; split <;> (try simp) <;> omega
  · unfold Builtin.Range.rangeSize; simp; split <;> omega

theorem it_range2 {x : Str} {np pos : Pos} {e e2 : Expr} {f : EsT} (g : GlobAt W x (.type "range")) (hx : sc.names.lookup x = some .globalImplicit) (hd : (x == ("__debug__" : Str)) = false) (hes : EsOk W n sc vm [e, e2] f)
    (hs : ∀ env, starEach [e, e2] env = (false, eval e env) :: starEach [e2] env) (hs2 : ∀ env, starEach [e2] env = [(false, eval e2 env)]) : ItOk W n sc vm (.Call (.Name x np) [e, e2] [] pos) (T.itR2 f) := by
  intro env A E s loc h Q st q
  refine wpAny_Call_NameR (glob_name g st hx hd ?_)
  refine PyProof.Rows.callWith_type (by rw [hs, hs2]; rfl) ?_
  have key := hes env A E s loc h _ pos st q
  rw [hs] at key ⊢
  refine Calls.evalArgs_plain (wpAny_mono key ?_ fun _ _ x => x)
  rintro vs s' ⟨h1, hp1, tk1, rfl, S1, a, b, e, ha, hb, q1⟩
  obtain ⟨v, w, rfl, hv, hw⟩ := map2 e
  obtain ⟨t, rfl⟩ := er_int hv
  obtain ⟨u, rfl⟩ := er_int hw
  have st1 : St W n sc vm env A loc h1 { s with heap := hp1, toks := tk1 } := st.step ok S1
  refine call_range_2 ?_
  have Sp : Step W h1 hp1 h1 (hp1.push { cls := .type "range", data := .fields #[.int a t, .int b u, .int 1 tk1] }) := Step.keeps st1.rel fun _ _ e => Heap.get?_push_of_some _ e
  refine range_it (Sp.rel ok st1.rel) (S1.trans Sp) (a := a) (b := b) (c := 1) (Heap.get?_push_size _ rfl) ?_ ?_ q1
  · obtain ⟨h1, h2⟩ := hb
    obtain ⟨h3, h4⟩ := ha
    unfold Builtin.Range.small Builtin.Range.rangeSize Builtin.Range.rangeFitsLong
    simp; split <;> (try simp) <;> omega
  · unfold Builtin.Range.rangeSize; simp; split <;> omega

theorem it_rangeD {x : Str} {np pos : Pos} {e e2 e3 : Expr} {f : EsT} (g : GlobAt W x (.type "range")) (hx : sc.names.lookup x = some .globalImplicit) (hd : (x == ("__debug__" : Str)) = false) (hes : EsOk W n sc vm [e, e2, e3] f)
    (hs : ∀ env, starEach [e, e2, e3] env = (false, eval e env) :: starEach [e2, e3] env) (hs2 : ∀ env, starEach [e2, e3] env = [(false, eval e2 env), (false, eval e3 env)]) : ItOk W n sc vm (.Call (.Name x np) [e, e2, e3] [] pos) (T.itRd f) := by
  intro env A E s loc h Q st q
  refine wpAny_Call_NameR (glob_name g st hx hd ?_)
  refine PyProof.Rows.callWith_type (by rw [hs, hs2]; rfl) ?_
  have key := hes env A E s loc h _ pos st q
  rw [hs] at key ⊢
  refine Calls.evalArgs_plain (wpAny_mono key ?_ fun _ _ x => x)
  rintro vs s' ⟨h1, hp1, tk1, rfl, S1, a, b, e, ha, hb, q1⟩
  obtain ⟨v, w, z, rfl, hv, hw, hz⟩ := map3 e
  obtain ⟨t, rfl⟩ := er_int hv
  obtain ⟨u, rfl⟩ := er_int hw
  obtain ⟨y, rfl⟩ := er_int hz
  have st1 : St W n sc vm env A loc h1 { s with heap := hp1, toks := tk1 } := st.step ok S1
  refine call_range_3 (by decide) ?_ (.inl (PyProof.noPylong_small (by decide)))
  have Sp : Step W h1 hp1 h1 (hp1.push { cls := .type "range", data := .fields #[.int a t, .int b u, .int (-1) y] }) := Step.keeps st1.rel fun _ _ e => Heap.get?_push_of_some _ e
  refine range_it (Sp.rel ok st1.rel) (S1.trans Sp) (a := a) (b := b) (c := -1) (Heap.get?_push_size _ rfl) ?_ ?_ q1
  · obtain ⟨h1, h2⟩ := hb
    obtain ⟨h3, h4⟩ := ha
    unfold Builtin.Range.small Builtin.Range.rangeSize Builtin.Range.rangeFitsLong
    simp; split <;> (try simp) <;> omega
  · unfold Builtin.Range.rangeSize; simp; split <;> omega
end
end Mini

/-! MiniG -/
namespace Mini

abbrev AsT := AV → Loc → AH → (Loc → AH → Prop) → Prop
def AsRes (W : Wd) (env : Env) (vm : VM) (h : AH) (s : Shared) (Q : Loc → AH → Prop) : Unit → Shared → Prop :=
  fun _ s' => ∃ loc' h' hp tk, s' = { s with heap := hp, toks := tk } ∧ SStep W env h s.heap h' hp ∧ Frm W env vm loc' h' hp ∧ Q loc' h'
def AsOk (W : Wd) (n : Nat) (sc : Scope) (vm : VM) (e : Expr) (t : AsT) : Prop :=
  ∀ env A E s loc h v Q, St W n sc vm env A loc h s → t (er v) loc h Q → wpAny (model W.prog W.w) A (assign e env v) (AsRes W env vm h s Q) E s
def LgOk (W : Wd) (e : Expr) : Prop :=
  ∀ A E (s : Shared) src it i v (P : Unit → Shared → Prop), ItAt src s.heap it i → P () s → wpAny (model W.prog W.w) A (letOwnedTupleGo e (.ref it) v) P E s

namespace T
def asN (i : Nat) : AsT := fun v loc h Q => Q (upd loc i v) h
def asL : List Nat → List AV → Loc → AH → (Loc → AH → Prop) → Prop
  | [], [], loc, h, Q => Q loc h
  | i :: is, a :: as, loc, h, Q => asL is as (upd loc i a) h Q
  | _, _, _, _, _ => False
def asT (is : List Nat) : AsT := fun v loc h Q => ∃ a xs, v = .ref a ∧ (h a = some (.list xs) ∨ h a = some (.tup xs)) ∧ xs.length = is.length ∧ asL is xs loc h Q
def for_ (it : ItT) (asg : AsT) (b : ST) : ST := fun loc h Q => it loc h fun src h1 => ∃ (I : Nat → Loc → AH → Prop) (N : Nat), I 0 loc h1 ∧ ∀ i loc h, I i loc h → ∃ xs, src.items h = some xs ∧ xs.length ≤ N ∧
  match xs[i]? with
  | Option.none => Q .next loc h
  | some v => asg v loc h fun loc1 h1 => b loc1 h1 fun f loc2 h2 => match f with
      | .next | .cont => I (i + 1) loc2 h2
      | .brk => Q .next loc2 h2
      | .ret v => Q (.ret v) loc2 h2
def asgT (is : List Nat) (e : ET) : ST := fun loc h Q => e loc h fun v h1 => asT is v loc h1 fun loc2 h2 => Q .next loc2 h2
end T

theorem lg_name {W : Wd} {x : Str} {p : Pos} : LgOk W (.Name x p) := fun _ _ _ _ _ _ _ _ _ q => wpAny_pure q
theorem lg_tuple {W : Wd} {es : List Expr} {k : Nat} {p : Pos} : LgOk W (.Tuple es k p) := by
  intro A E s src it i v P hi q
  have key : ∃ o c fs, s.heap.get? it = some o ∧ o.cls = .type c ∧ o.data = .fields fs ∧ (["enumerate", "zip", "dict_itemiterator", "dict_reverseitemiterator", "odict_iterator", "itertools.zip_longest", "itertools.pairwise"].contains c) = false := by
    cases src with
    | list a => obtain ⟨o, ho, hc, hd⟩ := hi; exact ⟨o, _, _, ho, hc, hd, by decide⟩
    | tup a => obtain ⟨o, ho, hc, hd⟩ := hi; exact ⟨o, _, _, ho, hc, hd, by decide⟩
    | range lo st n => exact ⟨_, _, _, hi.2, rfl, rfl, by decide⟩
  obtain ⟨o, c, fs, ho, hc, hd, hn⟩ := key
  cases v with
  | ref a =>
    unfold letOwnedTupleGo
    refine wpAny_bind (wpAny_load ho ?_)
    rw [hc, hd]
    show wpAny _ A (if (["enumerate", "zip", "dict_itemiterator", "dict_reverseitemiterator", "odict_iterator", "itertools.zip_longest", "itertools.pairwise"].contains c && fs[0]? == some (rawInt a)) = true then _ else _) P E s
    rw [if_neg (by rw [hn, Bool.false_and]; exact Bool.false_ne_true)]
    exact wpAny_pure q
  | _ => exact wpAny_pure q

section
variable {W : Wd} (ok : WdOk W) {n : Nat} {sc : Scope} {vm : VM}
include ok

theorem as_name (hj : VInj vm) {i : Nat} {x : Str} {p : Pos} (hv : vm i = some x) (hl : sc.names.lookup x = some .local ∨ sc.names.lookup x = some .cell) : AsOk W n sc vm (.Name x p) (T.asN i) := by
  intro env A E s loc h v Q st q
  refine wpAny_assign_Name (store_ok hj st.fr st.rel hv (by unfold Env.kindOf; rw [st.sc]; exact hl) fun hp tk S F => ?_)
  exact ⟨_, h, hp, tk, rfl, S, F, q⟩

omit ok in
theorem draw_ok {A : Around} {E : Value → Shared → Prop} {h : AH} {src : Src} {it : Addr} {xs : List AV} (cx : Cx n A) (hx : src.items h = some xs) (hn : h it = none) : ∀ (k i : Nat) (s : Shared) (P : List Value → Shared → Prop), (∀ a c, h a = some c → CellAt W s.heap a c) →
    ItAt src s.heap it i → i + k ≤ xs.length →
    (∀ vs hp tk, vs.map er = (xs.drop i).take k → ItAt src hp it (i + k) → Heap.ExtBut it s.heap hp → P vs { s with heap := hp, toks := tk }) → wpAny (model W.prog W.w) A (draw (.ref it) k) P E s
  | 0, i, s, P, R, hi, hle, k => wpAny_pure (k [] s.heap s.toks (by simp) (by simpa using hi) (fun _ _ _ e => e))
  | k + 1, i, s, P, R, hi, hle, kk => by
    show wpAny _ _ (pyNext (.ref it) >>= _) P E s
    refine wpAny_bind (next_ok cx R hi hx (fun q => ?_) fun av q v hp tk hv hi' he => ?_)
    · rw [List.getElem?_eq_none_iff] at q; omega
    · obtain ⟨o, ho, hnt⟩ := hi.obj
      have R' := cells_ext R he hn (fun o' ho' => by rw [ho] at ho'; cases ho'; exact hnt)
      refine wpAny_bind (wpAny_holding (draw_ok cx hx hn k (i + 1) { s with heap := hp, toks := tk } _ R' hi' (by omega) fun vs hp2 tk2 hvs hi2 he2 => wpAny_pure (kk (v :: vs) hp2 tk2 ?_ ?_ (he.trans he2))))
      · have hlt : i < xs.length := by omega
        rw [List.map_cons, hvs, hv, List.drop_eq_getElem_cons hlt, List.take_succ_cons]
        rw [List.getElem?_eq_getElem hlt] at q
        rw [Option.some.inj q]
      · rw [show i + (k + 1) = i + 1 + k from by omega]; exact hi2

omit ok in
theorem unpack_core {A : Around} {E : Value → Shared → Prop} {s : Shared} {h : AH} {v : Value} {src : Src} {xs : List AV} {T id : String} {o0 : Obj} {P : List Value → Shared → Prop} (cx : Cx n A) (R : Rel W h s.heap)
    (hT : s.TypeIs v T) (hl : typeLookup (.type T) "__iter__" = pure (some (.builtin id)))
    (hit : ∀ P' : Value → Shared → Prop, (∀ o, ItAt src (s.heap.push o) s.heap.objs.size 0 → P' (.ref s.heap.objs.size) { s with heap := s.heap.push o }) → wpAny (model W.prog W.w) A (pyIter v) P' E s)
    (hx : src.items h = some xs) (k : ∀ vs hp tk, vs.map er = xs → (∀ b o, s.heap.get? b = some o → hp.get? b = some o) → P vs { s with heap := hp, toks := tk }) :
    wpAny (model W.prog W.w) A (unpackItems v xs.length none) P E s := by
  unfold unpackItems
  refine wpAny_bind ?_
  · unfold notIterableAtAll
    refine wpAny_bind (wpAny_specialOf hT hl ?_)
    refine wpAny_pure ?_
    simp only [Bool.false_eq_true, if_false]
    refine wpAny_bind (wpAny_holding (hit _ fun o hi => ?_))
    have hn : h s.heap.objs.size = none := R.fresh (get_size_none _)
    have Sp : Step W h s.heap h (s.heap.push o) := Step.keeps R fun _ _ e => Heap.get?_push_of_some _ e
    refine wpAny_bind (wpAny_holding (draw_ok cx hx hn xs.length 0 _ _ Sp.cells hi (by omega) fun vs hp tk hvs hi1 he => ?_))
    rw [List.drop_zero, List.take_length] at hvs
    have hlen : vs.length = xs.length := by rw [← hvs, List.length_map]
    rw [if_neg (by omega)]
    obtain ⟨o', ho', hnt⟩ := hi.obj
    have R' := cells_ext Sp.cells he hn (fun o'' ho'' => by rw [ho'] at ho''; cases ho''; exact hnt)
    refine wpAny_bind (wpAny_holding (next_ok cx R' hi1 hx (fun q hp2 he2 => ?_) fun av q => ?_))
    · simp only [Option.isSome_none, Bool.false_eq_true, if_false]
      refine wpAny_pure (k vs hp2 tk hvs fun b o e => ?_)
      have hb : b ≠ s.heap.objs.size := Nat.ne_of_lt (Heap.lt_size e)
      exact he2 b o hb (he b o hb (Heap.get?_push_of_some _ e))
    · rw [Nat.zero_add, List.getElem?_eq_none (Nat.le_refl _)] at q; cases q

theorem as_tuple (hj : VInj vm) {es : List Expr} {is : List Nat} {kk : Nat} {p : Pos} (hlen : ∀ env, (assignEach es env).length = is.length) (hstar : ∀ env, (assignEach es env).findIdx? (·.1) = none)
    (hes : ∀ env A E s loc h vs Q, St W n sc vm env A loc h s → T.asL is (vs.map er) loc h Q → wpAny (model W.prog W.w) A (assignInOrder ((assignEach es env).map (·.2)) vs) (AsRes W env vm h s Q) E s) :
    AsOk W n sc vm (.Tuple es kk p) (T.asT is) := by
  rintro env A E s loc h v Q st ⟨a, xs, hv, hc, hxl, q⟩
  obtain rfl := er_ref hv
  rw [arm_assign_Tuple]
  refine wpAny_bind (wpAny_standAt ?_)
  unfold unpack
  rw [hlen, hstar, ← hxl]
  have fin : ∀ vs hp tk, vs.map er = xs → (∀ b o, s.heap.get? b = some o → hp.get? b = some o) →
      wpAny (model W.prog W.w) A (assignInOrder ((assignEach es env).map (·.2)) vs) (AsRes W env vm h s Q) E { s with heap := hp, toks := tk } := by
    intro vs hp tk hvs hk
    have S : Step W h s.heap h hp := Step.keeps st.rel hk
    have st1 : St W n sc vm env A loc h { s with heap := hp, toks := tk } := st.step ok S
    refine wpAny_mono (hes env A E _ loc h vs Q st1 (by rw [hvs]; exact q)) ?_ fun _ _ x => x
    rintro _ s' ⟨loc2, h2, hp2, tk2, rfl, S2, F2, q2⟩
    exact ⟨loc2, h2, hp2, tk2, rfl, S.s.trans S2 st1.fr.how, F2, q2⟩
  rcases hc with hc | hc
  · obtain ⟨us, hp, hm⟩ := st.rel.cells a _ hc
    refine wpAny_bind (wpAny_holding (unpack_core (src := .list a) (o0 := default) st.cx st.rel hp.isList.typeIs slot_list_iter.lookup (fun P' k => wpAny_pyIter_list hp.isList (k _ ⟨_, Heap.get?_push_size _ rfl, rfl, rfl⟩)) ?_ fin))
    simp only [Src.items, hc]
  · obtain ⟨us, hp, hm⟩ := st.rel.cells a _ hc
    refine wpAny_bind (wpAny_holding (unpack_core (src := .tup a) (o0 := default) st.cx st.rel hp.isTuple.typeIs F.slot_tuple_iter.lookup (fun P' k => wpAny_pyIter_tuple hp.isTuple (k _ ⟨_, Heap.get?_push_size _ rfl, rfl, rfl⟩)) ?_ fin))
    simp only [Src.items, hc]

omit ok in
theorem asl_nil {env : Env} {A : Around} {E : Value → Shared → Prop} {s : Shared} {loc : Loc} {h : AH} {vs : List Value} {Q : Loc → AH → Prop} (st : St W n sc vm env A loc h s) (q : T.asL [] (vs.map er) loc h Q) :
    wpAny (model W.prog W.w) A (assignInOrder ((assignEach [] env).map (·.2)) vs) (AsRes W env vm h s Q) E s := by
  cases vs with
  | nil => exact wpAny_assignInOrder_none ⟨loc, h, s.heap, s.toks, rfl, (Step.refl st.rel).s, st.fr, q⟩
  | cons v r => exact q.elim

theorem asl_cons (hj : VInj vm) {i : Nat} {is : List Nat} {x : Str} {p : Pos} {es : List Expr} (hv : vm i = some x) (hl : sc.names.lookup x = some .local ∨ sc.names.lookup x = some .cell)
    (hes : ∀ env A E s loc h vs Q, St W n sc vm env A loc h s → T.asL is (vs.map er) loc h Q → wpAny (model W.prog W.w) A (assignInOrder ((assignEach es env).map (·.2)) vs) (AsRes W env vm h s Q) E s) :
    ∀ env A E s loc h vs Q, St W n sc vm env A loc h s → T.asL (i :: is) (vs.map er) loc h Q → wpAny (model W.prog W.w) A (assignInOrder ((assignEach (.Name x p :: es) env).map (·.2)) vs) (AsRes W env vm h s Q) E s := by
  intro env A E s loc h vs Q st q
  cases vs with
  | nil => exact q.elim
  | cons v r =>
    show wpAny _ A (assignInOrder (assign (.Name x p) env :: (assignEach es env).map (·.2)) (v :: r)) _ E s
    refine wpAny_assignInOrder_more (wpAny_mono (as_name ok hj hv hl env A E s loc h v (fun loc' h' => T.asL is (r.map er) loc' h' Q) st q) ?_ fun _ _ x => x)
    rintro _ s' ⟨loc1, h1, hp1, tk1, rfl, S1, F1, q1⟩
    refine wpAny_mono (hes env A E _ loc1 h1 r Q (st.after ok (tk := tk1) S1 F1) q1) ?_ fun _ _ x => x
    rintro _ s' ⟨loc2, h2, hp2, tk2, rfl, S2, F2, q2⟩
    exact ⟨loc2, h2, hp2, tk2, rfl, S1.trans S2 F1.how, F2, q2⟩

theorem ex_asgT {es : List Expr} {is : List Nat} {kk : Nat} {e : Expr} {f : ET} {p pos : Pos} (he : EvOk W n sc vm e f) (ht : AsOk W n sc vm (.Tuple es kk p) (T.asT is))
    (hs : ∀ env : Env, env.scope = sc → swapsWithSole [.Tuple es kk p] e pos.line env = pure false) (hw : ∀ env : Env, env.scope = sc → swappedStores [.Tuple es kk p] e env = pure none) :
    ExOk W n sc vm (.Assign [.Tuple es kk p] e pos) (T.asgT is f) := by
  intro env A E s loc h Q st q
  refine PyProof.Rows.Assign_Tuple (he.use ok st q fun v h1 hp1 tk1 q1 st1 S1 => ?_) (hs env st.sc) (hw env st.sc)
  refine wpAny_mono (ht env A E _ loc h1 v _ st1 q1) ?_ fun _ _ x => x
  rintro _ s' ⟨loc2, h2, hp2, tk2, rfl, S2, F2, q2⟩
  exact ⟨loc2, h2, hp2, tk2, rfl, S1.s.trans S2 st1.fr.how, F2, q2⟩

theorem ex_for {target iter : Expr} {body : List Stmt} {it : ItT} {asg : AsT} {b : ST} {pos : Pos} (hi : ItOk W n sc vm iter it) (ha : AsOk W n sc vm target asg) (hb : BkOk W n sc vm body b) (hlg : LgOk W target)
    (hs : ∀ (env : Env) x, foldedSetIterable iter env x = pure x) : ExOk W n sc vm (.For target iter body [] pos) (T.for_ it asg b) := by
  intro env A E s loc h Q st q
  refine wpAny_For (wpAny_mono (hi env A E s loc h _ st q) ?_ fun _ _ x => x) (hs env)
  intro xv s1 h1
  refine wpAny_mono h1 ?_ fun _ _ x => x
  rintro _ _ ⟨src, I0, h1, hp1, tk1, rfl, rfl, S1, hnone, hI0, hB, hit, I, N, hI, turn⟩
  have st1 : St W n sc vm env A loc h1 { s with heap := hp1, toks := tk1 } := st.step ok S1
  have hown : ¬ Own env I0 := fun o => by obtain ⟨ob, e⟩ := st.fr.how I0 o; rw [hnone] at e; cases e
  refine codeAny_forLoop_any (prog := W.prog) (w := W.w) (fun m s' => ∃ i loc' h' hp tk, m = N + 1 - i ∧ s' = { s with heap := hp, toks := tk } ∧ SStep W env h s.heap h' hp ∧ Frm W env vm loc' h' hp ∧ h' I0 = none ∧ ItAt src hp I0 i ∧ I i loc' h') ?_ (N + 1)
    ⟨0, loc, h1, hp1, tk1, rfl, rfl, S1.s, st1.fr, hI0, hit, hI⟩
  rintro m _ ⟨i, loc2, h2, hp2, tk2, rfl, rfl, S2, F2, hI2, hit2, hinv⟩
  obtain ⟨xs, hx, hN, hm⟩ := turn i loc2 h2 hinv
  obtain ⟨o, ho, hnt⟩ := hit2.obj
  have hnt' : ∀ o', hp2.get? I0 = some o' → ¬ IsTupO o' := fun o' e => by rw [ho] at e; cases e; exact hnt
  refine next_ok st.cx S2.cells hit2 hx (fun e hp3 he => ?_) fun av e v hp3 tk3 hv hit3 he => ?_
  · rw [e] at hm
    exact wpAny_execs_nil ⟨loc2, h2, hp3, tk2, rfl, S2.ext he hI2 hnone hnt', F2.ext he hown, hm⟩
  · rw [e] at hm
    have S3 := S2.ext he hI2 hnone hnt'
    have F3 := F2.ext he hown
    have hlt : i < xs.length := by
      rcases Nat.lt_or_ge i xs.length with q | q
      · exact q
      · rw [List.getElem?_eq_none q] at e; cases e
    have st3 : St W n sc vm env A loc2 h2 { s with heap := hp3, toks := tk3 } := st.after ok S3 F3
    refine hlg _ _ _ src I0 (i + 1) v _ hit3 ?_
    refine wpAny_mono (ha env A (fun _ _ => False) _ loc2 h2 v _ st3 (by rw [hv]; exact hm)) ?_ fun _ _ x => x.elim
    rintro _ s' ⟨loc4, h4, hp4, tk4, rfl, S4, F4, q4⟩
    have st4 : St W n sc vm env A loc4 h4 { s with heap := hp4, toks := tk4 } := st3.after ok S4 F4
    refine wpAny_mono (hb env A (fun _ _ => False) _ loc4 h4 _ st4 q4) ?_ fun _ _ x => x.elim
    rintro f s' ⟨loc5, h5, hp5, tk5, rfl, S5, F5, q5⟩
    have S := (S3.trans S4 F3.how).trans S5 F4.how
    obtain ⟨o3, ho3, _⟩ := hit3.obj
    have hI4 : h4 I0 = none := S4.stay ho3 hI2
    have hit4 : ItAt src hp4 I0 (i + 1) := hit3.mono fun o e => S4.keep I0 o e hown (.inl hI2)
    obtain ⟨o4, ho4, _⟩ := hit4.obj
    have hI5 : h5 I0 = none := S5.stay ho4 hI4
    have hit5 : ItAt src hp5 I0 (i + 1) := hit4.mono fun o e => S5.keep I0 o e hown (.inl hI4)
    cases f with
    | next => exact ⟨N + 1 - (i + 1), by omega, i + 1, loc5, h5, hp5, tk5, rfl, rfl, S, F5, hI5, hit5, q5⟩
    | cont => exact ⟨N + 1 - (i + 1), by omega, i + 1, loc5, h5, hp5, tk5, rfl, rfl, S, F5, hI5, hit5, q5⟩
    | brk => exact ⟨loc5, h5, hp5, tk5, rfl, S, F5, q5⟩
    | ret v => exact ⟨loc5, h5, hp5, tk5, rfl, S, F5, q5⟩
end
end Mini

/-! MiniH -/
namespace Mini

/-! the scope that a comprehension's block is run in -/
def relabelS (scope sc : Scope) : Scope :=
  { scope with names := scope.names.map fun (n, k) => if (k == .free && sc.kind == .function && sc.names.lookup n == some .cell) then (n, .cell) else (n, k) }
theorem relabel_eq {scope sc : Scope} {env : Env} (h : env.scope = sc) : relabel scope env = relabelS scope sc := by
  subst h; rfl

/-! the closure -/
def clOf (cs : List (Str × Addr)) : List (Str × NameKind) → List (Str × Addr) → List (Str × Addr)
  | [], acc => acc
  | (n, k) :: r, acc => if k == .free then clOf cs r ((n, (cs.lookup n).getD 0) :: acc) else clOf cs r acc

theorem closure_ok {scope : Scope} {env : Env} (h : ∀ x, (x, NameKind.free) ∈ scope.names → (env.cells.lookup x).isSome = true) : closureFor scope env = pure (clOf env.cells scope.names []) := by
  have key : ∀ (names : List (Str × NameKind)) (acc : List (Str × Addr)), (∀ x, (x, NameKind.free) ∈ names → (env.cells.lookup x).isSome = true) →
      (forIn names acc fun (p : Str × NameKind) (cs : List (Str × Addr)) => (do if p.2 == .free then pure (ForInStep.yield ((p.1, ← cellOf env p.1) :: cs)) else pure (ForInStep.yield cs) : Sem (ForInStep (List (Str × Addr))))) = (pure (clOf env.cells names acc) : Sem (List (Str × Addr))) := by
    intro names
    induction names with
    | nil => intro acc _; rfl
    | cons p r ih =>
      intro acc hh
      obtain ⟨n, k⟩ := p
      rw [List.forIn_cons]
      by_cases hk : k = .free
      · subst hk
        obtain ⟨c, hc⟩ := Option.isSome_iff_exists.mp (hh n (List.mem_cons_self ..))
        have hco : cellOf env n = pure c := by unfold cellOf; rw [hc]
        simp only [hco, beq_self_eq_true, if_true, pure_bind]
        rw [ih _ fun x hx => hh x (List.mem_cons_of_mem _ hx)]
        simp [clOf, hc]
      · have hb : (k == NameKind.free) = false := by simpa using hk
        simp only [hb, Bool.false_eq_true, if_false, pure_bind]
        rw [ih _ fun x hx => hh x (List.mem_cons_of_mem _ hx)]
        simp [clOf, hb]
  unfold closureFor
  have := key scope.names [] h
  simp only [bind_pure_comp, Functor.map_map] at this ⊢
  first
    | (rw [← this]; rfl)
    | (simpa using this)

theorem clOf_lookup {cs : List (Str × Addr)} {x : Str} : ∀ {names : List (Str × NameKind)} {acc : List (Str × Addr)}, (∀ p ∈ names, p.1 = x → p.2 ≠ .free) → (clOf cs names acc).lookup x = acc.lookup x
  | [], _, _ => rfl
  | (n, k) :: r, acc, h => by
    have hr : ∀ p ∈ r, p.1 = x → p.2 ≠ .free := fun p hp => h p (List.mem_cons_of_mem _ hp)
    unfold clOf
    split
    · rename_i hk
      rw [clOf_lookup hr, List.lookup_cons]
      have : (x == n) = false := by
        cases q : x == n with
        | false => rfl
        | true => exact absurd (by simpa using hk) (h (n, k) (List.mem_cons_self ..) (beq_iff_eq.mp q).symm)
      rw [this]
    · exact clOf_lookup hr
theorem clOf_free {cs : List (Str × Addr)} {x : Str} : ∀ {names : List (Str × NameKind)} {acc : List (Str × Addr)}, (names.map (·.1)).Nodup → (x, NameKind.free) ∈ names → (clOf cs names acc).lookup x = some ((cs.lookup x).getD 0)
  | (n, k) :: r, acc, hn, h => by
    simp only [List.map_cons, List.nodup_cons] at hn
    rcases List.mem_cons.mp h with e | h
    · cases e
      unfold clOf
      rw [if_pos (show (NameKind.free == NameKind.free) = true from rfl), clOf_lookup (fun p hp e _ => hn.1 (by rw [← e]; exact List.mem_map_of_mem (f := fun x : Str × NameKind => x.1) hp)), List.lookup_cons, beq_self_eq_true]
    · unfold clOf
      split <;> exact clOf_free hn.2 h
theorem clOf_src {cs : List (Str × Addr)} {x : Str} {c : Addr} : ∀ {names : List (Str × NameKind)} {acc : List (Str × Addr)}, (∀ y, (y, NameKind.free) ∈ names → (cs.lookup y).isSome = true) → (clOf cs names acc).lookup x = some c → acc.lookup x = some c ∨ cs.lookup x = some c
  | [], _, _, h => .inl h
  | (n, k) :: r, acc, hh, h => by
    have hr : ∀ y, (y, NameKind.free) ∈ r → (cs.lookup y).isSome = true := fun y hy => hh y (List.mem_cons_of_mem _ hy)
    unfold clOf at h
    split at h
    · rename_i hk
      have hk' : k = .free := by simpa using hk
      subst hk'
      rcases clOf_src hr h with e | e
      · rw [List.lookup_cons] at e
        split at e
        · rename_i q
          have q' : x = n := by simpa using q
          subst q'
          obtain ⟨d, hd⟩ := Option.isSome_iff_exists.mp (hh x (List.mem_cons_self ..))
          rw [hd] at e; exact .inr (hd.trans e)
        · exact .inl e
      · exact .inr e
    · exact clOf_src hr h

/-! the block's own new cells -/
theorem cells_new : ∀ (names : List (Str × NameKind)) (n : Nat) (acc : List (Str × Addr)) (x : Str) (c : Addr), (cellsFrom n names acc).lookup x = some c → acc.lookup x = some c ∨ (n ≤ c ∧ (x, NameKind.cell) ∈ names)
  | [], _, _, _, _, h => .inl h
  | (m, k) :: r, n, acc, x, c, h => by
    unfold cellsFrom at h
    split at h
    · rename_i hk
      have hk' : k = .cell := by simpa using hk
      subst hk'
      rcases cells_new r (n + 1) _ x c h with e | ⟨e1, e2⟩
      · rw [List.lookup_cons] at e
        split at e
        · rename_i q
          have q' : x = m := by simpa using q
          subst q'
          cases e
          exact .inr ⟨Nat.le_refl _, List.mem_cons_self ..⟩
        · exact .inl e
      · exact .inr ⟨by omega, List.mem_cons_of_mem _ e2⟩
    · rcases cells_new r n acc x c h with e | ⟨e1, e2⟩
      · exact .inl e
      · exact .inr ⟨e1, List.mem_cons_of_mem _ e2⟩

theorem cells_other {x : Str} : ∀ (names : List (Str × NameKind)) (n : Nat) (acc : List (Str × Addr)), (x, NameKind.cell) ∉ names → (cellsFrom n names acc).lookup x = acc.lookup x
  | [], _, _, _ => rfl
  | (m, k) :: r, n, acc, h => by
    have hr : (x, NameKind.cell) ∉ r := fun q => h (List.mem_cons_of_mem _ q)
    unfold cellsFrom
    split
    · rename_i hk
      have hk' : k = .cell := by simpa using hk
      subst hk'
      rw [cells_other r _ _ hr, List.lookup_cons]
      have : (x == m) = false := by
        cases q : x == m with
        | false => rfl
        | true => exact absurd (by rw [beq_iff_eq.mp q]; exact List.mem_cons_self ..) h
      rw [this]
    · exact cells_other r _ _ hr

/-- where the new cells lie, and that two names do not share one -/
theorem cells_spec : ∀ (names : List (Str × NameKind)) (h : Heap) (acc : List (Str × Addr)), (∀ x y c, acc.lookup x = some c → acc.lookup y = some c → x = y) → (∀ x c, acc.lookup x = some c → c < h.objs.size) →
    (∀ x y c, (cellsFrom h.objs.size names acc).lookup x = some c → (cellsFrom h.objs.size names acc).lookup y = some c → x = y) ∧
    (∀ x c, (cellsFrom h.objs.size names acc).lookup x = some c → acc.lookup x = some c ∨ (h.objs.size ≤ c ∧ (pushCells h names).IsCell c none))
  | [], h, acc, ha, _ => ⟨ha, fun x c e => .inl e⟩
  | (m, k) :: r, h, acc, ha, hb => by
    unfold cellsFrom pushCells
    split
    · have hsz : (h.push { cls := .type "cell", data := .cell none }).objs.size = h.objs.size + 1 := Heap.size_push ..
      obtain ⟨i1, i2⟩ := cells_spec r (h.push { cls := .type "cell", data := .cell none }) ((m, h.objs.size) :: acc) (fun x y c e1 e2 => by
          rw [List.lookup_cons] at e1 e2
          cases q1 : x == m <;> cases q2 : y == m <;> rw [q1] at e1 <;> rw [q2] at e2
          · exact ha x y c e1 e2
          · have := hb x c e1; cases e2; exact absurd this (Nat.lt_irrefl _)
          · have := hb y c e2; cases e1; exact absurd this (Nat.lt_irrefl _)
          · rw [beq_iff_eq.mp q1, beq_iff_eq.mp q2]) (fun x c e => by
          rw [hsz]
          rw [List.lookup_cons] at e
          cases q1 : x == m <;> rw [q1] at e
          · exact Nat.lt_succ_of_lt (hb x c e)
          · cases e; exact Nat.lt_succ_self _)
      rw [hsz] at i1 i2
      refine ⟨i1, fun x c e => ?_⟩
      rcases i2 x c e with e | ⟨e1, e2⟩
      · rw [List.lookup_cons] at e
        cases q1 : x == m <;> rw [q1] at e
        · exact .inl e
        · cases e
          exact .inr ⟨Nat.le_refl _, _, pushCells_keeps r _ _ _ (Heap.get?_push_size _ rfl), rfl⟩
      · exact .inr ⟨by omega, e2⟩
    · exact cells_spec r h acc ha hb

theorem Frm.weaken {W : Wd} {env : Env} {vm : VM} {loc loc' : Loc} {h : AH} {hp : Heap} (F : Frm W env vm loc h hp) (k : ∀ i av, loc' i = some av → loc i = some av) : Frm W env vm loc' h hp := by
  obtain ⟨m, hm, hm2⟩ := F.ns
  exact ⟨F.hk, F.hg, F.hb, F.LB, F.nL, ⟨m, hm, fun i x av h1 h2 h3 => hm2 i x av h1 h2 (k i av h3)⟩, F.cl, fun i x av h1 h2 h3 => F.cv i x av h1 h2 (k i av h3), F.ap, F.hc⟩

/-! the new environment of a comprehension's block -/
theorem compEnv_ok {M : Model} {A : Around} {E : Value → Shared → Prop} {s : Shared} {scope : Scope} {env : Env} {cl : List (Str × Addr)} {P : Env → Shared → Prop}
    (h : ∀ hp, hp = pushCells (s.heap.push { cls := .type "dict", data := .dict #[] }) scope.names → P (newEnv scope s.heap.objs.size env.globals (cellsFrom (s.heap.objs.size + 1) scope.names cl) env.qual none .none (some env) builtinsNs) { s with heap := hp }) :
    wpAny M A (newFunctionEnv scope env.globals cl [] env.qual none .none (some env)) P E s := by
  simp only [newFunctionEnv, Option.isSome_some, if_true]
  refine wpAny_bind (wpAny_alloc ?_)
  refine wpAny_bind (wpAny_layCells _ (fun name kind cells => by cases hkc : kind == NameKind.cell <;> simp [hkc]) _ _ _ _ ?_)
  rw [show ({ s with heap := s.heap.push { cls := .type "dict", data := .dict #[] } } : Shared).heap.objs.size = s.heap.objs.size + 1 from Heap.size_push ..]
  simp only [List.forIn_nil]
  first
    | exact wpAny_bind (wpAny_pure (wpAny_pure (h _ rfl)))
    | exact wpAny_pure (h _ rfl)
theorem lookup_of_mem {names : List (Str × NameKind)} {x : Str} {k : NameKind} (hn : (names.map (·.1)).Nodup) (h : (x, k) ∈ names) : names.lookup x = some k := by
  induction names with
  | nil => cases h
  | cons p r ih =>
    obtain ⟨m, j⟩ := p
    simp only [List.map_cons, List.nodup_cons] at hn
    rcases List.mem_cons.mp h with e | h
    · cases e; rw [List.lookup_cons, beq_self_eq_true]
    · have hx : (x == m) = false := by
        cases q : x == m with
        | false => rfl
        | true => exact absurd (beq_iff_eq.mp q ▸ List.mem_map_of_mem (f := (·.1)) h) hn.1
      rw [List.lookup_cons, hx]; exact ih hn.2 h

theorem relabelS_lookup {scope sc : Scope} {x : Str} : (relabelS scope sc).names.lookup x = (scope.names.lookup x).map fun k => if (k == .free && sc.kind == .function && sc.names.lookup x == some .cell) then .cell else k := by
  unfold relabelS
  simp only
  induction scope.names with
  | nil => rfl
  | cons p r ih =>
    obtain ⟨m, j⟩ := p
    simp only [List.map_cons]
    by_cases hc : (j == .free && sc.kind == .function && sc.names.lookup m == some .cell) = true
    · rw [if_pos hc]
      by_cases hx : x = m
      · subst hx; simp only [List.lookup_cons, beq_self_eq_true, Option.map_some]; rw [if_pos hc]
      · have hx' : (x == m) = false := by simpa using hx
        simp only [List.lookup_cons, hx']; exact ih
    · rw [if_neg hc]
      by_cases hx : x = m
      · subst hx; simp only [List.lookup_cons, beq_self_eq_true, Option.map_some]; rw [if_neg hc]
      · have hx' : (x == m) = false := by simpa using hx
        simp only [List.lookup_cons, hx']; exact ih

namespace T
def comp (B : Addr) (it : ItT) (i : Nat) (c : TT) (e : ET) : ET := fun loc h Q => it loc h fun src h1 => ∀ D, B ≤ D → h1 D = Option.none →
  ∃ (I : Nat → List AV → AH → Prop) (N : Nat), I 0 [] (upd h1 D (.list [])) ∧ ∀ k ys h, I k ys h → h D = some (.list ys) ∧ ys.length < 2 ^ 20 ∧ ∃ xs, src.items h = some xs ∧ xs.length ≤ N ∧
    match xs[k]? with
    | Option.none => Q (.ref D) h
    | some v => c (upd loc i v) h fun b h2 => if b then e (upd loc i v) h2 fun y h3 => h3 D = some (.list ys) ∧ I (k + 1) (ys ++ [y]) (upd h3 D (.list (ys ++ [y]))) else I (k + 1) ys h2
def yes : TT := fun _ h Q => Q true h
end T

/-- the tests of a clause -/
def TstOk (W : Wd) (n : Nat) (sc : Scope) (vm : VM) (ifs : List Expr) (t : TT) : Prop :=
  ∀ env A E s loc h Q, St W n sc vm env A loc h s → t loc h Q →
    wpAny (model W.prog W.w) A (forIn ifs true fun c r => if r = true then do let ok ← isTrue c env (eval c env); pure (ForInStep.yield ok) else pure (ForInStep.yield r)) (ResB W h s Q) E s
theorem tst_nil {W : Wd} {n : Nat} {sc : Scope} {vm : VM} : TstOk W n sc vm [] T.yes := by
  intro env A E s loc h Q st q
  exact wpAny_tests_nil ⟨h, s.heap, s.toks, rfl, Step.refl st.rel, q⟩
theorem tst_one {W : Wd} {n : Nat} {sc : Scope} {vm : VM} {c : Expr} {t : TT} (hc : TsOk W n sc vm c t) : TstOk W n sc vm [c] t := by
  intro env A E s loc h Q st q
  exact wpAny_tests_one (hc env A E s loc h Q st q)

section
variable {W : Wd} (ok : WdOk W) {n : Nat} {sc : Scope} {vm vm' : VM}
include ok

/-- a comprehension's block, run to its end -/
theorem comp_core {elt iter : Expr} {x : Str} {px pos : Pos} {ifs : List Expr} {scope : Scope} {it : ItT} {i : Nat} {c : TT} {e : ET}
    (hi : ItOk W n sc vm iter it) (hk : scope.kind = .function) (hnd : (scope.names.map (·.1)).Nodup)
    (hfree : ∀ y, (y, NameKind.free) ∈ scope.names → sc.names.lookup y = some .cell) (hskn : sc.kind = .function)
    (hx : scope.names.lookup x = some .local ∨ scope.names.lookup x = some .cell) (hvi : vm' i = some x) (hj : VInj vm')
    (hvm : ∀ j y, vm' j = some y → j ≠ i → vm j = some y ∧ scope.names.lookup y = some .free)
    (hc : TstOk W n (relabelS scope sc) vm' ifs c) (he : EvOk W n (relabelS scope sc) vm' elt e)
    {env : Env} {A : Around} {E : Value → Shared → Prop} {s : Shared} {loc : Loc} {h : AH} {Q : AV → AH → Prop} (st : St W n sc vm env A loc h s) (q : T.comp W.B it i c e loc h Q)
    {RR : Value → Addr → Result → Shared → Prop}
    (fin : ∀ D C hf hp tk, Step W h s.heap hf hp → Q (.ref D) hf → (∃ m, hp.Ns C m) → s.heap.get? C = none → hf C = none → RR (.ref D) C (.ok .next) { s with heap := hp, toks := tk }) :
    wpAny (model W.prog W.w) A (eval iter env) (fun xv s₁ => wpAny (model W.prog W.w) A (pyIter xv) (fun it s₂ => wpAny (model W.prog W.w) A (newList []) (fun acc s₃ =>
      wpAny (model W.prog W.w) A (newFunctionEnv scope env.globals (clOf env.cells scope.names []) [] env.qual none .none (some env)) (fun cenv s₄ =>
        codeAny (model W.prog W.w) A (.compStart (.ListComp elt [⟨.Name x px, iter, ifs, 0⟩] scope pos) 0 it acc { cenv with scope := relabel scope env }) (RR acc cenv.locals) s₄) E s₃) E s₂) E s₁) E s := by
  have hsome : ∀ y, (y, NameKind.free) ∈ scope.names → (env.cells.lookup y).isSome = true := fun y hy => by
    obtain ⟨d, hd⟩ := st.fr.hc y (by unfold Env.kindOf; rw [st.sc]; exact hfree y hy)
    rw [hd]; rfl
  refine wpAny_mono (hi env A E s loc h _ st q) ?_ fun _ _ x => x
  intro xv s1 h1
  refine wpAny_mono h1 ?_ fun _ _ x => x
  rintro _ _ ⟨src, I0, h1, hp1, tk1, rfl, rfl, S1, hnone, hI0, hB, hit, q1⟩
  have st1 : St W n sc vm env A loc h1 { s with heap := hp1, toks := tk1 } := st.step ok S1
  refine wpAny_newList ?_ (by decide)
  -- the list
  obtain ⟨I, N, hI, turn⟩ := q1 hp1.objs.size st1.rel.size (st1.rel.fresh (get_size_none _))
  have S2 : Step W h1 hp1 (upd h1 hp1.objs.size (.list [])) (hp1.push { cls := .type "list", data := .seq #[] }) := Step.push (c := .list []) st1.rel ⟨_, ⟨0, Heap.get?_push_size _ rfl⟩, rfl⟩
  have st2 : St W n sc vm env A loc (upd h1 hp1.objs.size (.list [])) { s with heap := hp1.push { cls := .type "list", data := .seq #[] }, toks := tk1 } := ⟨st1.sc, st1.cx, st1.fr.step S2, S2.rel ok st1.rel⟩
  have hDn : s.heap.get? hp1.objs.size = none := S1.free (get_size_none _) (st1.rel.fresh (get_size_none _))
  have hDI : hp1.objs.size ≠ I0 := by obtain ⟨o, ho, _⟩ := hit.obj; exact fun q => Nat.lt_irrefl _ (q ▸ Heap.lt_size ho)
  generalize hD : hp1.objs.size = D at *
  generalize hH2 : hp1.push { cls := .type "list", data := .seq #[] } = hp2 at *
  have hit2 : ItAt src hp2 I0 0 := hit.mono fun o e => by rw [← hH2]; exact Heap.get?_push_of_some _ e
  have hI2 : upd h1 D (.list []) I0 = none := by rw [upd_ne (Ne.symm hDI)]; exact hI0
  generalize upd h1 D (.list []) = h2 at *
  have S12 := S1.trans S2
  refine compEnv_ok fun hp3 hhp3 => ?_
  -- the block's environment
  have hC3 : ∀ b o, hp2.get? b = some o → hp3.get? b = some o := fun b o e => by rw [hhp3]; exact pushCells_keeps _ _ b o (Heap.get?_push_of_some _ e)
  have S3 : Step W h2 hp2 h2 hp3 := Step.keeps st2.rel hC3
  have R3 : Rel W h2 hp3 := S3.rel ok st2.rel
  have hCn2 : h2 hp2.objs.size = none := st2.rel.fresh (get_size_none _)
  have hge : ∀ b, hp2.objs.size ≤ b → hp2.get? b = none := fun b hb => by
    cases q : hp2.get? b with
    | none => rfl
    | some o => exact absurd (Heap.lt_size q) (Nat.not_lt.mpr hb)
  have hfr : ∀ b, hp2.objs.size ≤ b → h2 b = none ∧ s.heap.get? b = none := fun b hb => ⟨st2.rel.fresh (hge b hb), S12.free (hge b hb) (st2.rel.fresh (hge b hb))⟩
  have hclsrc : ∀ y d, (clOf env.cells scope.names []).lookup y = some d → env.cells.lookup y = some d := fun y d e => by
    rcases clOf_src hsome e with e | e
    · cases e
    · exact e
  have hsz3 : (hp2.push { cls := .type "dict", data := .dict #[] }).objs.size = hp2.objs.size + 1 := Heap.size_push ..
  have spec := cells_spec scope.names (hp2.push { cls := .type "dict", data := .dict #[] }) (clOf env.cells scope.names []) (fun a b d e1 e2 => st.fr.ap a b d (hclsrc _ _ e1) (hclsrc _ _ e2))
    (fun a d e => by
      obtain ⟨_, _, _, v, o, ho, _⟩ := st2.fr.cl a d (hclsrc _ _ e)
      rw [hsz3]; exact Nat.lt_succ_of_lt (Heap.lt_size ho))
  rw [hsz3, ← hhp3] at spec
  obtain ⟨spec1, spec2⟩ := spec
  have hNs3 : hp3.Ns hp2.objs.size fun _ => none := by rw [hhp3]; exact (Heap.Ns.new hp2 (.type "dict")).keeps (pushCells_keeps _ _)
  generalize hcells : cellsFrom (hp2.objs.size + 1) scope.names (clOf env.cells scope.names []) = cells at *
  generalize hcenv : ({ newEnv scope hp2.objs.size env.globals cells env.qual none .none (some env) builtinsNs with scope := relabel scope env } : Env) = cenv
  have ceL : cenv.locals = hp2.objs.size := by rw [← hcenv]; rfl
  have ceC : cenv.cells = cells := by rw [← hcenv]; rfl
  have ceS : cenv.scope = relabelS scope sc := by rw [← hcenv, ← relabel_eq st.sc]
  have ceK : ∀ y, cenv.kindOf y = (scope.names.lookup y).map fun k => if (k == .free && sc.kind == .function && sc.names.lookup y == some .cell) then .cell else k := fun y => by
    unfold Env.kindOf; rw [ceS]; exact relabelS_lookup
  have hfreeL : ∀ y, scope.names.lookup y = some .free → cells.lookup y = env.cells.lookup y := fun y hy => by
    have hmem := mem_of_lookup hy
    have hnc : (y, NameKind.cell) ∉ scope.names := fun q => by rw [lookup_of_mem hnd q] at hy; cases hy
    rw [← hcells, cells_other _ _ _ hnc, clOf_free hnd hmem]
    obtain ⟨d, hd⟩ := Option.isSome_iff_exists.mp (hsome y hmem)
    rw [hd]; rfl
  let locC : Loc := fun j => if j = i then none else loc j
  have hupd : ∀ v, upd locC i v = upd loc i v := fun v => by
    funext j
    by_cases hji : j = i
    · subst hji; rw [upd_same, upd_same]
    · rw [upd_ne hji, upd_ne hji]; exact if_neg hji
  have F3 : Frm W cenv vm' locC h2 hp3 := by
    refine ⟨by rw [ceS]; exact hk, by rw [← hcenv]; exact st.fr.hg, by rw [← hcenv]; exact st.fr.hb, by rw [ceL]; exact st2.rel.size, by rw [ceL]; exact hCn2, ⟨_, by rw [ceL]; exact hNs3, fun j y av e1 e2 e3 => ?_⟩, fun y d e => ?_, fun j y av e1 e2 e3 => ?_, fun a b d e1 e2 => ?_, fun y e => ?_⟩
    · by_cases hji : j = i
      · simp only [locC, if_pos hji] at e3; cases e3
      · obtain ⟨_, hfr'⟩ := hvm j y e1 hji
        rw [ceK, hfr'] at e2
        simp only [Option.map_some] at e2
        split at e2 <;> cases e2
    · rw [ceC] at e
      rw [ceL]
      rcases spec2 y d e with e | ⟨e1, e2⟩
      · obtain ⟨a1, a2, a3, v, o, ho, hv⟩ := st2.fr.cl y d (hclsrc _ _ e)
        exact ⟨a1, a2, fun q => Nat.lt_irrefl _ (q ▸ Heap.lt_size ho), v, o, hC3 _ _ ho, hv⟩
      · have e1' : hp2.objs.size < d := e1
        exact ⟨Nat.le_trans st2.rel.size (Nat.le_of_lt e1'), (hfr d (Nat.le_of_lt e1')).1, fun q => Nat.lt_irrefl _ (q ▸ e1'), none, e2⟩
    · by_cases hji : j = i
      · simp only [locC, if_pos hji] at e3; cases e3
      · simp only [locC, if_neg hji] at e3
        obtain ⟨hvo, hfr'⟩ := hvm j y e1 hji
        have hcell : sc.names.lookup y = some .cell := hfree y (mem_of_lookup hfr')
        obtain ⟨d, v, e4, ⟨o, ho, hv⟩, e5⟩ := st2.fr.cv j y av hvo (.inl (by unfold Env.kindOf; rw [st.sc]; exact hcell)) e3
        exact ⟨d, v, by rw [ceC, hfreeL y hfr']; exact e4, ⟨o, hC3 _ _ ho, hv⟩, e5⟩
    · rw [ceC] at e1 e2; exact spec1 a b d e1 e2
    · rw [ceC]
      rw [ceK] at e
      cases hl : scope.names.lookup y with
      | none => rw [hl] at e; cases e
      | some k =>
        rw [hl] at e
        simp only [Option.map_some] at e
        by_cases hkc : k = .cell
        · subst hkc
          have := cellsFrom_some (x := y) scope.names (hp2.objs.size + 1) (clOf env.cells scope.names []) (.inl hl)
          rw [hcells] at this
          exact Option.isSome_iff_exists.mp this
        · have hkf : k = .free := by
            split at e
            · rename_i q; simp only [Bool.and_eq_true, beq_iff_eq] at q; exact q.1.1
            · exact absurd (Option.some.inj e) hkc
          subst hkf
          rw [hfreeL y hl]
          exact Option.isSome_iff_exists.mp (hsome y (mem_of_lookup hl))
  have hI3 : ItAt src hp3 I0 0 := hit2.mono fun o e => hC3 _ o e
  have hown : ∀ b, b = cenv.locals ∨ (∃ y, (y, NameKind.cell) ∈ scope.names ∧ cenv.cells.lookup y = some b) → s.heap.get? b = none ∧ b ≠ I0 := fun b hb => by
    have hI0lt : I0 < hp2.objs.size := by obtain ⟨o, ho, _⟩ := hit2.obj; exact Heap.lt_size ho
    rcases hb with hb | ⟨y, hy, hb⟩
    · rw [hb, ceL]; exact ⟨(hfr _ (Nat.le_refl _)).2, fun q => Nat.lt_irrefl _ (q ▸ hI0lt)⟩
    · rw [ceC] at hb
      rcases spec2 y b hb with e | ⟨e, _⟩
      · exfalso
        have : (clOf env.cells scope.names []).lookup y = ([] : List (Str × Addr)).lookup y := clOf_lookup (fun p hp e q => by
          obtain ⟨a, k⟩ := p
          simp only at e q
          subst e; subst q
          have h1 := lookup_of_mem hnd hp
          rw [lookup_of_mem hnd hy] at h1; cases h1)
        rw [this] at e; cases e
      · have e1' : hp2.objs.size < b := e
        exact ⟨(hfr b (Nat.le_of_lt e1')).2, fun q => Nat.lt_irrefl _ (Nat.lt_trans (q ▸ e1') hI0lt)⟩
  have loop : ∀ s4 : Shared, s4 = { s with heap := hp3, toks := tk1 } → codeAny (model W.prog W.w) A (.compLoop (.ListComp elt [⟨.Name x px, iter, ifs, 0⟩] scope pos) 0 (.ref I0) (.ref D) cenv) (RR (.ref D) hp2.objs.size) s4 := by
    rintro s4 rfl
    refine codeAny_compLoop_tests (prog := W.prog) (w := W.w) (fun m s' => ∃ k ys h' hp tk, m = N + 1 - k ∧ s' = { s with heap := hp, toks := tk } ∧ Step W h s.heap h' hp ∧ Frm W cenv vm' locC h' hp ∧ h' I0 = none ∧ ItAt src hp I0 k ∧ I k ys h') ?_ (N + 1)
      ⟨0, [], h2, hp3, tk1, rfl, rfl, S12.trans S3, F3, hI2, hI3, hI⟩ (by intro _; rfl)
    rintro m _ ⟨k, ys, h4, hp4, tk4, rfl, rfl, S4, F4, hI4, hit4, hinv⟩
    obtain ⟨hDl, hylen, xs, hxs, hN, hm⟩ := turn k ys h4 hinv
    obtain ⟨o, ho, hnt⟩ := hit4.obj
    have hnt' : ∀ o', hp4.get? I0 = some o' → ¬ IsTupO o' := fun o' e => by rw [ho] at e; cases e; exact hnt
    have hownI : ¬ Own cenv I0 := fun q => by
      rcases q with q | ⟨y, q⟩
      · exact (hown I0 (.inl q)).2 rfl
      · have := (F4.cl y I0 q).2.2.2
        obtain ⟨v, o', ho', hv'⟩ := this
        rw [ho] at ho'; cases ho'
        cases src with
        | list a => obtain ⟨o'', e1, e2, e3⟩ := hit4; rw [ho] at e1; cases e1; rw [hv'] at e3; cases e3
        | tup a => obtain ⟨o'', e1, e2, e3⟩ := hit4; rw [ho] at e1; cases e1; rw [hv'] at e3; cases e3
        | range a b c => have e1 : hp4.get? I0 = some _ := hit4.2; rw [ho] at e1; cases e1; cases hv'
    refine next_ok st.cx S4.cells hit4 hxs (fun e hp5 hex => ?_) fun av e v hp5 tk5 hv hit5 hex => ?_
    · rw [e] at hm
      have S5 := S4.ext hex hI4 hnone hnt'
      have F5 := F4.ext hex hownI
      obtain ⟨mm, hmm, _⟩ := F5.ns
      rw [ceL] at hmm
      exact fin D hp2.objs.size h4 hp5 tk4 S5 hm ⟨mm, hmm⟩ (hfr _ (Nat.le_refl _)).2 (by have := F5.nL; rw [ceL] at this; exact this)
    · rw [e] at hm
      have S5 := S4.ext hex hI4 hnone hnt'
      have F5 := F4.ext hex hownI
      have hlt : k < xs.length := by
        rcases Nat.lt_or_ge k xs.length with q | q
        · exact q
        · rw [List.getElem?_eq_none q] at e; cases e
      have hxk : cenv.kindOf x = some .local ∨ cenv.kindOf x = some .cell := by
        rw [ceK]
        rcases hx with hx | hx <;> rw [hx]
        · exact .inl rfl
        · exact .inr rfl
      refine wpAny_assign_Name (store_core (vm := vm') hj F5 hvi hxk fun a hp6 tk6 ha hant han haB hsb F6 => ?_)
      have hab : s.heap.get? a = none ∧ a ≠ I0 := by
        refine hown a (ha.imp id fun q => ⟨x, ?_, q.2⟩)
        rcases hx with hx | hx
        · have := q.1; rw [ceK, hx] at this; cases this
        · exact mem_of_lookup hx
      have S6 := S5.ext hsb.extBut han hab.1 hant
      rw [hupd, hv] at F6
      have hit6 : ItAt src hp6 I0 (k + 1) := hit5.mono fun o e => hsb.extBut _ o (Ne.symm hab.2) e
      have hR6 : Rel W h4 hp6 := S6.rel ok st.rel
      have st6 : St W n (relabelS scope sc) vm' cenv A (upd loc i av) h4 { s with heap := hp6, toks := tk6 } := ⟨ceS, st.cx, F6, hR6⟩
      refine wpAny_mono (hc cenv A (fun _ _ => False) _ _ h4 _ st6 hm) ?_ fun _ _ x => x.elim
      rintro b s' ⟨h7, hp7, tk7, rfl, S7, q7⟩
      have F7 := F6.step S7
      have S67 := S6.trans S7
      obtain ⟨o6, ho6, _⟩ := hit6.obj
      have hI7 : h7 I0 = none := S7.stay ho6 hI4
      have hit7 : ItAt src hp7 I0 (k + 1) := hit6.mono fun o e => S7.keep I0 o e (.inl hI4)
      have wk : ∀ j av', locC j = some av' → upd loc i av j = some av' := fun j av' e => by
        by_cases hji : j = i
        · simp only [locC, if_pos hji] at e; cases e
        · rw [upd_ne hji]; simp only [locC, if_neg hji] at e; exact e
      cases b with
      | false => exact ⟨N + 1 - (k + 1), by omega, k + 1, ys, h7, hp7, tk7, rfl, rfl, S67, F7.weaken wk, hI7, hit7, q7⟩
      | true =>
        have st7 : St W n (relabelS scope sc) vm' cenv A (upd loc i av) h7 { s with heap := hp7, toks := tk7 } := ⟨ceS, st.cx, F7, S67.rel ok st.rel⟩
        refine wpAny_mono (he cenv A (fun _ _ => False) _ _ h7 _ st7 q7) ?_ fun _ _ x => x.elim
        rintro y s' ⟨h8, hp8, tk8, rfl, S8, hD8, q8⟩
        have F8 := F7.step S8
        have S78 := S67.trans S8
        have R8 : Rel W h8 hp8 := S78.rel ok st.rel
        obtain ⟨us, hpl, hus⟩ := R8.cells D _ hD8
        obtain ⟨o7, ho7, _⟩ := hit7.obj
        have hI8 : h8 I0 = none := S8.stay ho7 hI7
        have hit8 : ItAt src hp8 I0 (k + 1) := hit7.mono fun o e => S8.keep I0 o e (.inl hI7)
        have hDB : W.B ≤ D := by rw [← hD]; exact st1.rel.size
        refine wpAny_list_append_plain hpl (fun hp9 hpl9 hs9 => ?_) (by rw [map_len hus, sizeLine_eq]; omega)
        have S9 : Step W h8 hp8 (upd h8 D (.list (ys ++ [er y]))) hp9 := Step.set R8 hD8 hDB (list_notTup hpl) hs9 ⟨_, hpl9, by simp [hus]⟩
        have F9 := F8.step S9
        obtain ⟨o8, ho8, _⟩ := hit8.obj
        exact ⟨N + 1 - (k + 1), by omega, k + 1, ys ++ [er y], _, hp9, tk8, rfl, rfl, S78.trans S9, F9.weaken wk, S9.stay ho8 hI8, hit8.mono fun o e => S9.keep I0 o e (.inl hI8), q8⟩
  refine codeAny_compStart_list (loop _ rfl) ?_
  cases src with
  | list a => exact wpAny_pyIter_listiter hI3 (loop _ rfl)
  | tup a => exact wpAny_pyIter_tupleiter hI3 (loop _ rfl)
  | range a b c => exact wpAny_pyIter_rangeiter hI3.2 (loop _ rfl)
end
end Mini

/-! MiniI -/
namespace Mini

section
variable {W : Wd} (ok : WdOk W) {n : Nat} {sc : Scope} {vm vm' : VM}
include ok

theorem closure_st {scope : Scope} {env : Env} {A : Around} {s : Shared} {loc : Loc} {h : AH} (st : St W n sc vm env A loc h s) (hfree : ∀ y, (y, NameKind.free) ∈ scope.names → sc.names.lookup y = some .cell) :
    closureFor scope env = pure (clOf env.cells scope.names []) :=
  closure_ok fun y hy => by
    obtain ⟨d, hd⟩ := st.fr.hc y (by unfold Env.kindOf; rw [st.sc]; exact hfree y hy)
    rw [hd]; rfl

theorem ev_comp {elt iter : Expr} {x : Str} {px pos : Pos} {ifs : List Expr} {scope : Scope} {it : ItT} {i : Nat} {c : TT} {e : ET}
    (hi : ItOk W n sc vm iter it) (hk : scope.kind = .function) (hnd : (scope.names.map (·.1)).Nodup)
    (hfree : ∀ y, (y, NameKind.free) ∈ scope.names → sc.names.lookup y = some .cell) (hskn : sc.kind = .function)
    (hx : scope.names.lookup x = some .local ∨ scope.names.lookup x = some .cell) (hvi : vm' i = some x) (hj : VInj vm')
    (hvm : ∀ j y, vm' j = some y → j ≠ i → vm j = some y ∧ scope.names.lookup y = some .free)
    (hc : TstOk W n (relabelS scope sc) vm' ifs c) (he : EvOk W n (relabelS scope sc) vm' elt e)
    (hs : ∀ (env : Env) x, foldedSetIterable iter env x = pure x) :
    EvOk W n sc vm (.ListComp elt [⟨.Name x px, iter, ifs, 0⟩] scope pos) (T.comp W.B it i c e) := by
  intro env A E s loc h Q st q
  rw [eval_ListComp]
  refine wpAny_comprehension_free (use := none) rfl (hs env) (closure_st ok st hfree) hk (fun y hy hl => lookup_of_mem hnd (by rw [← hl]; exact hy)) ?_
  refine comp_core ok (vm' := vm') hi hk hnd hfree hskn hx hvi hj hvm hc he st q (RR := fun acc C => compPost (model W.prog W.w) A E none (Res W h s Q) acc C) ?_
  intro D C hf hp tk S hQ hC hCn hCf
  obtain ⟨m, hm⟩ := hC
  refine ⟨m, hm, fun h' hs' => ⟨hf, h', tk, rfl, S.ext hs'.extBut hCf hCn (ns_notTup hm), hQ⟩⟩

/-- a comprehension bound at once to a local name of the same row -/
theorem ex_asgcomp (hjo : VInj vm) {elt iter : Expr} {x y : Str} {px py pos spos : Pos} {ifs : List Expr} {scope : Scope} {it : ItT} {i k : Nat} {c : TT} {e : ET}
    (hi : ItOk W n sc vm iter it) (hk : scope.kind = .function) (hnd : (scope.names.map (·.1)).Nodup)
    (hfree : ∀ y, (y, NameKind.free) ∈ scope.names → sc.names.lookup y = some .cell) (hskn : sc.kind = .function)
    (hx : scope.names.lookup x = some .local ∨ scope.names.lookup x = some .cell) (hvi : vm' i = some x) (hj : VInj vm')
    (hvm : ∀ j y, vm' j = some y → j ≠ i → vm j = some y ∧ scope.names.lookup y = some .free)
    (hc : TstOk W n (relabelS scope sc) vm' ifs c) (he : EvOk W n (relabelS scope sc) vm' elt e)
    (hs : ∀ (env : Env) x, foldedSetIterable iter env x = pure x) (hvk : vm k = some y) (hly : sc.names.lookup y = some .local)
    (hsw : ∀ env : Env, env.scope = sc → swapsWith (.ListComp elt [⟨.Name x px, iter, ifs, 0⟩] scope pos) (some (.Name y py)) spos.line env = pure true) :
    ExOk W n sc vm (.Assign [.Name y py] (.ListComp elt [⟨.Name x px, iter, ifs, 0⟩] scope pos) spos) (T.asg k (T.comp W.B it i c e)) := by
  intro env A E s loc h Q st q
  rw [exec_Assign_Name_used _ _ _ _ (hsw env st.sc)]
  refine wpAny_bind (wpAny_standAt (wpAny_bind ?_))
  show wpAny _ A (do let _ ← comprehension (.ListComp elt [⟨.Name x px, iter, ifs, 0⟩] scope pos) scope env _ (newList []) false (eval iter env) (some (assign (.Name y py) env))) _ _ s
  refine wpAny_bind (wpAny_mono (wpAny_comprehension_free (use := some (assign (.Name y py) env)) (Q := fun _ s' => SRes W env vm h s Q .next s') rfl (hs env) (closure_st ok st hfree) hk
    (fun y hy hl => lookup_of_mem hnd (by rw [← hl]; exact hy)) ?_) (fun _ s' hq => wpAny_pure (wpAny_pure hq)) fun _ _ e => e)
  refine comp_core ok (vm' := vm') hi hk hnd hfree hskn hx hvi hj hvm hc he st q (RR := fun acc C => compPost (model W.prog W.w) A E (some (assign (.Name y py) env)) (fun _ s' => SRes W env vm h s Q .next s') acc C) ?_
  intro D C hf hp tk S hQ hC hCn hCf
  obtain ⟨m, hm⟩ := hC
  have F1 := st.fr.step S
  have R1 := S.rel ok st.rel
  show wpAny _ A (assign (.Name y py) env (.ref D)) _ _ _
  have hCo : ¬ Own env C := fun o => by obtain ⟨ob, e⟩ := st.fr.how C o; rw [hCn] at e; cases e
  refine wpAny_assign_Name (store_core hjo (s := { s with heap := hp, toks := tk }) F1 hvk (.inl (by unfold Env.kindOf; rw [st.sc]; exact hly)) fun a hp2 tk2 ha hnt hn hB hsb F2 => ?_)
  have ho : Own env a := ha.imp id fun q => ⟨y, q.2⟩
  have haC : a ≠ C := fun q => hCo (q ▸ ho)
  have S2 : SStep W env hf hp hf hp2 := by
    have hkk : ∀ b o, b ≠ a → hp.get? b = some o → hp2.get? b = some o := fun b o hb e => (hsb.2 b hb).trans e
    exact ⟨cells_ext R1.cells hsb.extBut hn hnt, fun b o e n _ => hkk b o (fun q => n (q ▸ ho)) e, fun b h1 h2 => absurd h1 h2, fun _ e => e⟩
  have hm2 : hp2.Ns C m := hm.sameBut hsb (Ne.symm haC)
  refine ⟨m, hm2, fun h' hs' => ⟨_, hf, h', tk2, rfl, (S.s.trans S2 F1.how).ext hs'.extBut hCf hCn (ns_notTup hm2), F2.ext hs'.extBut hCo, hQ⟩⟩
end

/-! equality of lists of ints -/
theorem ints_are {is : List Int} : ∀ {l : List Value}, l.map er = is.map AV.int → IntsAre l is := by
  induction is with
  | nil => intro l h; cases l with
    | nil => exact .nil
    | cons v r => simp at h
  | cons i is ih => intro l h; cases l with
    | nil => simp at h
    | cons v r =>
      simp only [List.map_cons, List.cons.injEq] at h
      obtain ⟨t, rfl⟩ := er_int h.1
      exact .cons i t (ih h.2)

namespace P
def eqIL : Cm := fun a b h Q => ∃ l m, ∃ is js : List Int, a = .ref l ∧ b = .ref m ∧ h l = some (.list (is.map AV.int)) ∧ h m = some (.list (js.map AV.int)) ∧ Q (decide (is = js)) h
def neIL : Cm := fun a b h Q => ∃ l m, ∃ is js : List Int, a = .ref l ∧ b = .ref m ∧ h l = some (.list (is.map AV.int)) ∧ h m = some (.list (js.map AV.int)) ∧ Q (!decide (is = js)) h
end P

section
variable {W : Wd} {n : Nat}
theorem cm_eqIL : CmpOk W n .Eq P.eqIL := by
  rintro A E s va vb h Q cx R ⟨l, m, is, js, ha, hb, hl, hm, q⟩
  obtain rfl := er_ref ha
  obtain rfl := er_ref hb
  obtain ⟨vs, hp1, e1⟩ := R.cells l _ hl
  obtain ⟨us, hp2, e2⟩ := R.cells m _ hm
  refine eq_intsK (vs := vs.toList) (us := us.toList) (by rw [Array.toArray_toList]; exact hp1.isList) (ints_are e1) (by rw [Array.toArray_toList]; exact hp2.isList) (ints_are e2) (by have := cx.un; omega) ?_
  exact ⟨h, s.heap, s.toks, rfl, Step.refl R, _, rfl, q⟩
theorem cm_neIL : CmpOk W n .NotEq P.neIL := by
  rintro A E s va vb h Q cx R ⟨l, m, is, js, ha, hb, hl, hm, q⟩
  obtain rfl := er_ref ha
  obtain rfl := er_ref hb
  obtain ⟨vs, hp1, e1⟩ := R.cells l _ hl
  obtain ⟨us, hp2, e2⟩ := R.cells m _ hm
  refine ne_intsK (vs := vs.toList) (us := us.toList) (by rw [Array.toArray_toList]; exact hp1.isList) (ints_are e1) (by rw [Array.toArray_toList]; exact hp2.isList) (ints_are e2) (by have := cx.un; omega) ?_
  exact ⟨h, s.heap, s.toks, rfl, Step.refl R, _, rfl, q⟩
end
end Mini

/-! MiniJ -/
namespace Mini

def vmOf (l : List (Nat × Str)) : VM := fun i => l.lookup i

theorem vm_mem : ∀ {l : List (Nat × Str)} {i : Nat} {x : Str}, l.lookup i = some x → (i, x) ∈ l
  | (j, y) :: r, i, x, h => by
    rw [List.lookup_cons] at h
    cases q : i == j with
    | true => rw [q] at h; cases h; rw [beq_iff_eq.mp q]; exact List.mem_cons_self ..
    | false => rw [q] at h; exact List.mem_cons_of_mem _ (vm_mem h)

theorem pair_inj : ∀ {l : List (Nat × Str)} {i j : Nat} {x : Str}, (l.map (·.2)).Nodup → (i, x) ∈ l → (j, x) ∈ l → i = j
  | (k, y) :: r, i, j, x, hn, h1, h2 => by
    simp only [List.map_cons, List.nodup_cons] at hn
    have out : ∀ {m}, (m, y) ∈ r → False := fun h => hn.1 (List.mem_map_of_mem (f := fun p : Nat × Str => p.2) h)
    rcases List.mem_cons.mp h1 with e1 | h1 <;> rcases List.mem_cons.mp h2 with e2 | h2
    · cases e1; cases e2; rfl
    · cases e1; exact (out h2).elim
    · cases e2; exact (out h1).elim
    · exact pair_inj hn.2 h1 h2

theorem vinj_of {l : List (Nat × Str)} (h : decide ((l.map (·.2)).Nodup) = true) : VInj (vmOf l) :=
  fun _ _ _ h1 h2 => pair_inj (of_decide_eq_true h) (vm_mem h1) (vm_mem h2)

def cvm (l : List (Nat × Str)) (scope : Scope) (i : Nat) (x : Str) : List (Nat × Str) := (i, x) :: l.filter fun p => scope.names.lookup p.2 == some .free

theorem lookup_filter {l : List (Nat × Str)} {f : Nat × Str → Bool} (hn : (l.map (·.1)).Nodup) {j : Nat} {y : Str} (h : (l.filter f).lookup j = some y) : l.lookup j = some y ∧ f (j, y) = true := by
  have hm := vm_mem h
  obtain ⟨h1, h2⟩ := List.mem_filter.mp hm
  refine ⟨?_, h2⟩
  clear h hm
  induction l with
  | nil => cases h1
  | cons p r ih =>
    obtain ⟨k, z⟩ := p
    simp only [List.map_cons, List.nodup_cons] at hn
    rcases List.mem_cons.mp h1 with e | h1
    · cases e; rw [List.lookup_cons, beq_self_eq_true]
    · have hk : (j == k) = false := by
        cases q : j == k with
        | false => rfl
        | true => exact absurd (by rw [← beq_iff_eq.mp q]; exact List.mem_map_of_mem (f := fun p : Nat × Str => p.1) h1) hn.1
      rw [List.lookup_cons, hk]
      exact ih hn.2 h1

def compChk (l : List (Nat × Str)) (sc scope : Scope) (i : Nat) (x : Str) : Bool :=
  decide ((scope.names.map (·.1)).Nodup) && scope.names.all (fun p => p.2 != .free || sc.names.lookup p.1 == some .cell) && (scope.names.lookup x == some .local || scope.names.lookup x == some .cell) &&
  decide ((l.map (·.1)).Nodup) && scope.kind == .function && sc.kind == .function && decide (((cvm l scope i x).map (·.2)).Nodup)

section
variable {W : Wd} (ok : WdOk W) {n : Nat} {sc : Scope} {l : List (Nat × Str)}
include ok

theorem ev_comp' {elt iter : Expr} {x : Str} {px pos : Pos} {ifs : List Expr} {scope : Scope} {it : ItT} {i : Nat} {c : TT} {e : ET}
    (chk : compChk l sc scope i x = true) (hi : ItOk W n sc (vmOf l) iter it)
    (hc : TstOk W n (relabelS scope sc) (vmOf (cvm l scope i x)) ifs c) (he : EvOk W n (relabelS scope sc) (vmOf (cvm l scope i x)) elt e)
    (hs : ∀ (env : Env) x, foldedSetIterable iter env x = pure x) :
    EvOk W n sc (vmOf l) (.ListComp elt [⟨.Name x px, iter, ifs, 0⟩] scope pos) (T.comp W.B it i c e) := by
  unfold compChk at chk
  simp only [Bool.and_eq_true, Bool.or_eq_true, decide_eq_true_eq, beq_iff_eq, List.all_eq_true] at chk
  obtain ⟨⟨⟨⟨⟨⟨c1, c2⟩, c3⟩, c4⟩, c5⟩, c6⟩, c7⟩ := chk
  refine ev_comp ok (vm' := vmOf (cvm l scope i x)) hi c5 c1 (fun y hy => ?_) c6 c3 ?_ (vinj_of (decide_eq_true c7)) (fun j y h hj => ?_) hc he hs
  · have := c2 _ hy
    simpa using this
  · show List.lookup i ((i, x) :: _) = some x
    rw [List.lookup_cons, beq_self_eq_true]
  · have h' : List.lookup j ((i, x) :: l.filter fun p => scope.names.lookup p.2 == some .free) = some y := h
    rw [List.lookup_cons] at h'
    have hji : (j == i) = false := by simpa using hj
    rw [hji] at h'
    obtain ⟨h1, h2⟩ := lookup_filter c4 h'
    exact ⟨h1, by simpa using h2⟩

theorem ex_asgcomp' {elt iter : Expr} {x y : Str} {px py pos spos : Pos} {ifs : List Expr} {scope : Scope} {it : ItT} {i k : Nat} {c : TT} {e : ET}
    (chk : compChk l sc scope i x = true) (hjo : VInj (vmOf l)) (hi : ItOk W n sc (vmOf l) iter it)
    (hc : TstOk W n (relabelS scope sc) (vmOf (cvm l scope i x)) ifs c) (he : EvOk W n (relabelS scope sc) (vmOf (cvm l scope i x)) elt e)
    (hs : ∀ (env : Env) x, foldedSetIterable iter env x = pure x) (hvk : vmOf l k = some y) (hly : sc.names.lookup y = some .local)
    (hsw : ∀ env : Env, env.scope = sc → swapsWith (.ListComp elt [⟨.Name x px, iter, ifs, 0⟩] scope pos) (some (.Name y py)) spos.line env = pure true) :
    ExOk W n sc (vmOf l) (.Assign [.Name y py] (.ListComp elt [⟨.Name x px, iter, ifs, 0⟩] scope pos) spos) (T.asg k (T.comp W.B it i c e)) := by
  unfold compChk at chk
  simp only [Bool.and_eq_true, Bool.or_eq_true, decide_eq_true_eq, beq_iff_eq, List.all_eq_true] at chk
  obtain ⟨⟨⟨⟨⟨⟨c1, c2⟩, c3⟩, c4⟩, c5⟩, c6⟩, c7⟩ := chk
  refine ex_asgcomp ok (vm' := vmOf (cvm l scope i x)) hjo hi c5 c1 (fun y hy => ?_) c6 c3 ?_ (vinj_of (decide_eq_true c7)) (fun j y h hj => ?_) hc he hs hvk hly hsw
  · have := c2 _ hy
    simpa using this
  · show List.lookup i ((i, x) :: _) = some x
    rw [List.lookup_cons, beq_self_eq_true]
  · have h' : List.lookup j ((i, x) :: l.filter fun p => scope.names.lookup p.2 == some .free) = some y := h
    rw [List.lookup_cons] at h'
    have hji : (j == i) = false := by simpa using hj
    rw [hji] at h'
    obtain ⟨h1, h2⟩ := lookup_filter c4 h'
    exact ⟨h1, by simpa using h2⟩
end

/-! what is not reached; minus -/
namespace T
def bad : ET := fun _ _ _ => False
def sbad : ST := fun _ _ _ => False
def neg (f : ET) : ET := fun loc h Q => f loc h fun v h1 => ∃ x, v = .int x ∧ Q (.int (-x)) h1
def ekw (t : EsT) (k : ET) : EsT := fun loc h Q => t loc h fun vs h1 => k loc h1 fun v h2 => Q (vs ++ [v]) h2
end T
section
variable {W : Wd} (ok : WdOk W) {n : Nat} {sc : Scope} {vm : VM}
theorem ev_bad {e : Expr} : EvOk W n sc vm e T.bad := fun _ _ _ _ _ _ _ _ q => q.elim
theorem ex_bad {e : Stmt} : ExOk W n sc vm e T.sbad := fun _ _ _ _ _ _ _ _ q => q.elim
theorem bk_bad {e : List Stmt} : BkOk W n sc vm e T.sbad := fun _ _ _ _ _ _ _ _ q => q.elim
include ok
theorem ev_neg {e : Expr} {f : ET} {pos : Pos} (he : EvOk W n sc vm e f) : EvOk W n sc vm (.UnaryOp .USub e pos) (T.neg f) := by
  intro env A E s loc h Q st q
  refine wpAny_UnaryOp (he.use ok st q fun v h1 hp1 tk1 q1 st1 S1 => ?_)
  obtain ⟨x, hx, q2⟩ := q1
  obtain ⟨t, rfl⟩ := er_int hx
  exact PyProof.Rows.neg_int ⟨h1, hp1, tk1 + 1, rfl, S1, q2⟩
end

structure DefAt (W : Wd) (x : Str) (f : Addr) : Prop where
  g : GlobAt W x (.ref f)
  obj : ∃ o fd, W.h₀.get? f = some o ∧ o.data = .func fd

section
variable {W : Wd} (ok : WdOk W) {n : Nat} {sc : Scope} {vm : VM}
include ok
theorem ev_def {x : Str} {f : Addr} {np pos : Pos} {e : Expr} {es : List Expr} {t : EsT} {p} (D : DefAt W x f) (hx : sc.names.lookup x = some .globalImplicit)
    (hd : (x == ("__debug__" : Str)) = false) (hes : EsOk W n sc vm (e :: es) t) (hp : FOk W n (.ref f) p)
    (hs : ∀ env, starEach (e :: es) env = (false, eval e env) :: starEach es env) :
    EvOk W n sc vm (.Call (.Name x np) (e :: es) [] pos) (T.call t p) := by
  obtain ⟨o, fd, ho, hod⟩ := D.obj
  exact ev_callF ok D.g hx hd ho hod hes hp hs
theorem ev_defK {x : Str} {f : Addr} {np pos kp : Pos} {e ke : Expr} {es : List Expr} {kn : Str} {t : EsT} {kt : ET} {p} (D : DefAt W x f) (hx : sc.names.lookup x = some .globalImplicit)
    (hd : (x == ("__debug__" : Str)) = false) (hes : EsOk W n sc vm (e :: es) t) (hk : EvOk W n sc vm ke kt) (hp : FkOk W n (.ref f) kn p)
    (hs : ∀ env, starEach (e :: es) env = (false, eval e env) :: starEach es env) :
    EvOk W n sc vm (.Call (.Name x np) (e :: es) [⟨some kn, ke, kp⟩] pos) (T.call (T.ekw t kt) p) := by
  obtain ⟨o, fd, ho, hod⟩ := D.obj
  exact ev_callK ok D.g hx hd ho hod hes hk hp hs
theorem ev_defV {y : Str} {i : Nat} {x : Str} {f : Addr} {np pos : Pos} {e : Expr} {es : List Expr} {t : EsT} {p} (D : DefAt W y f) (hv : EvOk W n sc vm (.Name x np) (T.var i)) (hes : EsOk W n sc vm (e :: es) t) (hp : FOk W n (.ref f) p)
    (hs : ∀ env, starEach (e :: es) env = (false, eval e env) :: starEach es env) :
    EvOk W n sc vm (.Call (.Name x np) (e :: es) [] pos) (T.callv i f t p) := by
  obtain ⟨o, fd, ho, hod⟩ := D.obj
  exact ev_callV ok hv ho hod hes hp hs
end

/-! the program's text -/
def bodyAt (p : Program) (k : Nat) : List Stmt := match p.main.body[k]? with
  | some (.FunctionDef _ _ b _ _ _ _ _ _ _) => b
  | _ => []
def scopeAt (p : Program) (k : Nat) : Scope := match p.main.body[k]? with
  | some (.FunctionDef _ _ _ _ _ _ s _ _ _) => s
  | _ => default
end Mini

/-! MiniK -/
namespace Mini

def Ext (h h' : AH) : Prop := ∀ a c, h a = some c → h' a = some c
theorem Ext.refl (h : AH) : Ext h h := fun _ _ e => e
theorem Ext.trans {a b c : AH} (x : Ext a b) (y : Ext b c) : Ext a c := fun p q e => y p q (x p q e)
theorem Ext.new {h : AH} {a : Addr} {c : Cell} (ha : h a = none) : Ext h (upd h a c) := fun p q e => by
  by_cases hp : p = a
  · subst hp; rw [ha] at e; cases e
  · rw [upd_ne hp]; exact e
theorem Ext.set {h h' : AH} {a : Addr} {c : Cell} (x : Ext h h') (ha : h a = none) : Ext h (upd h' a c) := fun p q e => by
  by_cases hp : p = a
  · subst hp; rw [ha] at e; cases e
  · rw [upd_ne hp]; exact x p q e
theorem Ext.none {h h' : AH} (x : Ext h h') {a : Addr} (ha : h' a = none) : h a = none := by
  cases q : h a with
  | none => rfl
  | some c => rw [x a c q] at ha; cases ha
theorem ne_of {h : AH} {a b : Addr} {c : Cell} (ha : h a = some c) (hb : h b = none) : a ≠ b := fun q => by rw [q, hb] at ha; cases ha

def Incr (is : List Int) : Prop := ∀ i j (hi : i < is.length) (hj : j < is.length), i ≤ j → is[i] ≤ is[j]
def SIncr (is : List Int) : Prop := is.Pairwise (· < ·)
theorem SIncr.incr {is : List Int} (h : SIncr is) : Incr is := fun i j hi hj hij => by
  rcases Nat.lt_or_eq_of_le hij with q | q
  · exact Int.le_of_lt (List.pairwise_iff_getElem.mp h i j hi hj q)
  · subst q; exact Int.le_refl _

theorem getI {is : List Int} {i : Nat} (h : i < is.length) : (is.map AV.int)[i]? = some (.int is[i]) := by
  rw [List.getElem?_map, List.getElem?_eq_getElem h]; rfl
theorem rangeL_get {lo st : Int} {n i : Nat} (h : i < n) : ((rangeL lo st n).map AV.int)[i]? = some (.int (lo + (i : Int) * st)) := by simp [rangeL, h]
theorem rangeL_end {lo st : Int} {n i : Nat} (h : n ≤ i) : ((rangeL lo st n).map AV.int)[i]? = none := by
  rw [List.getElem?_eq_none_iff]; simp [rangeL]; exact h
theorem rangeL_len {lo st : Int} {n : Nat} : ((rangeL lo st n).map AV.int).length = n := by simp [rangeL]
theorem items_list {h : AH} {a : Addr} {xs : List AV} (e : h a = some (.list xs)) : (Src.list a).items h = some xs := by simp only [Src.items, e]

/-- a comprehension whose test and element change nothing -/
theorem comp_pure {B : Addr} {src : Src} {h1 : AH} {xs : List AV} {loc : Loc} {i : Nat} {c : TT} {e : ET} {Q : AV → AH → Prop} {p : AV → Bool} {g : AV → AV}
    (hs : src.items h1 = some xs) (hl : xs.length ≤ 2 ^ 19)
    (he : ∀ v, v ∈ xs → ∀ h2 : AH, Ext h1 h2 → (∀ Q' : Bool → AH → Prop, Q' (p v) h2 → c (upd loc i v) h2 Q') ∧ (p v = true → ∀ Q' : AV → AH → Prop, Q' (g v) h2 → e (upd loc i v) h2 Q'))
    (hQ : ∀ D, B ≤ D → h1 D = none → Q (.ref D) (upd h1 D (.list ((xs.filter p).map g)))) :
    ∀ D, B ≤ D → h1 D = none → ∃ (I : Nat → List AV → AH → Prop) (N : Nat), I 0 [] (upd h1 D (.list [])) ∧ ∀ k ys h, I k ys h → h D = some (.list ys) ∧ ys.length < 2 ^ 20 ∧ ∃ xs, src.items h = some xs ∧ xs.length ≤ N ∧
      match xs[k]? with
      | Option.none => Q (.ref D) h
      | some v => c (upd loc i v) h fun b h2 => if b then e (upd loc i v) h2 fun y h3 => h3 D = some (.list ys) ∧ I (k + 1) (ys ++ [y]) (upd h3 D (.list (ys ++ [y]))) else I (k + 1) ys h2 := by
  intro D hB hD
  have hitems : ∀ ys, src.items (upd h1 D (.list ys)) = some xs := fun ys => by
    cases src with
    | list a =>
      simp only [Src.items] at hs ⊢
      have : a ≠ D := fun q => by rw [q, hD] at hs; cases hs
      rw [upd_ne this]; exact hs
    | tup a =>
      simp only [Src.items] at hs ⊢
      have : a ≠ D := fun q => by rw [q, hD] at hs; cases hs
      rw [upd_ne this]; exact hs
    | range _ _ _ => exact hs
  have hupd : ∀ ys zs, upd (upd h1 D (.list ys)) D (.list zs) = upd h1 D (.list zs) := fun ys zs => by
    funext b
    by_cases hb : b = D
    · subst hb; rw [upd_same, upd_same]
    · rw [upd_ne hb, upd_ne hb, upd_ne hb]
  refine ⟨fun k ys h => h = upd h1 D (.list ys) ∧ k ≤ xs.length ∧ ys = ((xs.take k).filter p).map g, xs.length, ⟨rfl, Nat.zero_le _, by simp⟩, ?_⟩
  rintro k _ _ ⟨rfl, hk, rfl⟩
  have hlen : (((xs.take k).filter p).map g).length < 2 ^ 20 := by
    rw [List.length_map]
    have h1 := List.length_filter_le p (xs.take k)
    rw [List.length_take] at h1
    omega
  refine ⟨upd_same .., hlen, xs, hitems _, Nat.le_refl _, ?_⟩
  cases q : xs[k]? with
  | none =>
    rw [List.getElem?_eq_none_iff] at q
    have : xs.take k = xs := List.take_of_length_le (by omega)
    rw [this]; exact hQ D hB hD
  | some v =>
    have hlt : k < xs.length := by
      rcases Nat.lt_or_ge k xs.length with r | r
      · exact r
      · rw [List.getElem?_eq_none r] at q; cases q
    have hv : v ∈ xs := List.mem_of_getElem? q
    have hstep : xs.take (k + 1) = xs.take k ++ [v] := by
      rw [List.take_add_one, q]; rfl
    obtain ⟨hc, hee⟩ := he v hv (upd h1 D (.list (((xs.take k).filter p).map g))) (Ext.new hD)
    refine hc _ ?_
    cases hp : p v with
    | true =>
      rw [if_pos rfl]
      refine hee hp _ ⟨upd_same .., hupd _ _, hlt, ?_⟩
      rw [hstep, List.filter_append]; simp [hp]
    | false =>
      rw [if_neg (by decide)]
      refine ⟨rfl, hlt, ?_⟩
      rw [hstep, List.filter_append]; simp [hp]

theorem T.yes_ok {loc : Loc} {h : AH} {Q : Bool → AH → Prop} (q : Q true h) : T.yes loc h Q := q

theorem comp_map {B : Addr} {src : Src} {h1 : AH} {xs : List AV} {loc : Loc} {i : Nat} {e : ET} {Q : AV → AH → Prop} {g : AV → AV}
    (hs : src.items h1 = some xs) (hl : xs.length ≤ 2 ^ 19)
    (he : ∀ v, v ∈ xs → ∀ h2 : AH, Ext h1 h2 → ∀ Q' : AV → AH → Prop, Q' (g v) h2 → e (upd loc i v) h2 Q')
    (hQ : ∀ D, B ≤ D → h1 D = none → Q (.ref D) (upd h1 D (.list (xs.map g)))) :
    ∀ D, B ≤ D → h1 D = none → ∃ (I : Nat → List AV → AH → Prop) (N : Nat), I 0 [] (upd h1 D (.list [])) ∧ ∀ k ys h, I k ys h → h D = some (.list ys) ∧ ys.length < 2 ^ 20 ∧ ∃ xs, src.items h = some xs ∧ xs.length ≤ N ∧
      match xs[k]? with
      | Option.none => Q (.ref D) h
      | some v => T.yes (upd loc i v) h fun b h2 => if b then e (upd loc i v) h2 fun y h3 => h3 D = some (.list ys) ∧ I (k + 1) (ys ++ [y]) (upd h3 D (.list (ys ++ [y]))) else I (k + 1) ys h2 :=
  comp_pure (p := fun _ => true) (g := g) hs hl (fun v hv h2 hx => ⟨fun Q' q => q, fun _ => he v hv h2 hx⟩) (fun D hB hD => by
    have : xs.filter (fun _ => true) = xs := List.filter_eq_self.mpr (fun _ _ => rfl)
    rw [this]; exact hQ D hB hD)

/-- a new item in its place keeps a rising list rising -/
theorem ins_sorted {ms : List Int} {v : Int} {p : Nat} (h : SIncr ms) (hp : p ≤ ms.length) (h1 : ∀ i (hi : i < ms.length), i < p → ms[i] < v) (h2 : ∀ i (hi : i < ms.length), p ≤ i → v < ms[i]) : SIncr (ms.take p ++ v :: ms.drop p) := by
  unfold SIncr at *
  rw [List.pairwise_append]
  refine ⟨h.sublist (List.take_sublist _ _), ?_, ?_⟩
  · rw [List.pairwise_cons]
    refine ⟨fun y hy => ?_, h.sublist (List.drop_sublist _ _)⟩
    obtain ⟨i, hi, rfl⟩ := List.getElem_of_mem hy
    rw [List.getElem_drop]
    exact h2 _ _ (by omega)
  · intro x hx y hy
    obtain ⟨i, hi, rfl⟩ := List.getElem_of_mem hx
    rw [List.length_take] at hi
    rw [List.getElem_take]
    have hxv := h1 i (by omega) (by omega)
    rcases List.mem_cons.mp hy with rfl | hy
    · exact hxv
    · obtain ⟨j, hj, rfl⟩ := List.getElem_of_mem hy
      rw [List.getElem_drop]
      rw [List.length_drop] at hj
      exact Int.lt_trans hxv (h2 _ (by omega) (by omega))
theorem mem_ins {ms : List Int} {v w : Int} {p : Nat} : w ∈ ms.take p ++ v :: ms.drop p ↔ w = v ∨ w ∈ ms := by
  rw [List.mem_append, List.mem_cons]
  constructor
  · rintro (h | h | h)
    · exact .inr (List.mem_of_mem_take h)
    · exact .inl h
    · exact .inr (List.mem_of_mem_drop h)
  · rintro (h | h)
    · exact .inr (.inl h)
    · rw [← List.take_append_drop p ms, List.mem_append] at h
      rcases h with h | h
      · exact .inl h
      · exact .inr (.inr h)
end Mini

/-! MiniL -/
namespace Mini

/-! the transformers, entered one at a time -/
section
variable {B : Addr} {loc : Loc} {h : AH} {i : Nat}
theorem i_seq {a b : ST} {Q : Fl → Loc → AH → Prop} (q : a loc h fun f loc1 h1 => match f with | .next => b loc1 h1 Q | f => Q f loc1 h1) : T.seq a b loc h Q := q
theorem i_asg {e : ET} {Q : Fl → Loc → AH → Prop} (q : e loc h fun v h1 => Q .next (upd loc i v) h1) : T.asg i e loc h Q := q
theorem i_ret {e : ET} {Q : Fl → Loc → AH → Prop} (q : e loc h fun v h1 => Q (.ret v) loc h1) : T.ret e loc h Q := q
theorem i_expr {e : ET} {Q : Fl → Loc → AH → Prop} (q : e loc h fun v h1 => Q .next loc h1) : T.expr e loc h Q := q
theorem i_skip {Q : Fl → Loc → AH → Prop} (q : Q .next loc h) : T.skip loc h Q := q
theorem i_ife {t : TT} {a b : ST} {Q : Fl → Loc → AH → Prop} (q : t loc h fun c h1 => if c then a loc h1 Q else b loc h1 Q) : T.ife t a b loc h Q := q
theorem i_var {v : AV} {Q : AV → AH → Prop} (hv : loc i = some v) (q : Q v h) : T.var i loc h Q := ⟨v, hv, q⟩
theorem i_int {k : Int} {Q : AV → AH → Prop} (q : Q (.int k) h) : T.int k loc h Q := q
theorem i_bin {p : P.Op} {a b : ET} {Q : AV → AH → Prop} (q : a loc h fun x h1 => b loc h1 fun y h2 => p x y h2 Q) : T.bin p a b loc h Q := q
theorem i_cmp {p : P.Cm} {a b : ET} {Q : Bool → AH → Prop} (q : a loc h fun x h1 => b loc h1 fun y h2 => p x y h2 Q) : T.cmp p a b loc h Q := q
theorem i_add {x y : Int} {Q : AV → AH → Prop} (q : Q (.int (x + y)) h) : P.add (.int x) (.int y) h Q := ⟨x, y, rfl, rfl, q⟩
theorem i_sub {x y : Int} {Q : AV → AH → Prop} (q : Q (.int (x - y)) h) : P.sub (.int x) (.int y) h Q := ⟨x, y, rfl, rfl, q⟩
theorem i_call {t : EsT} {p : F.Fn} {Q : AV → AH → Prop} (q : t loc h fun vs h1 => p vs h1 Q) : T.call t p loc h Q := q
theorem i_nil {Q : List AV → AH → Prop} (q : Q [] h) : T.enil loc h Q := q
theorem i_cons {f : ET} {g : EsT} {Q : List AV → AH → Prop} (q : f loc h fun v h1 => g loc h1 fun vs h2 => Q (v :: vs) h2) : T.econs f g loc h Q := q
theorem i_list {t : EsT} {Q : AV → AH → Prop} (q : t loc h fun vs h1 => vs.length ≤ 2 ^ 20 ∧ New B h1 (.list vs) Q) : T.list B t loc h Q := q
theorem i_itL {a : Addr} {xs : List AV} {Q : Src → AH → Prop} (hv : loc i = some (.ref a)) (ha : h a = some (.list xs)) (q : Q (.list a) h) : T.itL (T.var i) loc h Q := ⟨_, hv, a, xs, rfl, ha, q⟩
theorem i_itR1 {f : EsT} {Q : Src → AH → Prop} (q : f loc h fun vs h1 => ∃ b : Int, vs = [.int b] ∧ T.small b ∧ Q (.range 0 1 b.toNat) h1) : T.itR1 f loc h Q := q
theorem i_len {l : Addr} {xs : List AV} {Q : AV → AH → Prop} (hi : loc i = some (.ref l)) (hl : h l = some (.list xs)) (hs : xs.length < 2 ^ 24) (q : Q (.int xs.length) h) :
    T.call (T.econs (T.var i) T.enil) F.len loc h Q := ⟨_, hi, l, xs, rfl, hl, hs, q⟩
theorem i_idx {l : Addr} {xs : List AV} {k : Nat} {v : AV} {Q : AV → AH → Prop} (hi : loc i = some (.ref l)) (hl : h l = some (.list xs)) (hk : k < 2 ^ 62) (hx : xs[k]? = some v) (q : Q v h) :
    T.idx (T.var i) (T.int k) loc h Q := ⟨_, hi, l, xs, k, v, rfl, rfl, hl, by omega, by omega, hx, q⟩
theorem i_comp {it : ItT} {c : TT} {e : ET} {Q : AV → AH → Prop} (q : it loc h fun src h1 => ∀ D, B ≤ D → h1 D = none →
  ∃ (I : Nat → List AV → AH → Prop) (N : Nat), I 0 [] (upd h1 D (.list [])) ∧ ∀ k ys h, I k ys h → h D = some (.list ys) ∧ ys.length < 2 ^ 20 ∧ ∃ xs, src.items h = some xs ∧ xs.length ≤ N ∧
    match xs[k]? with
    | Option.none => Q (.ref D) h
    | some v => c (upd loc i v) h fun b h2 => if b then e (upd loc i v) h2 fun y h3 => h3 D = some (.list ys) ∧ I (k + 1) (ys ++ [y]) (upd h3 D (.list (ys ++ [y]))) else I (k + 1) ys h2) : T.comp B it i c e loc h Q := q
end
end Mini

/-! MiniM -/
namespace Mini

theorem cells_fresh {W : Wd} {h : AH} {hp : Heap} (Rc : ∀ a c, h a = some c → CellAt W hp a c) {a : Addr} (ha : hp.get? a = Option.none) : h a = Option.none := by
  cases q : h a with
  | none => rfl
  | some c =>
    have := Rc a c q
    cases c with
    | list xs => obtain ⟨vs, ⟨o, ho⟩, _⟩ := this; rw [ha] at ho; cases ho
    | tup xs => obtain ⟨vs, ⟨o, ho⟩, _⟩ := this; rw [ha] at ho; cases ho
    | idict es => obtain ⟨kvs, ⟨o, es, ep, ho, r⟩, e⟩ := this; rw [ha] at ho; cases ho
    | tdict es => obtain ⟨kvs, ⟨o, es, ep, ho, r⟩, e⟩ := this; rw [ha] at ho; cases ho

/-- the call at the top: the given heap has no witness of its own -/
theorem fn_top {W : Wd} (ok : WdOk W) {n : Nat} {f : Addr} {fd : FuncData} {body : List Stmt} {vm : VM} {t : ST} {names : List Str} (FA : FnAt W f fd body) (hb : BkOk W n fd.scope vm body t)
    (hvm : ∀ i x, vm i = some x → ∀ y, names[i]? = some y → x = y) (hnd : names.Nodup) (hkind : ∀ x ∈ names, fd.scope.names.lookup x = some .local ∨ fd.scope.names.lookup x = some .cell)
    {A : Around} {E : Value → Shared → Prop} {s : Shared} {args : Args} {vals : List Value} {h : AH} {Q : AV → AH → Prop} (cx : Cx (n + 1) A) (Rc : ∀ a c, h a = some c → CellAt W s.heap a c) (Rb : ∀ b o, W.h₀.get? b = some o → s.heap.get? b = some o) (Rs : W.B ≤ s.heap.objs.size)
    (hbind : ∀ s' : Shared, (∀ b o, W.h₀.get? b = some o → s'.heap.get? b = some o) → BindsTo s' fd args (names.zip vals)) (hlen : vals.length = names.length)
    (q : t (fun i => (vals.map er)[i]?) h (FnRet Q)) : codeAny (model W.prog W.w) A (.call (.ref f) args) (fun r s' => match r with | .ok (.ret v) => Res W h s Q v s' | .ok _ => False | .error e => E e s') s := by
  obtain ⟨o, ho, hd⟩ := FA.obj
  refine codeAny_call_function (by have := cx.dp; omega) (Rb _ _ ho) hd FA.cor FA.gen FA.bdy (FA.code.keeps Rb) (hbind s Rb _ _ _ _ ?_)
  have hfst : (names.zip vals).map (·.1) = names := List.map_fst_zip (by omega)
  rw [FA.clo, FA.glo, FA.blt]
  refine wpAny_newFunctionEnv_cells FA.knd (fun x hx => ?_) (fun env henv s' X => ?_)
  · have hm : x.1 ∈ names := by rw [← hfst]; exact List.mem_map_of_mem hx
    rcases hkind x.1 hm with e | e
    · exact .inl e
    · exact .inr ⟨e, cellsFrom_some _ _ _ (.inl e)⟩
  have keep := X.toInCall.keep
  refine ⟨(ok.nolimit.keeps Rb).keeps keep, codeAny_func ?_⟩
  obtain ⟨h1, tk1, rfl, -⟩ := X.done
  have hscope : env.scope = fd.scope := by rw [henv]; rfl
  have hloc : env.locals = s.heap.objs.size := by rw [henv]; rfl
  have hcells : env.cells = cellsFrom (s.heap.objs.size + 1) fd.scope.names [] := by rw [henv]; rfl
  have above : ∀ x c, env.cells.lookup x = some c → s.heap.objs.size < c := fun x c e => hloc ▸ X.above x c (mem_of_lookup e)
  have hnone : ∀ b, s.heap.objs.size ≤ b → h b = none := fun b hb' => by
    refine cells_fresh Rc ?_
    cases q : s.heap.get? b with
    | none => rfl
    | some o => exact absurd (Heap.lt_size q) (Nat.not_lt.mpr hb')
  have R1 : Rel W h h1 := by
    obtain ⟨oL, hoL⟩ := ns_some X.toInCall.ns
    exact ⟨fun a c e => (Rc a c e).mono (fun o => keep a o) (fun b o e _ => keep b o e), fun b o e => keep b o (Rb b o e), ⟨_, oL, by rw [hloc]; exact Rs, by rw [hloc]; exact hnone _ (Nat.le_refl _), hoL⟩⟩
  have inb : ∀ i x av, vm i = some x → (vals.map er)[i]? = some av → ∃ v, (x, v) ∈ names.zip vals ∧ er v = av := by
    intro i x av h1 h2
    rw [List.getElem?_map] at h2
    obtain ⟨v, hv, rfl⟩ := Option.map_eq_some_iff.mp h2
    have hi : i < vals.length := by
      rcases Nat.lt_or_ge i vals.length with q | q
      · exact q
      · rw [List.getElem?_eq_none q] at hv; cases hv
    have hn : names[i]? = some names[i] := List.getElem?_eq_getElem (by omega)
    have := hvm i x h1 _ hn
    refine ⟨v, ?_, rfl⟩
    have hz : (names.zip vals)[i]? = some (names[i], v) := by
      rw [List.getElem?_zip_eq_some]; exact ⟨hn, hv⟩
    rw [this]; exact List.mem_of_getElem? hz
  have F : Frm W env vm (fun i => (vals.map er)[i]?) h h1 := by
    refine ⟨by rw [hscope]; exact FA.knd, by rw [henv]; rfl, by rw [henv]; rfl, by rw [hloc]; exact Rs, by rw [hloc]; exact hnone _ (Nat.le_refl _), ⟨_, X.toInCall.ns, fun i x av e1 e2 e3 => ?_⟩, fun x c e => ?_, fun i x av e1 e2 e3 => ?_, fun x y c e1 e2 => ?_, fun x e => ?_⟩
    · obtain ⟨v, hv, hev⟩ := inb i x av e1 e3
      exact ⟨v, bindL_mem e2 (by rw [hfst]; exact hnd) hv, hev⟩
    · have := above x c e
      exact ⟨Nat.le_trans Rs (Nat.le_of_lt this), hnone c (Nat.le_of_lt this), by rw [hloc]; exact Nat.ne_of_gt this, _, X.cell x c e⟩
    · obtain ⟨v, hv, hev⟩ := inb i x av e1 e3
      have hc : env.kindOf x = some .cell := by
        rcases e2 with e2 | e2
        · exact e2
        · have hm : x ∈ names := by rw [← hfst]; exact List.mem_map_of_mem hv
          unfold Env.kindOf at e2
          rw [hscope] at e2
          rcases hkind x hm with e | e <;> rw [e] at e2 <;> cases e2
      have hs : (env.cells.lookup x).isSome = true := by
        rw [hcells]; exact cellsFrom_some _ _ _ (.inl (by unfold Env.kindOf at hc; rw [hscope] at hc; exact hc))
      obtain ⟨c, hc'⟩ := Option.isSome_iff_exists.mp hs
      refine ⟨c, v, hc', ?_, hev⟩
      have := X.cell x c hc'
      rw [bindC_mem hc (by rw [hfst]; exact hnd) hv] at this
      exact this
    · exact name_of_addr X.apart (mem_of_lookup e1) (mem_of_lookup e2)
    · have hs : (env.cells.lookup x).isSome = true := by
        rw [hcells]; exact cellsFrom_some _ _ _ (.inl (by unfold Env.kindOf at e; rw [hscope] at e; exact e))
      exact Option.isSome_iff_exists.mp hs
  have st : St W n fd.scope vm env (A.deeper env) (fun i => (vals.map er)[i]?) h { s with heap := h1, toks := tk1 } := ⟨hscope, cx.deeper env, F, R1⟩
  refine wpAny_mono (hb env (A.deeper env) (fun _ _ => False) _ _ h _ st q) ?_ fun _ _ x => x.elim
  rintro fl s2 ⟨loc2, h2, hp2, tk2, rfl, S2, F2, q2⟩
  have hS : Step W h s.heap h2 hp2 := by
    refine ⟨S2.cells, fun b o e c => ?_, fun b e1 e2 => ?_, S2.dom⟩
    · refine S2.keep b o (keep b o e) ?_ c
      have hlt := Heap.lt_size e
      rintro (q | ⟨x, q⟩)
      · rw [q, hloc] at hlt; exact Nat.lt_irrefl _ hlt
      · exact Nat.lt_irrefl _ (Nat.lt_trans (above x b q) hlt)
    · obtain ⟨e3, e4⟩ := S2.fresh b e1 e2
      refine ⟨?_, e4⟩
      cases q : s.heap.get? b with
      | none => rfl
      | some o => have := keep b o q; rw [e3] at this; cases this
  cases fl with
  | ret v => exact ⟨h2, hp2, tk2, rfl, hS, q2⟩
  | next => exact ⟨h2, hp2, tk2, rfl, hS, q2⟩
  | brk => exact ⟨h2, hp2, tk2, rfl, hS, q2⟩
  | cont => exact ⟨h2, hp2, tk2, rfl, hS, q2⟩

/-! what the written part of the heap says -/
section
variable {K : Frag} {prog : Program} {w : World} {h₀ : Heap} {B : Addr}
theorem glob_def {p : Program} {loose : List Str} {mean : ExcName → Option Value} {mg mb : Str → Option Value} (X : K.In h₀) (T : Top p loose mean mg mb h₀) {x : Str} {v : Value} (e : nsIn K mainGlobals x = some (some v)) :
    GlobAt ⟨prog, w, h₀, B⟩ x v := fun hp k => ⟨mg, mb, (T.keeps k).g, (T.keeps k).b, .inl (mg_of X T.g e)⟩
theorem glob_blt {p : Program} {loose : List Str} {mean : ExcName → Option Value} {mg mb : Str → Option Value} (X : K.In h₀) (T : Top p loose mean mg mb h₀) {x : Str} {v : Value} (e : nsIn K mainGlobals x = some none)
    (hv : bootBuiltins x = some v) (hn : x ≠ "__name__") : GlobAt ⟨prog, w, h₀, B⟩ x v := fun hp k => ⟨mg, mb, (T.keeps k).g, (T.keeps k).b, .inr ⟨mg_none_of X T.g e, (T.builtins x hn).trans hv⟩⟩

/-- a def's record in the written part -/
structure FnIn (K : Frag) (f : Addr) (fd : FuncData) (body : List Stmt) (sc : Scope) : Prop where
  obj : ∃ c d sl, K.lookup f = some ⟨c, d, .func fd, sl⟩
  code : codeIn K fd.code fd.qualname = true
  clo : fd.closure = []
  glo : fd.globals = mainGlobals
  blt : fd.builtins = builtinsNs
  bdy : fd.body = .stmts body
  scp : fd.scope = sc
theorem FnIn.at {f : Addr} {fd : FuncData} {body : List Stmt} {sc : Scope} (F : FnIn K f fd body sc) (X : K.In h₀) (knd : sc.kind = .function) (cor : sc.isCoroutine = false) (gen : sc.isGenerator = false) : FnAt ⟨prog, w, h₀, B⟩ f fd body := by
  obtain ⟨c, d, sl, e⟩ := F.obj
  exact ⟨⟨_, X _ _ e, rfl⟩, codeRec_of X F.code, F.clo, F.glo, F.blt, F.bdy, by rw [F.scp]; exact knd, by rw [F.scp]; exact cor, by rw [F.scp]; exact gen⟩
theorem FnIn.def {p : Program} {loose : List Str} {mean : ExcName → Option Value} {mg mb : Str → Option Value} {f : Addr} {fd : FuncData} {body : List Stmt} {sc : Scope} {x : Str} (F : FnIn K f fd body sc) (X : K.In h₀) (T : Top p loose mean mg mb h₀) (e : nsIn K mainGlobals x = some (some (.ref f))) :
    DefAt ⟨prog, w, h₀, B⟩ x f := by
  obtain ⟨c, d, sl, e2⟩ := F.obj
  exact ⟨glob_def X T e, _, _, X _ _ e2, rfl⟩
theorem binds_peek {fd : FuncData} {args : Args} {binds : List (Str × Value)} (X : K.In h₀) (e : ∀ S : Setting, peek K S (bindArgs fd args) = some binds) (s : Shared) (k : ∀ b o, h₀.get? b = some o → s.heap.get? b = some o) : BindsTo s fd args binds :=
  fun M A E Q q => Looks.of_peek (X.keeps k) (e _) A Q E s (fun _ _ e => e) q
end

theorem vm_names {l : List (Nat × Str)} {names : List Str} (h : (l.all fun p => match names[p.1]? with | some y => p.2 == y | none => true) = true) : ∀ i x, vmOf l i = some x → ∀ y, names[i]? = some y → x = y := by
  intro i x h1 y h2
  have := List.all_eq_true.mp h _ (vm_mem h1)
  dsimp only at this
  rw [h2] at this
  exact beq_iff_eq.mp this

def fdOf (K : Frag) (a : Addr) : FuncData := match K.lookup a with
  | some ⟨_, _, .func fd, _⟩ => fd
  | _ => default
end Mini

/-! MiniN -/
namespace Mini

/-! dicts whose keys are ints -/
def lookD (es : List (Int × AV)) (k : Int) : Option AV := (es.find? fun p => decide (p.1 = k)).map (·.2)
def storeD (es : List (Int × AV)) (k : Int) (v : AV) : List (Int × AV) :=
  if (lookD es k).isSome then es.map (fun p => if p.1 = k then (p.1, v) else p) else es ++ [(k, v)]
def dropD (es : List (Int × AV)) (k : Int) : List (Int × AV) := es.filter fun p => decide (p.1 ≠ k)

theorem lookD_er (kvs : List (Int × Value)) (k : Int) : lookD (kvs.map fun p => (p.1, er p.2)) k = (valueAt kvs k).map er := by
  unfold lookD valueAt
  induction kvs with
  | nil => rfl
  | cons p r ih =>
    rw [List.map_cons, List.find?_cons, List.find?_cons]
    by_cases h : p.1 = k
    · simp [h]
    · simp only [h, decide_false]; exact ih
theorem storeD_er (kvs : List (Int × Value)) (k : Int) (v : Value) : storeD (kvs.map fun p => (p.1, er p.2)) k (er v) = (stored kvs k v).map fun p => (p.1, er p.2) := by
  unfold storeD stored
  rw [lookD_er, Option.isSome_map, valueAt_isSome_eq_any]
  split
  · rw [List.map_map, List.map_map]
    refine List.map_congr_left fun p _ => ?_
    simp only [Function.comp]
    split <;> rfl
  · rw [List.map_append]; rfl
theorem dropD_er (kvs : List (Int × Value)) (k : Int) : dropD (kvs.map fun p => (p.1, er p.2)) k = (without kvs k).map fun p => (p.1, er p.2) := by
  unfold dropD without
  rw [List.filter_map]; rfl

theorem dict_notTup {hp : Heap} {c : Addr} {prog : Program} {w : World} {kvs : List (Int × Value)} (n : hp.DictOf (intKind prog w) c kvs) : ∀ o, hp.get? c = some o → ¬ IsTupO o := by
  obtain ⟨o, es, ep, h1, _, h2, _⟩ := n
  rintro o' e ⟨_, xs, k, hd⟩
  rw [h1] at e; cases e; rw [h2] at hd; cases hd

namespace T
def dict0I (B : Addr) : ET := fun _ h Q => New B h (.idict []) Q
def idxD (o i : ET) : ET := fun loc h Q => o loc h fun a h1 => i loc h1 fun k h2 => ∃ l es x v, a = .ref l ∧ k = .int x ∧ h2 l = some (.idict es) ∧ lookD es x = some v ∧ Q v h2
def setidxD (B : Addr) (o i e : ET) : ST := fun loc h Q => e loc h fun v h1 => o loc h1 fun a h2 => i loc h2 fun k h3 => ∃ l es x, a = .ref l ∧ k = .int x ∧ h3 l = some (.idict es) ∧ B ≤ l ∧ es.length ≤ 2 ^ 20 ∧ Q .next loc (upd h3 l (.idict (storeD es x v)))
def methD (f : ET) (t : EsT) (p : F.Fn) : ET := fun loc h Q => f loc h fun a h1 => (∃ l es, a = .ref l ∧ h1 l = some (.idict es)) ∧ t loc h1 fun vs h2 => p (a :: vs) h2 Q
end T
namespace F
def dget : Fn := fun avs h Q => ∃ l es x, avs = [.ref l, .int x] ∧ h l = some (.idict es) ∧ Q ((lookD es x).getD .none) h
def dpop (B : Addr) : Fn := fun avs h Q => ∃ l es x v, avs = [.ref l, .int x] ∧ h l = some (.idict es) ∧ B ≤ l ∧ es.length ≤ 2 ^ 20 ∧ lookD es x = some v ∧ Q v (upd h l (.idict (dropD es x)))
def sortedD (B : Addr) : Fn := fun avs h Q => ∃ l es, avs = [.ref l] ∧ h l = some (.idict es) ∧ es.length < 64 ∧ ∀ ks : List Int, ks.Perm (es.map (·.1)) → ks.Pairwise (· ≤ ·) → New B h (.list (ks.map AV.int)) Q
end F
namespace P
def inD : Cm := fun a b h Q => ∃ l es x, a = .int x ∧ b = .ref l ∧ h l = some (.idict es) ∧ Q (lookD es x).isSome h
def okO : AV → Bool | .none => true | .int _ => true | _ => false
def eqO : AV → AV → Bool | .none, .none => true | .int x, .int y => x == y | _, _ => false
def neO : Cm := fun a b h Q => okO a = true ∧ okO b = true ∧ Q (!eqO a b) h
end P

section
variable {W : Wd} {n : Nat}
theorem cm_inD : CmpOk W n .In P.inD := by
  rintro A E s va vb h Q cx R ⟨l, es, x, ha, hb, hl, q⟩
  obtain ⟨t, rfl⟩ := er_int ha
  obtain rfl := er_ref hb
  obtain ⟨kvs, hd, e, hs⟩ := R.cells l _ hl
  refine wpAny_in_of (intKind_is W.prog W.w x t) hs hd.mapOf ?_
  refine ⟨h, s.heap, s.toks + 1, rfl, Step.refl R, _, rfl, ?_⟩
  rw [← e, lookD_er, Option.isSome_map] at q; exact q
theorem cm_neO : CmpOk W n .NotEq P.neO := by
  rintro A E s va vb h Q cx R ⟨ha, hb, q⟩
  have done : ∀ b, b = (!P.eqO (er va) (er vb)) → Res W h s (fun v h1 => ∃ b, v = .bool b ∧ Q b h1) (.bool b) s := fun b hb => ⟨h, s.heap, s.toks, rfl, Step.refl R, b, rfl, by rw [hb]; exact q⟩
  cases ea : er va with
  | none =>
    obtain rfl := er_none ea
    cases eb : er vb with
    | none => obtain rfl := er_none eb; exact EqNone.ne_none_none (done _ rfl)
    | int y => obtain ⟨t, rfl⟩ := er_int eb; exact EqNone.ne_none_int (done _ rfl)
    | bool y => rw [eb] at hb; cases hb
    | ref y => rw [eb] at hb; cases hb
    | other => rw [eb] at hb; cases hb
  | int x =>
    obtain ⟨t, rfl⟩ := er_int ea
    cases eb : er vb with
    | none => obtain rfl := er_none eb; exact EqNone.ne_int_none (done _ rfl)
    | int y =>
      obtain ⟨u, rfl⟩ := er_int eb
      exact cm_neI A E s _ _ h Q cx R ⟨x, y, rfl, rfl, q⟩
    | bool y => rw [eb] at hb; cases hb
    | ref y => rw [eb] at hb; cases hb
    | other => rw [eb] at hb; cases hb
  | bool y => rw [ea] at ha; cases ha
  | ref y => rw [ea] at ha; cases ha
  | other => rw [ea] at ha; cases ha
end

section
variable {W : Wd} (ok : WdOk W) {n : Nat} {sc : Scope} {vm : VM}
include ok
theorem ev_dict0I {pos : Pos} (hB : sysModules < W.B) : EvOk W n sc vm (.Dict [] [] pos) (T.dict0I W.B) := by
  intro env A E s loc h Q st q
  refine wpAny_Dict_empty ?_
  have hne : (s.heap.objs.size == sysModules) = false := by
    rw [beq_eq_false_iff_ne]
    exact Nat.ne_of_gt (Nat.lt_of_lt_of_le hB st.rel.size)
  exact ⟨_, _, s.toks, rfl, Step.push (c := .idict []) st.rel ⟨[], Heap.DictOf.new _, rfl, hne⟩, q _ st.rel.size (st.rel.fresh (get_size_none _))⟩
theorem ev_idxD {o i : Expr} {f g : ET} {pos : Pos} (ho : EvOk W n sc vm o f) (hi : EvOk W n sc vm i g) (hs : ∀ a b, subscripted i false a b = operate [a, b] (getItem a b)) :
    EvOk W n sc vm (.Subscript o i pos) (T.idxD f g) := by
  intro env A E s loc h Q st q
  rw [arm_eval_Subscript]
  refine wpAny_bind (ho.use ok st q fun a h1 hp1 tk1 q1 st1 S1 => wpAny_bind (wpAny_holding (hi.use ok st1 q1 fun b h2 hp2 tk2 q2 st2 S2 => wpAny_bind (wpAny_standAt ?_))))
  obtain ⟨l, es, x, v, ha, hb, hl, hx, q3⟩ := q2
  obtain rfl := er_ref ha
  obtain ⟨t, rfl⟩ := er_int hb
  obtain ⟨kvs, hd, e, hsy⟩ := st2.rel.cells l _ hl
  rw [← e, lookD_er] at hx
  obtain ⟨u, hu, rfl⟩ := Option.map_eq_some_iff.mp hx
  exact sub_any hd.typeIs slot_dict_getitem.lookup (.inl (hs _ _)) (wpAny_getItem_of (intKind_is W.prog W.w x t) hd.mapOf hu ⟨h2, hp2, tk2 + 1, rfl, S1.trans S2, q3⟩)
theorem ex_setidxD {o i e : Expr} {f g k : ET} {p pos : Pos} (ho : EvOk W n sc vm o f) (hi : EvOk W n sc vm i g) (he : EvOk W n sc vm e k) (hs : ∀ env : Env, env.scope = sc → swapsWith e (some (.Subscript o i p)) pos.line env = pure false) :
    ExOk W n sc vm (.Assign [.Subscript o i p] e pos) (T.setidxD W.B f g k) := by
  intro env A E s loc h Q st q
  refine wpAny_Assign_Subscript (he.use ok st q fun v h1 hp1 tk1 q1 st1 S1 => ho.use ok st1 q1 fun a h2 hp2 tk2 q2 st2 S2 => hi.use ok st2 q2 fun b h3 hp3 tk3 q3 st3 S3 => ?_) (hs env st.sc)
  obtain ⟨l, es, x, ha, hb, hl, hB, hlen, q4⟩ := q3
  obtain rfl := er_ref ha
  obtain ⟨t, rfl⟩ := er_int hb
  obtain ⟨kvs, hd, ee, hsy⟩ := st3.rel.cells l _ hl
  have hkl : kvs.length = es.length := by rw [← ee, List.length_map]
  refine wpAny_setItem_pairs (intKind_is W.prog W.w x t) hd (fun h' hd' hsb => ?_) (by rw [sizeLine_eq]; omega)
  have S4 := Step.set st3.rel hl hB (dict_notTup hd) hsb (c' := .idict (storeD es x (er v))) ⟨_, hd', by rw [← ee, storeD_er], hsy⟩
  have S := ((S1.trans S2).trans S3).trans S4
  exact ⟨loc, _, h', tk3 + 1, rfl, S.s, st.fr.step S, q4⟩
end
end Mini

/-! MiniO -/
namespace Mini

section
variable {W : Wd} (ok : WdOk W) {n : Nat} {sc : Scope} {vm : VM}
include ok
theorem ev_methD {o : Expr} {name : Str} {id : String} {apos pos : Pos} {e : Expr} {es : List Expr} {f : ET} {t : EsT} {p : F.Fn} (slot : Slot "dict" name id) (hty : typeOf (.builtin id) = pure (.type "method_descriptor"))
    (hbase : ∀ env, attributeBase o name env (eval o env) = eval o env)
    (hfew : ∀ env, ((backTo pos (starEach (e :: es) env)).all (fun x => !x.1) && (backToKw pos (keywordEach [] env)).all (fun x => x.1.isSome)
      && decide ((e :: es).length + ([] : List Keyword).length + (if ([] : List Keyword).isEmpty then 0 else 1) < 30)) = true)
    (hline : (apos.endLine == pos.line) = true) (ho : EvOk W n sc vm o f) (hes : EsOk W n sc vm (e :: es) t) (hp : FOk W n (.builtin id) p)
    (hs : ∀ env, starEach (e :: es) env = (false, eval e env) :: starEach es env) (hpl : ∀ env pos, (backTo pos (starEach es env)).any (·.1) = false) :
    EvOk W n sc vm (.Call (.Attribute o name apos) (e :: es) [] pos) (T.methD f t p) := by
  intro env A E s loc h Q st q
  refine wpAny_Call_method (T := "dict") (id := id) (hbase env) (hfew env) hline F.plainAttrs_dict slot hty (ho.use ok st q fun a h1 hp1 tk1 q1 st1 S1 => ?_)
  obtain ⟨⟨l, xs, ha, hl⟩, q1⟩ := q1
  obtain rfl := er_ref ha
  obtain ⟨kvs, hd, ee, hsy⟩ := st1.rel.cells l _ hl
  obtain ⟨o1, es1, ep1, ho1, hx1, hd1, _⟩ := (show hp1.DictOf (intKind W.prog W.w) l kvs from hd)
  refine ⟨hd.typeIs, fun a e => by cases e; exact ⟨_, ho1, hx1.2.1⟩, ?_⟩
  have hany : (backTo pos (starEach (e :: es) env)).any (·.1) = false := by
    rw [hs]
    show (false || (backTo pos (starEach es env)).any (·.1)) = false
    rw [hpl]; rfl
  refine Calls.callWith_builtin hany ?_
  have key : wpAny (model W.prog W.w) A (spliced (backTo pos (starEach (e :: es) env))) (fun vs s₁ => wpAny (model W.prog W.w) A (call (.builtin id) (.ref l :: vs)) (Res W h s Q) E s₁) E { s with heap := hp1, toks := tk1 } := by
    refine wpAny_mono (hes env A E _ loc h1 _ pos st1 q1) ?_ fun _ _ x => x
    rintro vs s' ⟨h2, hp2, tk2, rfl, S2, q2⟩
    exact wpAny_mono (hp A E _ (.ref l :: vs) h2 Q st.cx (S2.rel ok st1.rel) q2) (fun v s' r => Res.bind (tk := tk1) S1 (Res.bind (tk := tk2) S2 r)) fun _ _ x => x
  rw [hs] at key ⊢
  exact Calls.evalArgs_plain key
end

theorem er_intsA {vs : List Value} {ns : List Int} (h : IntsAre vs ns) : vs.map er = ns.map AV.int := by
  induction h with
  | nil => rfl
  | cons n t _ ih => rw [List.map_cons, List.map_cons, ih]; rfl

section
variable {W : Wd} {n : Nat}
theorem fo_dget (ok : WdOk W) : FOk W n (.builtin "dict.get") F.dget := by
  rintro A E s vs h Q cx R ⟨l, es, x, e, hl, q⟩
  obtain ⟨v, w, rfl, hv, hw⟩ := map2 e
  obtain rfl := er_ref hv
  obtain ⟨t, rfl⟩ := er_int hw
  obtain ⟨kvs, hd, ee, hs⟩ := R.cells l _ hl
  refine call_meetsIn F.slot_dict_get hd.typeIs F.entry_dict_get (F.args_dict_get_2 _ _) (meets_dict_get (intKind W.prog W.w) _ (intKind_is W.prog W.w x t) hs) ⟨_, hd.mapOf, ?_⟩
  refine ⟨h, s.heap, s.toks + 1, rfl, Step.refl R, ?_⟩
  rw [← ee, lookD_er] at q
  cases hv : valueAt kvs x with
  | none => rw [hv] at q; exact q
  | some u => rw [hv] at q; exact q
theorem fo_dpop (ok : WdOk W) : FOk W n (.builtin "dict.pop") (F.dpop W.B) := by
  rintro A E s vs h Q cx R ⟨l, es, x, u, e, hl, hB, hlen, hu, q⟩
  obtain ⟨v, w, rfl, hv, hw⟩ := map2 e
  obtain rfl := er_ref hv
  obtain ⟨t, rfl⟩ := er_int hw
  obtain ⟨kvs, hd, ee, hs⟩ := R.cells l _ hl
  rw [← ee, lookD_er] at hu
  obtain ⟨y, hy, rfl⟩ := Option.map_eq_some_iff.mp hu
  have hkl : kvs.length = es.length := by rw [← ee, List.length_map]
  refine call_meetsIn F.slot_dict_pop hd.typeIs F.entry_dict_pop (F.args_dict_pop_2 _ _) (meets_dict_pop_there (intKind W.prog W.w) _ (intKind_is W.prog W.w x t) [] (.inl rfl) rfl) ⟨kvs, y, hd, by rw [sizeLine_eq]; omega, hy, fun h' hd' hsb => ?_⟩
  refine ⟨_, h', s.toks + 1, rfl, Step.set R hl hB (dict_notTup hd) hsb (c' := .idict (dropD es x)) ⟨_, hd', by rw [← ee, dropD_er], hs⟩, q⟩

theorem ints_of_keys {prog : Program} {w : World} {kvs : List (Int × Value)} : ∀ {vs : List Value}, vs.length = kvs.length → (∀ (j : Nat) v, vs[j]? = some v → ∃ k x, kvs[j]? = some (k, x) ∧ (intKind prog w).is k v = true) → IntsAre vs (kvs.map (·.1)) := by
  induction kvs with
  | nil => intro vs hl _; rw [List.length_eq_zero_iff.mp hl]; exact .nil
  | cons p r ih =>
    intro vs hl h
    match vs, hl, h with
    | v :: vs, hl, h =>
      obtain ⟨k, x, e1, e2⟩ := h 0 v rfl
      cases e1
      obtain ⟨t, rfl⟩ := Value.isInt_shape e2
      exact .cons _ t (ih (by simpa using hl) fun j v hv => h (j + 1) v hv)
theorem fo_sortedD (ok : WdOk W) : FOk W n (.builtin "sorted") (F.sortedD W.B) := by
  rintro A E s vs h Q cx R ⟨l, es, e, hl, hlen, q⟩
  obtain ⟨v, rfl, hv⟩ := map1 e
  obtain rfl := er_ref hv
  obtain ⟨kvs, hd, ee, hs⟩ := R.cells l _ hl
  have hkl : kvs.length = es.length := by rw [← ee, List.length_map]
  have hks : kvs.map (·.1) = es.map (·.1) := by rw [← ee, List.map_map]; rfl
  obtain ⟨ep, hat⟩ := hd.dictAt
  refine call_function_entry kind_sorted plain_sorted entry_sorted (args_sorted1 _) ?_
  unfold Builtin.«sorted»
  refine wpAny_bind (m := checkCount "sorted" 1 1 _) (wpAny_pure ?_)
  refine wpAny_bind (kdu_collect (A := A.in1) (kdl_dict (knd := intKind W.prog W.w) (kvs := kvs) (ep := ep) hs) cx.hd hat (by rw [sizeLine_eq]; omega) fun h' tk acc hk hacc => ?_)
  have hal : acc.toList.length = kvs.length := by rw [Array.length_toList]; exact hacc.1
  have hI : IntsAre acc.toList (kvs.map (·.1)) := ints_of_keys hal fun j v e => hacc.2 j v (by rw [← Array.getElem?_toList]; exact e)
  refine wpAny_bind (wpAny_newList ?_ (by rw [hal, sizeLine_eq]; omega))
  have hoL : (h'.push (seqObj "list" acc.toList.toArray 0)).get? h'.objs.size = some (seqObj "list" acc.toList.toArray 0) := Heap.get?_push_size _ rfl
  show wpAny _ _ _ _ _ { s with heap := h'.push (seqObj "list" acc.toList.toArray 0), toks := tk }
  refine wpAny_bind (wpAny_holding (wpAny_call_entry slot_list_sort ⟨_, hoL, rfl⟩ entry_list_sort (list_sort_tree hoL hI (by omega) fun out ns' a1 a2 a3 => ⟨_, rfl, ?_⟩) (args_list_sort _)))
  refine wpAny_pure ⟨_, rfl, ?_⟩
  obtain ⟨e2, hat2⟩ := sortedHeap_at (out := out) hoL
  have keep : ∀ b o, s.heap.get? b = some o → (sortedHeap (h'.push (seqObj "list" acc.toList.toArray 0)) h'.objs.size acc.toList out).get? b = some o := fun b o eb => by
    have hb := hk b o eb
    have hlt := Heap.lt_size hb
    rw [sortedHeap_old (Nat.ne_of_lt hlt) (by rw [size_push']; exact Nat.lt_succ_of_lt hlt)]
    exact Heap.get?_push_of_some _ hb
  have hfree : s.heap.get? h'.objs.size = none := by
    cases q : s.heap.get? h'.objs.size with
    | none => rfl
    | some o => exact absurd (Heap.lt_size (hk _ _ q)) (Nat.lt_irrefl _)
  have hBs : W.B ≤ h'.objs.size := by
    obtain ⟨b, o, h1, _, h3⟩ := R.wit
    exact Nat.le_of_lt (Nat.lt_of_le_of_lt h1 (Heap.lt_size (hk _ _ h3)))
  refine ⟨_, _, tk, rfl, Step.alloc R hfree hBs keep (c := .list (ns'.map AV.int)) ⟨out, ⟨e2, hat2⟩, er_intsA a1⟩, q ns' (by rw [← hks]; exact a2) a3 _ hBs (R.fresh hfree)⟩
end

/-! equality of data, however deep -/
mutual
inductive DataAt (h : AH) : AV → PyData → Prop
  | none : DataAt h .none .none
  | int (i : Int) : DataAt h (.int i) (.int i)
  | list {a : Addr} {xs : List AV} {ds : List PyData} : h a = some (.list xs) → DatasAt h xs ds → DataAt h (.ref a) (.list ds)
  | tup {a : Addr} {xs : List AV} {ds : List PyData} : h a = some (.tup xs) → DatasAt h xs ds → DataAt h (.ref a) (.tuple ds)
inductive DatasAt (h : AH) : List AV → List PyData → Prop
  | nil : DatasAt h [] []
  | cons {x : AV} {xs : List AV} {d : PyData} {ds : List PyData} : DataAt h x d → DatasAt h xs ds → DatasAt h (x :: xs) (d :: ds)
end
mutual
theorem DataAt.reads {W : Wd} {h : AH} {hp : Heap} (R : Rel W h hp) {x : AV} {d : PyData} : DataAt h x d → ∀ v, er v = x → ∃ as, Reads hp v d as
  | .none, v, e => by obtain rfl := er_none e; exact ⟨_, .none⟩
  | .int i, v, e => by obtain ⟨t, rfl⟩ := er_int e; exact ⟨_, .int i t⟩
  | .list ha hs, v, e => by
    obtain rfl := er_ref e
    obtain ⟨vs, ⟨k, ho⟩, hm⟩ := R.cells _ _ ha
    obtain ⟨as, hr⟩ := DatasAt.reads R hs vs.toList hm
    exact ⟨_, .list ho rfl rfl hr⟩
  | .tup ha hs, v, e => by
    obtain rfl := er_ref e
    obtain ⟨vs, ⟨k, ho⟩, hm⟩ := R.cells _ _ ha
    obtain ⟨as, hr⟩ := DatasAt.reads R hs vs.toList hm
    exact ⟨_, .tuple ho rfl rfl hr⟩
theorem DatasAt.reads {W : Wd} {h : AH} {hp : Heap} (R : Rel W h hp) {xs : List AV} {ds : List PyData} : DatasAt h xs ds → ∀ vs : List Value, vs.map er = xs → ∃ as, ReadsAll hp vs ds as
  | .nil, vs, e => by rw [List.map_eq_nil_iff.mp e]; exact ⟨_, .nil⟩
  | .cons hx hs, vs, e => by
    match vs, e with
    | v :: vs, e =>
      rw [List.map_cons, List.cons.injEq] at e
      obtain ⟨as, h1⟩ := DataAt.reads R hx v e.1
      obtain ⟨bs, h2⟩ := DatasAt.reads R hs vs e.2
      exact ⟨_, .cons h1 h2⟩
end
namespace P
def eqD : Cm := fun a b h Q => ∃ d e, DataAt h a d ∧ DataAt h b e ∧ SeqAt.shaped d = true ∧ SeqAt.shaped e = true ∧ Q (PyData.eqv d e) h
def neD : Cm := fun a b h Q => ∃ d e, DataAt h a d ∧ DataAt h b e ∧ SeqAt.shaped d = true ∧ SeqAt.shaped e = true ∧ Q (!PyData.eqv d e) h
end P
section
variable {W : Wd} {n : Nat}
theorem cm_eqD : CmpOk W n .Eq P.eqD := by
  rintro A E s va vb h Q cx R ⟨d, e, hd, he, sd, se, q⟩
  obtain ⟨as, r1⟩ := hd.reads R va rfl
  obtain ⟨bs, r2⟩ := he.reads R vb rfl
  exact eq_dataH r1 r2 sd se (by have := cx.un; omega) ⟨h, s.heap, s.toks, rfl, Step.refl R, _, rfl, q⟩
theorem cm_neD : CmpOk W n .NotEq P.neD := by
  rintro A E s va vb h Q cx R ⟨d, e, hd, he, sd, se, q⟩
  obtain ⟨as, r1⟩ := hd.reads R va rfl
  obtain ⟨bs, r2⟩ := he.reads R vb rfl
  exact ne_dataH r1 r2 sd se (by have := cx.un; omega) ⟨h, s.heap, s.toks, rfl, Step.refl R, _, rfl, q⟩
end
end Mini
namespace Mini
theorem sys_lt {W : Wd} (ok : WdOk W) {x : Str} {v : Value} (g : GlobAt W x v) : sysModules < W.B := by
  obtain ⟨mg, mb, h1, _⟩ := g W.h₀ fun _ _ e => e
  obtain ⟨o, ho⟩ := ns_some h1
  have := ok.size _ _ ho
  exact Nat.lt_of_lt_of_le (by decide : (1 : Nat) < 3) (Nat.le_of_lt this)
end Mini

/-! MiniP -/
namespace Mini

/-! tuples of ints as keys of a dict -/
def lookT (es : List (List Int × AV)) (k : List Int) : Option AV := (es.find? fun p => decide (p.1 = k)).map (·.2)
def storeT (es : List (List Int × AV)) (k : List Int) (v : AV) : List (List Int × AV) :=
  if (lookT es k).isSome then es.map (fun p => if p.1 = k then (p.1, v) else p) else es ++ [(k, v)]
theorem lookT_er (xs : List (List Int × Addr × Value)) (k : List Int) : lookT (xs.map fun x => (x.1, er x.2.2)) k = (atKey xs k).map fun p => er p.2 := by
  unfold lookT atKey
  induction xs with
  | nil => rfl
  | cons p r ih =>
    rw [List.map_cons, List.find?_cons, List.find?_cons]
    by_cases h : p.1 = k
    · simp [h]
    · simp only [h, decide_false]; exact ih
theorem storeT_er (xs : List (List Int × Addr × Value)) (k : List Int) (a : Addr) (v : Value) : storeT (xs.map fun x => (x.1, er x.2.2)) k (er v) = (storedH xs k a v).map fun x => (x.1, er x.2.2) := by
  unfold storeT storedH
  rw [lookT_er, Option.isSome_map]
  split
  · rw [List.map_map, List.map_map]
    refine List.map_congr_left fun p _ => ?_
    simp only [Function.comp, putAt]
    split <;> rfl
  · rw [List.map_append]; rfl
theorem dictH_notTup {hp : Heap} {c : Addr} {prog : Program} {w : World} {xs : List (List Int × Addr × Value)} (n : hp.DictOfH (tupleKind (intKind prog w)) c xs) : ∀ o, hp.get? c = some o → ¬ IsTupO o := by
  obtain ⟨o, es, ep, h1, _, h2, _⟩ := n
  rintro o' e ⟨_, xs, k, hd⟩
  rw [h1] at e; cases e; rw [h2] at hd; cases hd
theorem items_are {prog : Program} {w : World} : ∀ {ks : List Int} {vs : List Value}, vs.map er = ks.map AV.int → ItemsAre (intKind prog w) ks vs
  | [], [], _ => .nil
  | [], _ :: _, e => by cases e
  | _ :: _, [], e => by cases e
  | k :: ks, v :: vs, e => by
    rw [List.map_cons, List.map_cons, List.cons.injEq] at e
    obtain ⟨t, rfl⟩ := er_int e.1
    exact .cons (intKind_is prog w k t) (items_are e.2)
theorem tup_key {W : Wd} {h : AH} {hp : Heap} (R : Rel W h hp) {a : Addr} {ks : List Int} (ha : h a = some (.tup (ks.map AV.int))) : IsTupleKey (intKind W.prog W.w) hp ks a := by
  obtain ⟨vs, ⟨n, ho⟩, hm⟩ := R.cells a _ ha
  exact ⟨_, vs, n, ho, rfl, rfl, items_are hm⟩

namespace T
def dict0T (B : Addr) : ET := fun _ h Q => New B h (.tdict []) Q
def setidxT (B : Addr) (o i e : ET) : ST := fun loc h Q => e loc h fun v h1 => o loc h1 fun a h2 => i loc h2 fun k h3 => ∃ l es c ks, a = .ref l ∧ k = .ref c ∧ h3 l = some (.tdict es) ∧ h3 c = some (.tup (ks.map AV.int)) ∧ B ≤ l ∧ es.length ≤ 2 ^ 20 ∧ Q .next loc (upd h3 l (.tdict (storeT es ks v)))
-- a chain of «and» as a value, each a comparison
def andN : TT := fun _ h Q => Q true h
def andC (t r : TT) : TT := fun loc h Q => t loc h fun b h1 => if b then r loc h1 Q else Q false h1
def andv (t : TT) : ET := fun loc h Q => t loc h fun b h1 => Q (.bool b) h1
end T
namespace F
def tupleOf (B : Addr) : Fn := fun avs h Q => ∃ l xs, avs = [.ref l] ∧ h l = some (.list xs) ∧ xs.length ≤ 2 ^ 20 ∧ New B h (.tup xs) Q
end F
namespace P
def addT (B : Addr) : Op := fun a b h Q => ∃ l m xs ys, a = .ref l ∧ b = .ref m ∧ h l = some (.tup xs) ∧ h m = some (.tup ys) ∧ xs.length + ys.length ≤ 2 ^ 20 ∧
  (xs = [] → Q (.ref m) h) ∧ (xs ≠ [] → ys = [] → Q (.ref l) h) ∧ (xs ≠ [] → ys ≠ [] → New B h (.tup (xs ++ ys)) Q)
def inT : Cm := fun a b h Q => ∃ l es c ks, a = .ref c ∧ b = .ref l ∧ h l = some (.tdict es) ∧ h c = some (.tup (ks.map AV.int)) ∧ Q (lookT es ks).isSome h
def ninT : Cm := fun a b h Q => ∃ l es c ks, a = .ref c ∧ b = .ref l ∧ h l = some (.tdict es) ∧ h c = some (.tup (ks.map AV.int)) ∧ Q (!(lookT es ks).isSome) h
end P

section
variable {prog : Program} {w : World} {K : Type} [DecidableEq K] {knd : HeapKind prog w K} {A : Around} {E : Value → Shared → Prop} {s : Shared} {d a : Addr} {k : K} {xs : List (K × Addr × Value)}
theorem wp_notIn_heap {Q : Value → Shared → Prop} (hu : knd.room A.in1) (hkey : knd.is s.heap k a) (hd : (d == sysModules) = false) (hm : s.heap.DictOfH knd d xs)
    (h : Q (.bool (!(atKey xs k).isSome)) { s with toks := s.toks + knd.draws k }) : wpAny (model prog w) A (compareOp .NotIn (.ref a) (.ref d)) Q E s := by
  show wpAny _ _ (do return .bool (!(← contains (.ref d) (.ref a)))) Q E s
  refine wpAny_bind ?_
  unfold contains
  try with_reducible refine wpAny_holding ?_
  refine wpAny_bind (wpAny_specialOf hm.typeIs slot_dict_contains.lookup ?_)
  show wpAny _ _ (if (some (Value.builtin "dict.__contains__") == some Value.none) = true then _ else _) _ E s
  rw [if_neg (by rw [beq_builtin_none]; exact Bool.false_ne_true)]
  refine wpAny_bind (wpAny_callSpecialUnlessNone?_slot (name := Str.ofString "__contains__") hm.typeIs slot_dict_contains
    (wpAny_call_entry slot_dict_contains hm.typeIs entry_dict_contains ?_ (args_dict_contains _ _)))
  show wpAny _ _ (dictGet d (.ref a) >>= _) _ _ s
  refine wpAny_bind (wpAny_dictGet_heap hu hkey hm ?_)
  cases hf : atKey xs k with
  | some p =>
    rw [hf] at h
    show wpAny _ _ (ret (.bool true)) _ _ _
    exact wpAny_pure ⟨_, rfl, wpAny_truthy_bool (wpAny_pure h)⟩
  | none =>
    rw [hf] at h
    show wpAny _ _ (Builtin.Dict.pendingKey? d (.ref a) >>= _) _ _ _
    exact wpAny_bind (wpAny_pendingKey_other hd (wpAny_pure ⟨_, rfl, wpAny_truthy_bool (wpAny_pure h)⟩))
end

section
variable {W : Wd} {n : Nat}
theorem cm_inT : CmpOk W n .In P.inT := by
  rintro A E s va vb h Q cx R ⟨l, es, c, ks, ha, hb, hl, hc, q⟩
  obtain rfl := er_ref ha
  obtain rfl := er_ref hb
  obtain ⟨xs, hd, e, hs⟩ := R.cells l _ hl
  refine wpAny_in_heap (knd := tupleKind (intKind W.prog W.w)) (tupleKind_room_in1 (by have := cx.un; omega)) (tup_key R hc) hs hd ⟨h, s.heap, _, rfl, Step.refl R, _, rfl, ?_⟩
  rw [← e, lookT_er, Option.isSome_map] at q; exact q
theorem cm_ninT : CmpOk W n .NotIn P.ninT := by
  rintro A E s va vb h Q cx R ⟨l, es, c, ks, ha, hb, hl, hc, q⟩
  obtain rfl := er_ref ha
  obtain rfl := er_ref hb
  obtain ⟨xs, hd, e, hs⟩ := R.cells l _ hl
  refine wp_notIn_heap (knd := tupleKind (intKind W.prog W.w)) (tupleKind_room_in1 (by have := cx.un; omega)) (tup_key R hc) hs hd ⟨h, s.heap, _, rfl, Step.refl R, _, rfl, ?_⟩
  rw [← e, lookT_er, Option.isSome_map] at q; exact q
theorem fo_tuple (ok : WdOk W) : FOk W n (.type "tuple") (F.tupleOf W.B) := by
  rintro A E s vs h Q cx R ⟨l, xs, e, hl, hsz, q⟩
  obtain ⟨v, rfl, hv⟩ := map1 e
  obtain rfl := er_ref hv
  obtain ⟨us, ho, hm⟩ := R.cells l _ hl
  refine call_tuple_list ho.isList (fun h' hk => ?_) (by rw [map_len hm, sizeLine_eq]; omega)
  have R1 : Step W h s.heap h h' := Step.keeps R hk
  have hB : W.B ≤ h'.objs.size := (R1.rel ok R).size
  exact ⟨_, _, s.toks, rfl, R1.trans (Step.push (c := .tup xs) (R1.rel ok R) ⟨us, ⟨0, Heap.get?_push_size _ rfl⟩, hm⟩), q _ hB ((R1.rel ok R).fresh (get_size_none _))⟩
end

section
variable {W : Wd} (ok : WdOk W) {n : Nat} {sc : Scope} {vm : VM}
include ok
theorem ev_dict0T {pos : Pos} (hB : sysModules < W.B) : EvOk W n sc vm (.Dict [] [] pos) (T.dict0T W.B) := by
  intro env A E s loc h Q st q
  refine wpAny_Dict_empty ?_
  have hne : (s.heap.objs.size == sysModules) = false := by
    rw [beq_eq_false_iff_ne]
    exact Nat.ne_of_gt (Nat.lt_of_lt_of_le hB st.rel.size)
  exact ⟨_, _, s.toks, rfl, Step.push (c := .tdict []) st.rel ⟨[], Heap.DictOfH.new _, rfl, hne⟩, q _ st.rel.size (st.rel.fresh (get_size_none _))⟩
theorem ex_setidxT {o i e : Expr} {f g k : ET} {p pos : Pos} (ho : EvOk W n sc vm o f) (hi : EvOk W n sc vm i g) (he : EvOk W n sc vm e k) (hs : ∀ env : Env, env.scope = sc → swapsWith e (some (.Subscript o i p)) pos.line env = pure false) :
    ExOk W n sc vm (.Assign [.Subscript o i p] e pos) (T.setidxT W.B f g k) := by
  intro env A E s loc h Q st q
  refine wpAny_Assign_Subscript (he.use ok st q fun v h1 hp1 tk1 q1 st1 S1 => ho.use ok st1 q1 fun a h2 hp2 tk2 q2 st2 S2 => hi.use ok st2 q2 fun b h3 hp3 tk3 q3 st3 S3 => ?_) (hs env st.sc)
  obtain ⟨l, es, c, ks, ha, hb, hl, hc, hB, hlen, q4⟩ := q3
  obtain rfl := er_ref ha
  obtain rfl := er_ref hb
  obtain ⟨xs, hd, ee, hsy⟩ := st3.rel.cells l _ hl
  have hkl : xs.length = es.length := by rw [← ee, List.length_map]
  refine wpAny_setItem_heap (knd := tupleKind (intKind W.prog W.w)) (tupleKind_room_in1 (by have := st.cx.un; omega)) (tup_key st3.rel hc) hd (fun h' hd' hsb => ?_) (by rw [sizeLine_eq]; omega)
  have S4 := Step.set st3.rel hl hB (dictH_notTup hd) hsb (c' := .tdict (storeT es ks (er v))) ⟨_, hd', by rw [← ee, storeT_er], hsy⟩
  have S := ((S1.trans S2).trans S3).trans S4
  exact ⟨loc, _, h', _, rfl, S.s, st.fr.step S, q4⟩
end
end Mini

/-! MiniQ -/
namespace Mini

namespace F
def lenT : Fn := fun avs h Q => ∃ l es, avs = [.ref l] ∧ h l = some (.tdict es) ∧ es.length < 2 ^ 24 ∧ Q (.int es.length) h
end F
section
variable {prog : Program} {w : World} {K : Type} [DecidableEq K] (knd : HeapKind prog w K) {A : Around} {E : Value → Shared → Prop} {s : Shared} (d : Addr)
theorem meetsH_dict_len (hd : (d == sysModules) = false) :
    MeetsIn prog w (Builtin.«dict.__len__» ⟨[.ref d], []⟩) (fun _ R s => ∃ xs, s.heap.DictOfH knd d xs ∧ R (.ok (.ret (.int xs.length s.toks))) { s with toks := s.toks + 1 }) :=
  .of_wp fun A R s ⟨kvs, hm, h⟩ => by
    obtain ⟨o, es, ep, ho, hc, hdat, he, hk, hn⟩ := hm
    show wpAny _ _ (dictSize d >>= _) _ _ s
    unfold dictSize
    refine wpAny_bind (wpAny_bind (wpAny_dictEntries ho hdat (wpAny_pure ?_)))
    show wpAny _ _ (Builtin.Dict.pendingCount d >>= _) _ _ s
    refine wpAny_bind (wpAny_pendingCount_other hd ?_)
    refine wpAny_ret_mkInt ?_
    have : es.size = kvs.length := by rw [← Array.length_toList, he, List.length_map]
    rw [Nat.add_zero, this]; exact h
end
section
variable {prog : Program} {w : World} {K : Type} [DecidableEq K] {knd : HeapKind prog w K} {A : Around} {E : Value → Shared → Prop} {s : Shared} {d : Addr}
theorem call_len_dictH {kvs : List (K × Addr × Value)} {Q : Value → Shared → Prop} (hd : (d == sysModules) = false) (hm : s.heap.DictOfH knd d kvs) (hfit : (kvs.length : Int) < 2 ^ 63)
    (h : Q (.int kvs.length (s.toks + 1)) { s with toks := s.toks + 1 + 1 }) : wpAny (model prog w) A (call (.builtin "len") [.ref d]) Q E s := by
  refine Calls.call_function_entry kind_len plain_len entry_len (args_len1 _) ?_
  unfold Builtin.«len»
  refine wpAny_bind (m := oneArg "len" _) (wpAny_pure ?_)
  refine wpAny_bind (m := callSpecial? (.ref d) (Str.ofString "__len__")) (wpAny_callSpecial?_slot (name := Str.ofString "__len__") hm.typeIs F.slot_dict_len
    (call_meetsIn F.slot_dict_len hm.typeIs F.entry_dict_len (F.args_dict_len_1 _) (meetsH_dict_len knd d hd) ⟨kvs, hm, ?_⟩))
  show wpAny _ _ _ _ _ { s with toks := s.toks + 1 }
  refine wpAny_bind (wpAny_holding (wpAny_pure ?_))
  refine wpAny_bind (wpAny_letGo ?_)
  show wpAny _ _ (if ((kvs.length : Nat) : Int) < 0 then _ else _) _ _ _
  rw [if_neg (by omega)]
  show wpAny _ _ (if ((kvs.length : Nat) : Int) ≥ 2 ^ 63 then _ else _) _ _ _
  rw [if_neg (by omega)]
  exact wpAny_bind (wpAny_mkInt (wpAny_pure ⟨_, rfl, h⟩))
end

section
variable {W : Wd} (ok : WdOk W) {n : Nat}
include ok
theorem fo_lenT : FOk W n (.builtin "len") F.lenT := by
  rintro A E s vs h Q cx R ⟨l, es, e, hl, hsz, q⟩
  obtain ⟨v, rfl, hv⟩ := map1 e
  obtain rfl := er_ref hv
  obtain ⟨xs, hd, ee, hs⟩ := R.cells l _ hl
  have hkl : xs.length = es.length := by rw [← ee, List.length_map]
  refine call_len_dictH (knd := tupleKind (intKind W.prog W.w)) hs hd (by omega) ⟨h, s.heap, _, rfl, Step.refl R, ?_⟩
  rw [← hkl] at q; exact q
theorem op_addT : OpOk W n .Add (P.addT W.B) := by
  rintro A E s va vb h Q cx R ⟨l, m, xs, ys, ha, hb, hl, hm, hsz, q0, q1, q2⟩
  obtain rfl := er_ref ha
  obtain rfl := er_ref hb
  obtain ⟨vs, ⟨k1, e1⟩, m1⟩ := R.cells l _ hl
  obtain ⟨us, ⟨k2, e2⟩, m2⟩ := R.cells m _ hm
  have t1 : s.TypeIs (.ref l) "tuple" := ⟨_, e1, rfl⟩
  have t2 : s.TypeIs (.ref m) "tuple" := ⟨_, e2, rfl⟩
  have hv : vs.isEmpty = true ↔ xs = [] := by rw [← m1]; cases vs; simp
  have hu : us.isEmpty = true ↔ ys = [] := by rw [← m2]; cases us; simp
  by_cases c1 : vs.isEmpty = true
  · exact concat_meets t1 t2 noFill_tuple_add seq_tuple_add PySem.F.slot_tuple_add PySem.F.entry_tuple_add (PySem.F.args_tuple_add_2 _ _)
      (tuple_addW0 l m vs us k1 k2 none none #[] #[] c1) ⟨e1, e2, h, s.heap, s.toks, rfl, Step.refl R, q0 (hv.mp c1)⟩
  · by_cases c2 : us.isEmpty = true
    · exact concat_meets t1 t2 noFill_tuple_add seq_tuple_add PySem.F.slot_tuple_add PySem.F.entry_tuple_add (PySem.F.args_tuple_add_2 _ _)
        (tuple_addW1 l m vs us k1 k2 none none #[] #[] c1 c2) ⟨e1, e2, h, s.heap, s.toks, rfl, Step.refl R, q1 (fun e => c1 (hv.mpr e)) (hu.mp c2)⟩
    · refine concat_meets t1 t2 noFill_tuple_add seq_tuple_add PySem.F.slot_tuple_add PySem.F.entry_tuple_add (PySem.F.args_tuple_add_2 _ _)
        (tuple_addW2 l m vs us k1 k2 none none #[] #[] c1 c2 (by rw [map_len m1, map_len m2, sizeLine_eq]; omega)) ⟨e1, e2, ?_⟩
      exact ⟨_, _, s.toks, rfl, Step.push (c := .tup (xs ++ ys)) R ⟨_, ⟨0, Heap.get?_push_size _ rfl⟩, by simp [m1, m2]⟩, q2 (fun e => c1 (hv.mpr e)) (fun e => c2 (hu.mpr e)) _ R.size (R.fresh (get_size_none _))⟩
end
end Mini

/-! MiniR -/
namespace Mini

/-- a chain of «and», as a value -/
def AnOk (W : Wd) (n : Nat) (sc : Scope) (vm : VM) (es : List Expr) (t : TT) : Prop := match es with
  | [] => t = T.andN
  | es => ∀ pos env A E s loc h Q, St W n sc vm env A loc h s → t loc h (fun b h1 => Q (.bool b) h1) → wpAny (model W.prog W.w) A (boolOp pos .And (evalEach es env)) (Res W h s Q) E s
theorem an_nil {W : Wd} {n : Nat} {sc : Scope} {vm : VM} : AnOk W n sc vm [] T.andN := rfl
section
variable {W : Wd} (ok : WdOk W) {n : Nat} {sc : Scope} {vm : VM}
include ok
theorem an_cons {e : Expr} {es : List Expr} {t r : TT} (he : EvOk W n sc vm e (T.val t)) (hr : AnOk W n sc vm es r) : AnOk W n sc vm (e :: es) (T.andC t r) := by
  intro pos env A E s loc h Q st q
  cases es with
  | nil =>
    obtain rfl : r = T.andN := hr
    show wpAny _ A (eval e env) _ E s
    refine he.use ok st (Q' := fun v h1 => match v with | .bool b => (if b = true then Q (.bool true) h1 else Q (.bool false) h1) | _ => False) q fun v h1 hp1 tk1 q1 st1 S1 => ?_
    cases ev : er v with
    | bool b =>
      rw [ev] at q1
      refine ⟨h1, hp1, tk1, rfl, S1, ?_⟩
      rw [ev]
      cases b <;> exact q1
    | none => rw [ev] at q1; exact q1.elim
    | int i => rw [ev] at q1; exact q1.elim
    | ref a => rw [ev] at q1; exact q1.elim
    | other => rw [ev] at q1; exact q1.elim
  | cons e2 es =>
    show wpAny _ A (do
      let v ← eval e env
      standAt pos
      let t ← holding [v] (truthy v)
      match BoolOp.And, t with
      | .And, false | .Or, true => pure v
      | _, _ => boolOp pos .And (evalEach (e2 :: es) env)) _ E s
    refine wpAny_bind (he.use ok st (Q' := fun v h1 => match v with | .bool b => (if b = true then r loc h1 (fun b h2 => Q (.bool b) h2) else Q (.bool false) h1) | _ => False) q fun v h1 hp1 tk1 q1 st1 S1 => ?_)
    refine wpAny_bind (wpAny_standAt ?_)
    cases ev : er v with
    | bool b =>
      obtain rfl := er_bool ev
      rw [ev] at q1
      refine wpAny_bind (wpAny_holding (wpAny_truthy_bool ?_))
      cases b with
      | false => exact wpAny_pure ⟨h1, hp1, tk1, rfl, S1, q1⟩
      | true => exact wpAny_mono (hr pos env A E _ loc h1 Q st1 q1) (fun v s' x => Res.bind (tk := tk1) S1 x) fun _ _ x => x
    | none => rw [ev] at q1; exact q1.elim
    | int i => rw [ev] at q1; exact q1.elim
    | ref a => rw [ev] at q1; exact q1.elim
    | other => rw [ev] at q1; exact q1.elim
theorem ev_andv {es : List Expr} {e : Expr} {t : TT} {pos : Pos} (h : AnOk W n sc vm (e :: es) t) : EvOk W n sc vm (.BoolOp .And (e :: es) pos) (T.andv t) := by
  intro env A E s loc hh Q st q
  exact h pos env A E s loc hh Q st q
end

namespace P
def neB : Cm := fun a b h Q => ∃ x y, a = .bool x ∧ b = .bool y ∧ Q (x != y) h
end P
theorem cm_neB {W : Wd} {n : Nat} : CmpOk W n .NotEq P.neB := by
  rintro A E s va vb h Q cx R ⟨x, y, ha, hb, q⟩
  obtain rfl := er_bool ha
  obtain rfl := er_bool hb
  exact ne_bool ⟨h, s.heap, s.toks, rfl, Step.refl R, _, rfl, q⟩
end Mini

/-! MiniS -/
namespace Mini
theorem compTurn_outer (elt t1 i1 t2 i2 : Expr) (scope : Scope) (pos : Pos) (it acc : Value) (env : Env) :
    compTurn (.ListComp elt [⟨t1, i1, [], 0⟩, ⟨t2, i2, [], 0⟩] scope pos) 0 it acc env = (standAt i1.pos >>= fun _ => pyNext it >>= fun r => match r with
      | none => pure (.done .next)
      | some v => letOwnedTupleGo t1 it v >>= fun _ => assign t1 env v >>= fun _ =>
        (eval i2 env >>= fun x => standAt i2.pos >>= fun _ => foldedSetIterable i2 env x >>= fun x => holding [x] (pyIter x) >>= fun it2 =>
          runOwn (.compStart (.ListComp elt [⟨t1, i1, [], 0⟩, ⟨t2, i2, [], 0⟩] scope pos) 1 it2 acc env) env >>= fun _ =>
          again (.compLoop (.ListComp elt [⟨t1, i1, [], 0⟩, ⟨t2, i2, [], 0⟩] scope pos) 0 it acc env))) := by rfl
theorem compTurn_inner (elt t1 i1 t2 i2 : Expr) (scope : Scope) (pos : Pos) (it acc : Value) (env : Env) :
    compTurn (.ListComp elt [⟨t1, i1, [], 0⟩, ⟨t2, i2, [], 0⟩] scope pos) 1 it acc env = (standAt i2.pos >>= fun _ => pyNext it >>= fun r => match r with
      | none => pure (.done .next)
      | some v => letOwnedTupleGo t2 it v >>= fun _ => assign t2 env v >>= fun _ =>
        (eval elt env >>= fun x => call (.builtin "list.append") [acc, x] >>= fun _ => pure ()) >>= fun _ =>
          again (.compLoop (.ListComp elt [⟨t1, i1, [], 0⟩, ⟨t2, i2, [], 0⟩] scope pos) 1 it acc env)) := by rfl

section
variable {prog : Program} {w : World} {A : Around} {R : Result → Shared → Prop} {s : Shared}
theorem compLoop_inner {elt t1 i1 t2 i2 : Expr} {scope : Scope} {pos : Pos} {it acc : Value} {env : Env} (I : Nat → Shared → Prop)
    (turn : ∀ n s, I n s → wpAny (model prog w) A (pyNext it) (fun r s₁ => match r with
      | none => R (.ok .next) s₁
      | some v => wpAny (model prog w) A (assign t2 env v) (fun _ s₂ => wpAny (model prog w) A (eval elt env) (fun x s₃ =>
          wpAny (model prog w) A (call (.builtin "list.append") [acc, x]) (fun _ s₄ => ∃ m, m < n ∧ I m s₄) (notedBy (model prog w) A env fun e s' => R (.error e) s') s₃)
          (notedBy (model prog w) A env fun e s' => R (.error e) s') s₂) (notedBy (model prog w) A env fun e s' => R (.error e) s') s₁) (notedBy (model prog w) A env fun e s' => R (.error e) s') s)
    (n : Nat) (h : I n s) (ht : ∀ v, letOwnedTupleGo t2 it v = pure () := by intro _; rfl) :
    codeAny (model prog w) A (.compLoop (.ListComp elt [⟨t1, i1, [], 0⟩, ⟨t2, i2, [], 0⟩] scope pos) 1 it acc env) R s := by
  refine codeAny_loop rfl I (fun n s hI => ?_) n h
  show wpAny _ _ ((compTurn (.ListComp elt [⟨t1, i1, [], 0⟩, ⟨t2, i2, [], 0⟩] scope pos) 1 it acc env).onRaise (fun x => do noteFrame x env; theTreesLotGoes x)) _ _ s
  refine wpAny_noted ?_
  rw [compTurn_inner]
  refine wpAny_bind (wpAny_standAt (wpAny_bind (wpAny_mono (turn n s hI) (fun r s₁ h₁ => ?_) fun _ _ h' => h')))
  cases r with
  | none => exact wpAny_pure h₁
  | some v =>
    refine wpAny_bind (wpAny_of_eq (ht v) ?_)
    exact wpAny_bind (wpAny_mono h₁ (fun _ s₂ h₂ => wpAny_bind (wpAny_bind (wpAny_mono h₂ (fun x s₃ h₃ => wpAny_bind (wpAny_mono h₃
      (fun _ s₄ h₄ => wpAny_pure (wpAny_pure ⟨rfl, h₄⟩)) fun _ _ h' => h')) fun _ _ h' => h'))) fun _ _ h' => h')
theorem compLoop_outer {elt t1 i1 t2 i2 : Expr} {scope : Scope} {pos : Pos} {it acc : Value} {env : Env} (I : Nat → Shared → Prop)
    (turn : ∀ n s, I n s → wpAny (model prog w) A (pyNext it) (fun r s₁ => match r with
      | none => R (.ok .next) s₁
      | some v => wpAny (model prog w) A (assign t1 env v) (fun _ s₂ => wpAny (model prog w) A (eval i2 env) (fun x s₃ => wpAny (model prog w) A (pyIter x) (fun it2 s₄ =>
          codeAny (model prog w) (A.mark none) (.compStart (.ListComp elt [⟨t1, i1, [], 0⟩, ⟨t2, i2, [], 0⟩] scope pos) 1 it2 acc env) (fun r s' => match r with | .ok _ => ∃ m, m < n ∧ I m s' | .error _ => False) s₄)
          (notedBy (model prog w) A env fun e s' => R (.error e) s') s₃) (notedBy (model prog w) A env fun e s' => R (.error e) s') s₂) (notedBy (model prog w) A env fun e s' => R (.error e) s') s₁) (notedBy (model prog w) A env fun e s' => R (.error e) s') s)
    (n : Nat) (h : I n s) (hf : ∀ x, foldedSetIterable i2 env x = pure x) (ht : ∀ v, letOwnedTupleGo t1 it v = pure () := by intro _; rfl) :
    codeAny (model prog w) A (.compLoop (.ListComp elt [⟨t1, i1, [], 0⟩, ⟨t2, i2, [], 0⟩] scope pos) 0 it acc env) R s := by
  refine codeAny_loop rfl I (fun n s hI => ?_) n h
  show wpAny _ _ ((compTurn (.ListComp elt [⟨t1, i1, [], 0⟩, ⟨t2, i2, [], 0⟩] scope pos) 0 it acc env).onRaise (fun x => do noteFrame x env; theTreesLotGoes x)) _ _ s
  refine wpAny_noted ?_
  rw [compTurn_outer]
  refine wpAny_bind (wpAny_standAt (wpAny_bind (wpAny_mono (turn n s hI) (fun r s₁ h₁ => ?_) fun _ _ h' => h')))
  cases r with
  | none => exact wpAny_pure h₁
  | some v =>
    refine wpAny_bind (wpAny_of_eq (ht v) ?_)
    refine wpAny_bind (wpAny_mono h₁ (fun _ s₂ h₂ => wpAny_bind (wpAny_mono h₂ (fun x s₃ h₃ => wpAny_bind (wpAny_standAt ?_)) fun _ _ h' => h')) fun _ _ h' => h')
    rw [hf]
    refine wpAny_bind (wpAny_pure (wpAny_bind (wpAny_holding (wpAny_mono h₃ (fun it2 s₄ h₄ => ?_) fun _ _ h' => h'))))
    refine wpAny_bind (wpAny_runOwn (codeAny_mono h₄ fun r s' x => ?_))
    match r, x with
    | .ok f, x => exact wpAny_pure ⟨rfl, x⟩
theorem compStart_inner {elt t1 i1 t2 i2 : Expr} {scope : Scope} {pos : Pos} {it acc : Value} {env : Env}
    (h0 : codeAny (model prog w) A (.compLoop (.ListComp elt [⟨t1, i1, [], 0⟩, ⟨t2, i2, [], 0⟩] scope pos) 1 it acc env) R s)
    (h : wpAny (model prog w) A (pyIter it) (fun it' s' => codeAny (model prog w) A (.compLoop (.ListComp elt [⟨t1, i1, [], 0⟩, ⟨t2, i2, [], 0⟩] scope pos) 1 it' acc env) R s')
      (notedBy (model prog w) A env fun x s' => R (.error x) s') s) :
    codeAny (model prog w) A (.compStart (.ListComp elt [⟨t1, i1, [], 0⟩, ⟨t2, i2, [], 0⟩] scope pos) 1 it acc env) R s := by
  refine codeAny_of_tree ?_
  show wpAny _ _ ((compStart (.ListComp elt [⟨t1, i1, [], 0⟩, ⟨t2, i2, [], 0⟩] scope pos) 1 it acc env).onRaise (fun x => do noteFrame x env; standAt theWindowsPlace)) _ _ s
  refine wpAny_notedAt ?_
  unfold compStart
  show wpAny _ _ (ask >>= _) _ _ s
  refine wpAny_bind (wpAny_askSetting (wpAny_ite ?_))
  split
  · first
      | exact wpAny_bind (wpAny_pure (wpAny_pure (And.intro rfl h0)))
      | exact wpAny_pure (And.intro rfl h0)
  · first
      | exact wpAny_bind (wpAny_rule (wpAny_bind (wpAny_standAt (wpAny_bind (wpAny_mono h (fun it' s' h' => wpAny_pure (And.intro rfl h')) fun _ _ x => x)))))
      | (refine wpAny_bind (wpAny_rule ?_); show wpAny _ _ (standAt i2.pos >>= _) _ _ s; exact wpAny_bind (wpAny_standAt (wpAny_bind (wpAny_mono h (fun it' s' h' => wpAny_pure (And.intro rfl h')) fun _ _ x => x))))
end
end Mini

/-! MiniU -/
namespace Mini
/-- a comprehension of two clauses, the second a range: the flat list -/
def T.comp2 (B : Addr) (it1 : ItT) (i : Nat) (it2 : ItT) (j : Nat) (e : ET) : ET := fun loc h Q => loc j = Option.none ∧ it1 loc h fun src h1 => ∀ D, B ≤ D → h1 D = Option.none →
  ∃ (I : Nat → List AV → AH → Prop) (N : Nat), I 0 [] (upd h1 D (.list [])) ∧ ∀ k ys h, I k ys h → h D = some (.list ys) ∧ ys.length < 2 ^ 20 ∧ ∃ xs, src.items h = some xs ∧ xs.length ≤ N ∧
    match xs[k]? with
    | Option.none => Q (.ref D) h
    | some v => it2 (upd loc i v) h fun src2 h2 => ∃ (J : Nat → List AV → AH → Prop) (M : Nat), J 0 ys h2 ∧ ∀ m zs h3, J m zs h3 → h3 D = some (.list zs) ∧ zs.length < 2 ^ 20 ∧ ∃ us, src2.items h3 = some us ∧ us.length ≤ M ∧
        match us[m]? with
        | Option.none => I (k + 1) zs h3
        | some u => e (upd (upd loc i v) j u) h3 fun y h4 => h4 D = some (.list zs) ∧ J (m + 1) (zs ++ [y]) (upd h4 D (.list (zs ++ [y])))

section
variable {W : Wd} (ok : WdOk W) {n : Nat} {sc : Scope} {vm vm' : VM}
include ok
/-- a comprehension's block, run to its end -/
theorem comp_core2 {elt iter iter2 : Expr} {x x2 : Str} {px px2 pos : Pos} {scope : Scope} {it it2 : ItT} {i i2 : Nat} {e : ET}
    (hi : ItOk W n sc vm iter it) (hk : scope.kind = .function) (hnd : (scope.names.map (·.1)).Nodup)
    (hfree : ∀ y, (y, NameKind.free) ∈ scope.names → sc.names.lookup y = some .cell) (hskn : sc.kind = .function)
    (hx : scope.names.lookup x = some .local ∨ scope.names.lookup x = some .cell) (hvi : vm' i = some x) (hx2 : scope.names.lookup x2 = some .local ∨ scope.names.lookup x2 = some .cell) (hvi2 : vm' i2 = some x2) (hii : i ≠ i2) (hj : VInj vm')
    (hvm : ∀ j y, vm' j = some y → j ≠ i → j ≠ i2 → vm j = some y ∧ scope.names.lookup y = some .free)
    (hi2 : ItOk W n (relabelS scope sc) vm' iter2 it2) (hs2 : ∀ (env : Env) x, foldedSetIterable iter2 env x = pure x) (he : EvOk W n (relabelS scope sc) vm' elt e)
    {env : Env} {A : Around} {E : Value → Shared → Prop} {s : Shared} {loc : Loc} {h : AH} {Q : AV → AH → Prop} (st : St W n sc vm env A loc h s) (q : T.comp2 W.B it i it2 i2 e loc h Q)
    {RR : Value → Addr → Result → Shared → Prop}
    (fin : ∀ D C hf hp tk, Step W h s.heap hf hp → Q (.ref D) hf → (∃ m, hp.Ns C m) → s.heap.get? C = none → hf C = none → RR (.ref D) C (.ok .next) { s with heap := hp, toks := tk }) :
    wpAny (model W.prog W.w) A (eval iter env) (fun xv s₁ => wpAny (model W.prog W.w) A (pyIter xv) (fun it s₂ => wpAny (model W.prog W.w) A (newList []) (fun acc s₃ =>
      wpAny (model W.prog W.w) A (newFunctionEnv scope env.globals (clOf env.cells scope.names []) [] env.qual none .none (some env)) (fun cenv s₄ =>
        codeAny (model W.prog W.w) A (.compStart (.ListComp elt [⟨.Name x px, iter, [], 0⟩, ⟨.Name x2 px2, iter2, [], 0⟩] scope pos) 0 it acc { cenv with scope := relabel scope env }) (RR acc cenv.locals) s₄) E s₃) E s₂) E s₁) E s := by
  obtain ⟨hl2, q⟩ := q
  have hsome : ∀ y, (y, NameKind.free) ∈ scope.names → (env.cells.lookup y).isSome = true := fun y hy => by
    obtain ⟨d, hd⟩ := st.fr.hc y (by unfold Env.kindOf; rw [st.sc]; exact hfree y hy)
    rw [hd]; rfl
  refine wpAny_mono (hi env A E s loc h _ st q) ?_ fun _ _ x => x
  intro xv s1 h1
  refine wpAny_mono h1 ?_ fun _ _ x => x
  rintro _ _ ⟨src, I0, h1, hp1, tk1, rfl, rfl, S1, hnone, hI0, hB, hit, q1⟩
  have st1 : St W n sc vm env A loc h1 { s with heap := hp1, toks := tk1 } := st.step ok S1
  refine wpAny_newList ?_ (by decide)
  -- the list
  obtain ⟨I, N, hI, turn⟩ := q1 hp1.objs.size st1.rel.size (st1.rel.fresh (get_size_none _))
  have S2 : Step W h1 hp1 (upd h1 hp1.objs.size (.list [])) (hp1.push { cls := .type "list", data := .seq #[] }) := Step.push (c := .list []) st1.rel ⟨_, ⟨0, Heap.get?_push_size _ rfl⟩, rfl⟩
  have st2 : St W n sc vm env A loc (upd h1 hp1.objs.size (.list [])) { s with heap := hp1.push { cls := .type "list", data := .seq #[] }, toks := tk1 } := ⟨st1.sc, st1.cx, st1.fr.step S2, S2.rel ok st1.rel⟩
  have hDn : s.heap.get? hp1.objs.size = none := S1.free (get_size_none _) (st1.rel.fresh (get_size_none _))
  have hDI : hp1.objs.size ≠ I0 := by obtain ⟨o, ho, _⟩ := hit.obj; exact fun q => Nat.lt_irrefl _ (q ▸ Heap.lt_size ho)
  generalize hD : hp1.objs.size = D at *
  generalize hH2 : hp1.push { cls := .type "list", data := .seq #[] } = hp2 at *
  have hit2 : ItAt src hp2 I0 0 := hit.mono fun o e => by rw [← hH2]; exact Heap.get?_push_of_some _ e
  have hI2 : upd h1 D (.list []) I0 = none := by rw [upd_ne (Ne.symm hDI)]; exact hI0
  generalize upd h1 D (.list []) = h2 at *
  have S12 := S1.trans S2
  refine compEnv_ok fun hp3 hhp3 => ?_
  -- the block's environment
  have hC3 : ∀ b o, hp2.get? b = some o → hp3.get? b = some o := fun b o e => by rw [hhp3]; exact pushCells_keeps _ _ b o (Heap.get?_push_of_some _ e)
  have S3 : Step W h2 hp2 h2 hp3 := Step.keeps st2.rel hC3
  have R3 : Rel W h2 hp3 := S3.rel ok st2.rel
  have hCn2 : h2 hp2.objs.size = none := st2.rel.fresh (get_size_none _)
  have hge : ∀ b, hp2.objs.size ≤ b → hp2.get? b = none := fun b hb => by
    cases q : hp2.get? b with
    | none => rfl
    | some o => exact absurd (Heap.lt_size q) (Nat.not_lt.mpr hb)
  have hfr : ∀ b, hp2.objs.size ≤ b → h2 b = none ∧ s.heap.get? b = none := fun b hb => ⟨st2.rel.fresh (hge b hb), S12.free (hge b hb) (st2.rel.fresh (hge b hb))⟩
  have hclsrc : ∀ y d, (clOf env.cells scope.names []).lookup y = some d → env.cells.lookup y = some d := fun y d e => by
    rcases clOf_src hsome e with e | e
    · cases e
    · exact e
  have hsz3 : (hp2.push { cls := .type "dict", data := .dict #[] }).objs.size = hp2.objs.size + 1 := Heap.size_push ..
  have spec := cells_spec scope.names (hp2.push { cls := .type "dict", data := .dict #[] }) (clOf env.cells scope.names []) (fun a b d e1 e2 => st.fr.ap a b d (hclsrc _ _ e1) (hclsrc _ _ e2))
    (fun a d e => by
      obtain ⟨_, _, _, v, o, ho, _⟩ := st2.fr.cl a d (hclsrc _ _ e)
      rw [hsz3]; exact Nat.lt_succ_of_lt (Heap.lt_size ho))
  rw [hsz3, ← hhp3] at spec
  obtain ⟨spec1, spec2⟩ := spec
  have hNs3 : hp3.Ns hp2.objs.size fun _ => none := by rw [hhp3]; exact (Heap.Ns.new hp2 (.type "dict")).keeps (pushCells_keeps _ _)
  generalize hcells : cellsFrom (hp2.objs.size + 1) scope.names (clOf env.cells scope.names []) = cells at *
  generalize hcenv : ({ newEnv scope hp2.objs.size env.globals cells env.qual none .none (some env) builtinsNs with scope := relabel scope env } : Env) = cenv
  have ceL : cenv.locals = hp2.objs.size := by rw [← hcenv]; rfl
  have ceC : cenv.cells = cells := by rw [← hcenv]; rfl
  have ceS : cenv.scope = relabelS scope sc := by rw [← hcenv, ← relabel_eq st.sc]
  have ceK : ∀ y, cenv.kindOf y = (scope.names.lookup y).map fun k => if (k == .free && sc.kind == .function && sc.names.lookup y == some .cell) then .cell else k := fun y => by
    unfold Env.kindOf; rw [ceS]; exact relabelS_lookup
  have hfreeL : ∀ y, scope.names.lookup y = some .free → cells.lookup y = env.cells.lookup y := fun y hy => by
    have hmem := mem_of_lookup hy
    have hnc : (y, NameKind.cell) ∉ scope.names := fun q => by rw [lookup_of_mem hnd q] at hy; cases hy
    rw [← hcells, cells_other _ _ _ hnc, clOf_free hnd hmem]
    obtain ⟨d, hd⟩ := Option.isSome_iff_exists.mp (hsome y hmem)
    rw [hd]; rfl
  let locC : Loc := fun j => if j = i ∨ j = i2 then none else loc j
  have hupd : ∀ v, upd locC i v = upd loc i v := fun v => by
    funext j
    by_cases hji : j = i
    · subst hji; rw [upd_same, upd_same]
    · rw [upd_ne hji, upd_ne hji]
      by_cases h2 : j = i2
      · subst h2; rw [hl2]; exact if_pos (.inr rfl)
      · exact if_neg (by rintro (q | q); exact hji q; exact h2 q)
  have F3 : Frm W cenv vm' locC h2 hp3 := by
    refine ⟨by rw [ceS]; exact hk, by rw [← hcenv]; exact st.fr.hg, by rw [← hcenv]; exact st.fr.hb, by rw [ceL]; exact st2.rel.size, by rw [ceL]; exact hCn2, ⟨_, by rw [ceL]; exact hNs3, fun j y av e1 e2 e3 => ?_⟩, fun y d e => ?_, fun j y av e1 e2 e3 => ?_, fun a b d e1 e2 => ?_, fun y e => ?_⟩
    · by_cases hji : j = i ∨ j = i2
      · simp only [locC, if_pos hji] at e3; cases e3
      · obtain ⟨_, hfr'⟩ := hvm j y e1 (fun q => hji (.inl q)) (fun q => hji (.inr q))
        rw [ceK, hfr'] at e2
        simp only [Option.map_some] at e2
        split at e2 <;> cases e2
    · rw [ceC] at e
      rw [ceL]
      rcases spec2 y d e with e | ⟨e1, e2⟩
      · obtain ⟨a1, a2, a3, v, o, ho, hv⟩ := st2.fr.cl y d (hclsrc _ _ e)
        exact ⟨a1, a2, fun q => Nat.lt_irrefl _ (q ▸ Heap.lt_size ho), v, o, hC3 _ _ ho, hv⟩
      · have e1' : hp2.objs.size < d := e1
        exact ⟨Nat.le_trans st2.rel.size (Nat.le_of_lt e1'), (hfr d (Nat.le_of_lt e1')).1, fun q => Nat.lt_irrefl _ (q ▸ e1'), none, e2⟩
    · by_cases hji : j = i ∨ j = i2
      · simp only [locC, if_pos hji] at e3; cases e3
      · simp only [locC, if_neg hji] at e3
        obtain ⟨hvo, hfr'⟩ := hvm j y e1 (fun q => hji (.inl q)) (fun q => hji (.inr q))
        have hcell : sc.names.lookup y = some .cell := hfree y (mem_of_lookup hfr')
        obtain ⟨d, v, e4, ⟨o, ho, hv⟩, e5⟩ := st2.fr.cv j y av hvo (.inl (by unfold Env.kindOf; rw [st.sc]; exact hcell)) e3
        exact ⟨d, v, by rw [ceC, hfreeL y hfr']; exact e4, ⟨o, hC3 _ _ ho, hv⟩, e5⟩
    · rw [ceC] at e1 e2; exact spec1 a b d e1 e2
    · rw [ceC]
      rw [ceK] at e
      cases hl : scope.names.lookup y with
      | none => rw [hl] at e; cases e
      | some k =>
        rw [hl] at e
        simp only [Option.map_some] at e
        by_cases hkc : k = .cell
        · subst hkc
          have := cellsFrom_some (x := y) scope.names (hp2.objs.size + 1) (clOf env.cells scope.names []) (.inl hl)
          rw [hcells] at this
          exact Option.isSome_iff_exists.mp this
        · have hkf : k = .free := by
            split at e
            · rename_i q; simp only [Bool.and_eq_true, beq_iff_eq] at q; exact q.1.1
            · exact absurd (Option.some.inj e) hkc
          subst hkf
          rw [hfreeL y hl]
          exact Option.isSome_iff_exists.mp (hsome y (mem_of_lookup hl))
  have hI3 : ItAt src hp3 I0 0 := hit2.mono fun o e => hC3 _ o e
  have hown : ∀ b, b = cenv.locals ∨ (∃ y, (y, NameKind.cell) ∈ scope.names ∧ cenv.cells.lookup y = some b) → s.heap.get? b = none ∧ b ≠ I0 := fun b hb => by
    have hI0lt : I0 < hp2.objs.size := by obtain ⟨o, ho, _⟩ := hit2.obj; exact Heap.lt_size ho
    rcases hb with hb | ⟨y, hy, hb⟩
    · rw [hb, ceL]; exact ⟨(hfr _ (Nat.le_refl _)).2, fun q => Nat.lt_irrefl _ (q ▸ hI0lt)⟩
    · rw [ceC] at hb
      rcases spec2 y b hb with e | ⟨e, _⟩
      · exfalso
        have : (clOf env.cells scope.names []).lookup y = ([] : List (Str × Addr)).lookup y := clOf_lookup (fun p hp e q => by
          obtain ⟨a, k⟩ := p
          simp only at e q
          subst e; subst q
          have h1 := lookup_of_mem hnd hp
          rw [lookup_of_mem hnd hy] at h1; cases h1)
        rw [this] at e; cases e
      · have e1' : hp2.objs.size < b := e
        exact ⟨(hfr b (Nat.le_of_lt e1')).2, fun q => Nat.lt_irrefl _ (Nat.lt_trans (q ▸ e1') hI0lt)⟩
  have loop : ∀ s4 : Shared, s4 = { s with heap := hp3, toks := tk1 } → codeAny (model W.prog W.w) A (.compLoop (.ListComp elt [⟨.Name x px, iter, [], 0⟩, ⟨.Name x2 px2, iter2, [], 0⟩] scope pos) 0 (.ref I0) (.ref D) cenv) (RR (.ref D) hp2.objs.size) s4 := by
    rintro s4 rfl
    refine compLoop_outer (prog := W.prog) (w := W.w) (fun m s' => ∃ k ys h' hp tk, m = N + 1 - k ∧ s' = { s with heap := hp, toks := tk } ∧ Step W h s.heap h' hp ∧ Frm W cenv vm' locC h' hp ∧ h' I0 = none ∧ ItAt src hp I0 k ∧ I k ys h') ?_ (N + 1)
      ⟨0, [], h2, hp3, tk1, rfl, rfl, S12.trans S3, F3, hI2, hI3, hI⟩ (hs2 cenv) (by intro _; rfl)
    rintro m _ ⟨k, ys, h4, hp4, tk4, rfl, rfl, S4, F4, hI4, hit4, hinv⟩
    obtain ⟨hDl, hylen, xs, hxs, hN, hm⟩ := turn k ys h4 hinv
    obtain ⟨o, ho, hnt⟩ := hit4.obj
    have hnt' : ∀ o', hp4.get? I0 = some o' → ¬ IsTupO o' := fun o' e => by rw [ho] at e; cases e; exact hnt
    have hownI : ¬ Own cenv I0 := fun q => by
      rcases q with q | ⟨y, q⟩
      · exact (hown I0 (.inl q)).2 rfl
      · have := (F4.cl y I0 q).2.2.2
        obtain ⟨v, o', ho', hv'⟩ := this
        rw [ho] at ho'; cases ho'
        cases src with
        | list a => obtain ⟨o'', e1, e2, e3⟩ := hit4; rw [ho] at e1; cases e1; rw [hv'] at e3; cases e3
        | tup a => obtain ⟨o'', e1, e2, e3⟩ := hit4; rw [ho] at e1; cases e1; rw [hv'] at e3; cases e3
        | range a b c => have e1 : hp4.get? I0 = some _ := hit4.2; rw [ho] at e1; cases e1; cases hv'
    refine next_ok st.cx S4.cells hit4 hxs (fun e hp5 hex => ?_) fun av e v hp5 tk5 hv hit5 hex => ?_
    · rw [e] at hm
      have S5 := S4.ext hex hI4 hnone hnt'
      have F5 := F4.ext hex hownI
      obtain ⟨mm, hmm, _⟩ := F5.ns
      rw [ceL] at hmm
      exact fin D hp2.objs.size h4 hp5 tk4 S5 hm ⟨mm, hmm⟩ (hfr _ (Nat.le_refl _)).2 (by have := F5.nL; rw [ceL] at this; exact this)
    · rw [e] at hm
      have S5 := S4.ext hex hI4 hnone hnt'
      have F5 := F4.ext hex hownI
      have hlt : k < xs.length := by
        rcases Nat.lt_or_ge k xs.length with q | q
        · exact q
        · rw [List.getElem?_eq_none q] at e; cases e
      have hxk : cenv.kindOf x = some .local ∨ cenv.kindOf x = some .cell := by
        rw [ceK]
        rcases hx with hx | hx <;> rw [hx]
        · exact .inl rfl
        · exact .inr rfl
      refine wpAny_assign_Name (store_core (vm := vm') hj F5 hvi hxk fun a hp6 tk6 ha hant han haB hsb F6 => ?_)
      have hab : s.heap.get? a = none ∧ a ≠ I0 := by
        refine hown a (ha.imp id fun q => ⟨x, ?_, q.2⟩)
        rcases hx with hx | hx
        · have := q.1; rw [ceK, hx] at this; cases this
        · exact mem_of_lookup hx
      have S6 := S5.ext hsb.extBut han hab.1 hant
      rw [hupd, hv] at F6
      have hit6 : ItAt src hp6 I0 (k + 1) := hit5.mono fun o e => hsb.extBut _ o (Ne.symm hab.2) e
      have hR6 : Rel W h4 hp6 := S6.rel ok st.rel
      have wk : ∀ j av', locC j = some av' → upd loc i av j = some av' := fun j av' e => by
        by_cases hji : j = i
        · simp only [locC, if_pos (Or.inl hji : j = i ∨ j = i2)] at e; cases e
        · rw [upd_ne hji]
          simp only [locC] at e
          split at e
          · cases e
          · exact e
      have st6 : St W n (relabelS scope sc) vm' cenv A (upd loc i av) h4 { s with heap := hp6, toks := tk6 } := ⟨ceS, st.cx, F6, hR6⟩
      refine wpAny_mono (hi2 cenv A (fun _ _ => False) _ _ h4 _ st6 hm) ?_ fun _ _ x => x.elim
      intro xv2 s6 g1
      refine wpAny_mono g1 ?_ fun _ _ x => x.elim
      rintro _ _ ⟨src2, I2, h7, hp7, tk7, rfl, rfl, S7, hnone2, hI27, hB2, hit27, J, M, hJ, turn2⟩
      have F7 := F6.step S7
      have S67 := S6.trans S7
      obtain ⟨o6, ho6, hnt6⟩ := hit6.obj
      have hI7 : h7 I0 = none := S7.stay ho6 hI4
      have hit7 : ItAt src hp7 I0 (k + 1) := hit6.mono fun o e => S7.keep I0 o e (.inl hI4)
      have hI02 : I0 ≠ I2 := fun q => by rw [q, hnone2] at ho6; cases ho6
      have hown2 : ¬ Own cenv I2 := fun q => by
        obtain ⟨ob, e⟩ := F6.how I2 q
        rw [hnone2] at e; cases e
      have hs2I : s.heap.get? I2 = none := S6.free hnone2 (S7.dom I2 hI27)
      have cxm : Cx n (A.mark none) := ⟨st.cx.hd, st.cx.dp, st.cx.un⟩
      have loop2 : ∀ s5 : Shared, s5 = { s with heap := hp7, toks := tk7 } → codeAny (model W.prog W.w) (A.mark none) (.compLoop (.ListComp elt [⟨.Name x px, iter, [], 0⟩, ⟨.Name x2 px2, iter2, [], 0⟩] scope pos) 1 (.ref I2) (.ref D) cenv)
          (fun r s' => match r with | .ok _ => ∃ m, m < N + 1 - k ∧ ∃ k ys h' hp tk, m = N + 1 - k ∧ s' = { s with heap := hp, toks := tk } ∧ Step W h s.heap h' hp ∧ Frm W cenv vm' locC h' hp ∧ h' I0 = none ∧ ItAt src hp I0 k ∧ I k ys h' | .error _ => False) s5 := by
        rintro s5 rfl
        refine compLoop_inner (prog := W.prog) (w := W.w) (fun m s' => ∃ k2 zs h' hp tk, m = M + 1 - k2 ∧ s' = { s with heap := hp, toks := tk } ∧ Step W h s.heap h' hp ∧ Frm W cenv vm' (upd loc i av) h' hp ∧ h' I0 = none ∧ ItAt src hp I0 (k + 1) ∧ h' I2 = none ∧ ItAt src2 hp I2 k2 ∧ J k2 zs h') ?_ (M + 1)
          ⟨0, ys, h7, hp7, tk7, rfl, rfl, S67, F7, hI7, hit7, hI27, hit27, hJ⟩ (by intro _; rfl)
        rintro m _ ⟨k2, zs, h8, hp8, tk8, rfl, rfl, S8, F8, hI8, hit8, hI28, hit28, hinv2⟩
        obtain ⟨hDl2, hzlen, us, hus2, hM, hm2⟩ := turn2 k2 zs h8 hinv2
        obtain ⟨o2, ho2, hnt2⟩ := hit28.obj
        have hnt2' : ∀ o', hp8.get? I2 = some o' → ¬ IsTupO o' := fun o' e => by rw [ho2] at e; cases e; exact hnt2
        refine next_ok cxm S8.cells hit28 hus2 (fun e2 hp9 hex2 => ?_) fun av2 e2 v2 hp9 tk9 hv2 hit29 hex2 => ?_
        · rw [e2] at hm2
          exact ⟨N + 1 - (k + 1), by omega, k + 1, zs, h8, hp9, tk8, rfl, rfl, S8.ext hex2 hI28 hs2I hnt2', (F8.ext hex2 hown2).weaken wk, hI8, hit8.mono fun o e => hex2 I0 o hI02 e, hm2⟩
        · rw [e2] at hm2
          have S9 := S8.ext hex2 hI28 hs2I hnt2'
          have F9 := F8.ext hex2 hown2
          have hlt2 : k2 < us.length := by
            rcases Nat.lt_or_ge k2 us.length with q | q
            · exact q
            · rw [List.getElem?_eq_none q] at e2; cases e2
          have hxk2 : cenv.kindOf x2 = some .local ∨ cenv.kindOf x2 = some .cell := by
            rw [ceK]
            rcases hx2 with hx | hx <;> rw [hx]
            · exact .inl rfl
            · exact .inr rfl
          refine wpAny_assign_Name (store_core (vm := vm') hj F9 hvi2 hxk2 fun a2 hp10 tk10 ha2 hant2 han2 haB2 hsb2 F10 => ?_)
          have hab2 : s.heap.get? a2 = none ∧ a2 ≠ I0 := by
            refine hown a2 (ha2.imp id fun q => ⟨x2, ?_, q.2⟩)
            rcases hx2 with hx | hx
            · have := q.1; rw [ceK, hx] at this; cases this
            · exact mem_of_lookup hx
          have ho2' : Own cenv a2 := ha2.imp id fun q => ⟨x2, q.2⟩
          have ha2I : a2 ≠ I2 := fun q => hown2 (q ▸ ho2')
          have S10 := S9.ext hsb2.extBut han2 hab2.1 hant2
          rw [hv2] at F10
          have hit10 : ItAt src hp10 I0 (k + 1) := (hit8.mono fun o e => hex2 I0 o hI02 e).mono fun o e => hsb2.extBut _ o (Ne.symm hab2.2) e
          have hit210 : ItAt src2 hp10 I2 (k2 + 1) := hit29.mono fun o e => hsb2.extBut _ o (Ne.symm ha2I) e
          have R10 : Rel W h8 hp10 := S10.rel ok st.rel
          have st10 : St W n (relabelS scope sc) vm' cenv (A.mark none) (upd (upd loc i av) i2 av2) h8 { s with heap := hp10, toks := tk10 } := ⟨ceS, cxm, F10, R10⟩
          refine wpAny_mono (he cenv (A.mark none) (fun _ _ => False) _ _ h8 _ st10 hm2) ?_ fun _ _ x => x.elim
          rintro y s' ⟨h11, hp11, tk11, rfl, S11, hD11, q11⟩
          have F11 := F10.step S11
          have S1011 := S10.trans S11
          have R11 : Rel W h11 hp11 := S1011.rel ok st.rel
          obtain ⟨vs11, hpl, hvs⟩ := R11.cells D _ hD11
          obtain ⟨o10, ho10, _⟩ := hit10.obj
          obtain ⟨o210, ho210, _⟩ := hit210.obj
          have hI11 : h11 I0 = none := S11.stay ho10 hI8
          have hI211 : h11 I2 = none := S11.stay ho210 hI28
          have hit11 : ItAt src hp11 I0 (k + 1) := hit10.mono fun o e => S11.keep I0 o e (.inl hI8)
          have hit211 : ItAt src2 hp11 I2 (k2 + 1) := hit210.mono fun o e => S11.keep I2 o e (.inl hI28)
          have hDB : W.B ≤ D := by rw [← hD]; exact st1.rel.size
          refine wpAny_list_append_plain hpl (fun hp12 hpl12 hs12 => ?_) (by rw [map_len hvs, sizeLine_eq]; omega)
          have S12' : Step W h11 hp11 (upd h11 D (.list (zs ++ [er y]))) hp12 := Step.set R11 hD11 hDB (list_notTup hpl) hs12 ⟨_, hpl12, by simp [hvs]⟩
          have F12 := F11.step S12'
          obtain ⟨o11, ho11, _⟩ := hit11.obj
          obtain ⟨o211, ho211, _⟩ := hit211.obj
          have wk3 : ∀ j av', upd loc i av j = some av' → upd (upd loc i av) i2 av2 j = some av' := fun j av' e => by
            by_cases hj2 : j = i2
            · subst hj2; rw [upd_ne (Ne.symm hii), hl2] at e; cases e
            · rw [upd_ne hj2]; exact e
          exact ⟨M + 1 - (k2 + 1), by omega, k2 + 1, zs ++ [er y], _, hp12, tk11, rfl, rfl, S1011.trans S12', F12.weaken wk3, S12'.stay ho11 hI11, hit11.mono fun o e => S12'.keep I0 o e (.inl hI11), S12'.stay ho211 hI211, hit211.mono fun o e => S12'.keep I2 o e (.inl hI211), q11⟩
      refine compStart_inner (loop2 _ rfl) ?_
      cases src2 with
      | list a => exact wpAny_pyIter_listiter hit27 (loop2 _ rfl)
      | tup a => exact wpAny_pyIter_tupleiter hit27 (loop2 _ rfl)
      | range a b c => exact wpAny_pyIter_rangeiter hit27.2 (loop2 _ rfl)
  refine codeAny_compStart_list (loop _ rfl) ?_
  cases src with
  | list a => exact wpAny_pyIter_listiter hI3 (loop _ rfl)
  | tup a => exact wpAny_pyIter_tupleiter hI3 (loop _ rfl)
  | range a b c => exact wpAny_pyIter_rangeiter hI3.2 (loop _ rfl)
end
end Mini

/-! MiniV -/
namespace Mini

def cvm2 (l : List (Nat × Str)) (scope : Scope) (i : Nat) (x : Str) (i2 : Nat) (x2 : Str) : List (Nat × Str) := (i2, x2) :: cvm l scope i x
def compChk2 (l : List (Nat × Str)) (sc scope : Scope) (i : Nat) (x : Str) (i2 : Nat) (x2 : Str) : Bool :=
  decide ((scope.names.map (·.1)).Nodup) && scope.names.all (fun p => p.2 != .free || sc.names.lookup p.1 == some .cell) && (scope.names.lookup x == some .local || scope.names.lookup x == some .cell) &&
  (scope.names.lookup x2 == some .local || scope.names.lookup x2 == some .cell) && decide (i ≠ i2) &&
  decide ((l.map (·.1)).Nodup) && scope.kind == .function && sc.kind == .function && decide (((cvm2 l scope i x i2 x2).map (·.2)).Nodup)

section
variable {W : Wd} (ok : WdOk W) {n : Nat} {sc : Scope} {l : List (Nat × Str)}
include ok
theorem ev_comp2 {elt iter iter2 : Expr} {x x2 : Str} {px px2 pos : Pos} {scope : Scope} {it it2 : ItT} {i i2 : Nat} {e : ET}
    (chk : compChk2 l sc scope i x i2 x2 = true) (hi : ItOk W n sc (vmOf l) iter it)
    (hi2 : ItOk W n (relabelS scope sc) (vmOf (cvm2 l scope i x i2 x2)) iter2 it2) (he : EvOk W n (relabelS scope sc) (vmOf (cvm2 l scope i x i2 x2)) elt e)
    (hs : ∀ (env : Env) x, foldedSetIterable iter env x = pure x) (hs2 : ∀ (env : Env) x, foldedSetIterable iter2 env x = pure x) :
    EvOk W n sc (vmOf l) (.ListComp elt [⟨.Name x px, iter, [], 0⟩, ⟨.Name x2 px2, iter2, [], 0⟩] scope pos) (T.comp2 W.B it i it2 i2 e) := by
  unfold compChk2 at chk
  simp only [Bool.and_eq_true, Bool.or_eq_true, decide_eq_true_eq, beq_iff_eq, List.all_eq_true] at chk
  obtain ⟨⟨⟨⟨⟨⟨⟨⟨c1, c2⟩, c3⟩, d3⟩, d4⟩, c4⟩, c5⟩, c6⟩, c7⟩ := chk
  have hfree : ∀ y, (y, NameKind.free) ∈ scope.names → sc.names.lookup y = some .cell := fun y hy => by
    have := c2 _ hy
    simpa using this
  intro env A E s loc h Q st q
  rw [eval_ListComp]
  refine wpAny_comprehension_free (use := none) rfl (hs env) (closure_st ok st hfree) c5 (fun y hy hl => lookup_of_mem c1 (by rw [← hl]; exact hy)) ?_
  refine comp_core2 ok (vm' := vmOf (cvm2 l scope i x i2 x2)) hi c5 c1 hfree c6 c3 ?_ d3 ?_ d4 (vinj_of (decide_eq_true c7)) (fun j y h hj hj2 => ?_) hi2 hs2 he st q (RR := fun acc C => compPost (model W.prog W.w) A E none (Res W h s Q) acc C) ?_
  · show List.lookup i ((i2, x2) :: (i, x) :: _) = some x
    rw [List.lookup_cons, show (i == i2) = false by simpa using d4, List.lookup_cons, beq_self_eq_true]
  · show List.lookup i2 ((i2, x2) :: _) = some x2
    rw [List.lookup_cons, beq_self_eq_true]
  · have h' : List.lookup j ((i2, x2) :: (i, x) :: l.filter fun p => scope.names.lookup p.2 == some .free) = some y := h
    rw [List.lookup_cons, show (j == i2) = false by simpa using hj2, List.lookup_cons, show (j == i) = false by simpa using hj] at h'
    obtain ⟨h1, h2⟩ := lookup_filter c4 h'
    exact ⟨h1, by simpa using h2⟩
  · intro D C hf hp tk S hQ hC hCn hCf
    obtain ⟨m, hm⟩ := hC
    refine ⟨m, hm, fun h' hs' => ⟨hf, h', tk, rfl, S.ext hs'.extBut hCf hCn (ns_notTup hm), hQ⟩⟩
end
end Mini

/-! L3T -/
namespace Mini
/-- bisect_left: 0 a, 1 x, 2 lo, 3 hi, 4 key, 5 mid -/
def t_bis (B : Addr) : ST :=
  (T.seq (T.ife (T.cmp P.lt (T.var 2) (T.int 0))
   T.sbad
   T.skip)
  (T.seq (T.ife (T.cmp P.isN (T.var 3) T.none)
   (T.asg 3 (T.call (T.econs (T.var 0) T.enil) F.len))
   T.skip)
  (T.seq (T.ife (T.cmp P.isN (T.var 4) T.none)
   (T.while_ (T.cmp P.lt (T.var 2) (T.var 3))
   (T.seq (T.asg 5 (T.bin P.fdiv (T.bin P.add (T.var 2) (T.var 3)) (T.int 2)))
  (T.ife (T.cmp P.lt (T.idx (T.var 0) (T.var 5)) (T.var 1))
   (T.asg 2 (T.bin P.add (T.var 5) (T.int 1)))
   (T.asg 3 (T.var 5)))))
   T.sbad)
  (T.ret (T.var 2)))))
def v_bis : List (Nat × Str) := [(0, "a"), (1, "x"), (2, "lo"), (3, "hi"), (4, "key"), (5, "mid")]
def n_bis : List Str := ["a", "x", "lo", "hi", "key"]
def f_bis2 (B : Addr) : F.Fn := fun avs h Q => avs.length = 2 ∧ fnT (fun avs => avs ++ [.int 0, .none, .none]) (t_bis B) avs h Q

/-- _law_after: 0 places, 1 sign, 2 at, 3 told -/
def t_after (B : Addr) : ST :=
  (T.seq (T.asg 3 (T.call (T.econs (T.idx (T.var 0) (T.var 1)) (T.econs (T.var 2) T.enil)) (f_bis2 B)))
  (T.ret (T.ifx (T.cmp P.lt (T.var 3) (T.call (T.econs (T.idx (T.var 0) (T.var 1)) T.enil) F.len)) (T.bin P.add (T.idx (T.idx (T.var 0) (T.var 1)) (T.var 3)) (T.int 1)) (T.neg (T.int 1)))))
def v_after : List (Nat × Str) := [(0, "places"), (1, "sign"), (2, "at"), (3, "told")]
def n_after : List Str := ["places", "sign", "at"]
def f_after (B : Addr) : F.Fn := fun avs h Q => avs.length = 3 ∧ fnT (fun avs => avs) (t_after B) avs h Q

/-- _law_follows: 0 places, 1 word, 2 at, 3 sign -/
def t_follows (B : Addr) : ST :=
  (T.seq (T.asg 2 (T.int 0))
  (T.seq (T.for_ (T.itT (T.var 1)) (T.asN 3)
   (T.seq (T.asg 2 (T.call (T.econs (T.var 0) (T.econs (T.var 3) (T.econs (T.var 2) T.enil))) (f_after B)))
  (T.ife (T.cmp P.lt (T.var 2) (T.int 0))
   (T.ret (T.bool false))
   T.skip)))
  (T.ret (T.bool true))))
def v_follows : List (Nat × Str) := [(0, "places"), (1, "word"), (2, "at"), (3, "sign")]
def n_follows : List Str := ["places", "word"]
def f_follows (B : Addr) : F.Fn := fun avs h Q => avs.length = 2 ∧ fnT (fun avs => avs) (t_follows B) avs h Q

/-- _law_left_over: 0 word, 1 leaves, 2 sign, 3 kept, 4 one -/
def t_left_over (B : Addr) : ST :=
  (T.seq (T.asg 1 (T.list B (T.econs (T.tup B T.enil) T.enil)))
  (T.seq (T.for_ (T.itL (T.var 0)) (T.asN 2)
   (T.asg 1 (T.bin (P.addL B) (T.var 1) (T.comp B (T.itL (T.var 1)) 5 T.yes (T.bin (P.addT B) (T.var 5) (T.tup B (T.econs (T.var 2) T.enil)))))))
  (T.seq (T.asg 3 (T.dict0T B))
  (T.seq (T.for_ (T.itL (T.var 1)) (T.asN 4)
   (T.setidxT B (T.var 3) (T.var 4) (T.bool true)))
  (T.ret (T.var 3))))))
def v_left_over : List (Nat × Str) := [(0, "word"), (1, "leaves"), (2, "sign"), (3, "kept"), (4, "one")]
def n_left_over : List Str := ["word"]
def f_left_over (B : Addr) : F.Fn := fun avs h Q => avs.length = 1 ∧ fnT (fun avs => avs) (t_left_over B) avs h Q

/-- _law_longer: 0 words, 1 size -/
def t_longer (B : Addr) : ST :=
  (T.ret (T.comp2 B (T.itL (T.var 0)) 2 (T.itR1 (T.econs (T.var 1) T.enil)) 3 (T.bin (P.addT B) (T.var 2) (T.tup B (T.econs (T.var 3) T.enil)))))
def v_longer : List (Nat × Str) := [(0, "words"), (1, "size")]
def n_longer : List Str := ["words", "size"]
def f_longer (B : Addr) : F.Fn := fun avs h Q => avs.length = 2 ∧ fnT (fun avs => avs) (t_longer B) avs h Q

/-- _law_back: 0 places, 1 size, 2 count, 3 many, 4 short, 5 at, 6 steps -/
def t_back (B : Addr) : ST :=
  (T.seq (T.asg 3 (T.bin (P.mulL B) (T.list B (T.econs (T.int 0) T.enil)) (T.bin P.add (T.var 2) (T.int 1))))
  (T.seq (T.asg 4 (T.bin (P.mulL B) (T.list B (T.econs (T.int 0) T.enil)) (T.bin P.add (T.var 2) (T.int 1))))
  (T.seq (T.for_ (T.itRd (T.econs (T.var 2) (T.econs (T.neg (T.int 1)) (T.econs (T.neg (T.int 1)) T.enil)))) (T.asN 5)
   (T.seq (T.asg 6 (T.comp B (T.itR1 (T.econs (T.var 1) T.enil)) 9 T.yes (T.call (T.econs (T.var 0) (T.econs (T.var 9) (T.econs (T.var 5) T.enil))) (f_after B))))
  (T.seq (T.setidx B (T.var 3) (T.var 5) (T.bin P.add (T.int 1) (T.call (T.econs (T.comp B (T.itL (T.var 6)) 8 (T.cmp P.ge (T.var 8) (T.int 0)) (T.idx (T.var 3) (T.var 8))) T.enil) F.sum)))
  (T.setidx B (T.var 4) (T.var 5) (T.call (T.econs (T.comp B (T.itL (T.var 6)) 7 T.yes (T.ifx (T.cmp P.lt (T.var 7) (T.int 0)) (T.int 1) (T.bin P.add (T.int 1) (T.idx (T.var 4) (T.var 7))))) T.enil) F.minL)))))
  (T.ret (T.tup B (T.econs (T.idx (T.var 3) (T.int 0)) (T.econs (T.idx (T.var 4) (T.int 0)) T.enil)))))))
def v_back : List (Nat × Str) := [(0, "places"), (1, "size"), (2, "count"), (3, "many"), (4, "short"), (5, "at"), (6, "steps")]
def n_back : List Str := ["places", "size", "count"]
def f_back (B : Addr) : F.Fn := fun avs h Q => avs.length = 3 ∧ fnT (fun avs => avs) (t_back B) avs h Q

/-- law: 0 script, 1 first, 2 size, 3 word, 4 count, 5 places, 6 ends, 7 at, 8 steps, 9 gone, 10 arches, 11 kept, 12 words, 13 shortest, 14 length, 15 one, 16 many, 17 short -/
def t_law (B : Addr) : ST :=
  (T.seq (T.asg 1 (T.ifx (T.truL (T.var 0)) (T.call (T.econs (T.idx (T.var 0) (T.int 0)) T.enil) F.abs) (T.int 1)))
  (T.seq (T.asg 2 (T.bin P.add (T.int 2) (T.bin P.fmod (T.var 1) (T.int 3))))
  (T.seq (T.asg 3 (T.comp B (T.itL (T.bin (P.addL B) (T.call (T.econs (T.slice B (T.var 0) (some (T.int 1)) (some (T.int 7))) T.enil) (F.listOf B)) (T.list B (T.econs (T.int 0) (T.econs (T.int 1) (T.econs (T.int 0) T.enil)))))) 24 T.yes (T.bin P.fmod (T.call (T.econs (T.var 24) T.enil) F.abs) (T.var 2))))
  (T.seq (T.asg 4 (T.call (T.econs (T.var 3) T.enil) F.len))
  (T.seq (T.asg 5 (T.comp B (T.itR1 (T.econs (T.var 2) T.enil)) 22 T.yes (T.comp B (T.itR1 (T.econs (T.var 4) T.enil)) 23 (T.cmp P.eqI (T.idx (T.var 3) (T.var 23)) (T.var 22)) (T.var 23))))
  (T.seq (T.asg 6 (T.list B T.enil))
  (T.seq (T.asg 7 (T.int 0))
  (T.seq (T.asg 8 (T.comp B (T.itR1 (T.econs (T.var 2) T.enil)) 21 T.yes (T.call (T.econs (T.var 5) (T.econs (T.var 21) (T.econs (T.var 7) T.enil))) (f_after B))))
  (T.seq (T.while_ (T.and (T.cmp P.ge (T.call (T.econs (T.var 8) T.enil) F.minL) (T.int 0)) (T.cmp P.lt (T.call (T.econs (T.var 6) T.enil) F.len) (T.var 4)))
   (T.seq (T.asg 7 (T.call (T.econs (T.var 8) T.enil) F.maxL))
  (T.seq (T.expr (T.meth (T.var 6) (T.econs (T.idx (T.var 3) (T.bin P.sub (T.var 7) (T.int 1))) T.enil) (F.append B)))
  (T.asg 8 (T.comp B (T.itR1 (T.econs (T.var 2) T.enil)) 20 T.yes (T.call (T.econs (T.var 5) (T.econs (T.var 20) (T.econs (T.var 7) T.enil))) (f_after B)))))))
  (T.seq (T.asg 9 (T.comp B (T.itR1 (T.econs (T.var 2) T.enil)) 19 (T.cmp P.lt (T.idx (T.var 8) (T.var 19)) (T.int 0)) (T.var 19)))
  (T.seq (T.ife (T.cmp P.eqIL (T.var 9) (T.list B T.enil))
   (T.ret (T.bool false))
   T.skip)
  (T.seq (T.asg 10 (T.call (T.econs (T.var 6) T.enil) F.len))
  (T.seq (T.asg 11 (T.call (T.econs (T.var 3) T.enil) (f_left_over B)))
  (T.seq (T.asg 12 (T.list B (T.econs (T.tup B T.enil) T.enil)))
  (T.seq (T.asg 13 (T.int 0))
  (T.seq (T.for_ (T.itR1 (T.econs (T.bin P.add (T.var 10) (T.int 2)) T.enil)) (T.asN 14)
   (T.seq (T.for_ (T.itL (T.var 12)) (T.asN 15)
   (T.seq (T.ife (T.cmp P.neB (T.call (T.econs (T.var 5) (T.econs (T.var 15) T.enil)) (f_follows B)) (T.val (T.cmp P.inT (T.var 15) (T.var 11))))
   (T.ret (T.bool false))
   T.skip)
  (T.ife (T.and (T.cmp P.le (T.var 14) (T.var 10)) (T.cmp P.ninT (T.var 15) (T.var 11)))
   (T.ret (T.bool false))
   T.skip)))
  (T.seq (T.ife (T.and (T.cmp P.eqI (T.var 14) (T.bin P.add (T.var 10) (T.int 1))) (T.cmp P.neD (T.comp B (T.itL (T.var 12)) 18 (T.cmp P.ninT (T.var 18) (T.var 11)) (T.var 18)) (T.list B T.enil)))
   (T.asg 13 (T.var 14))
   T.skip)
  (T.asg 12 (T.call (T.econs (T.var 12) (T.econs (T.var 2) T.enil)) (f_longer B))))))
  (T.seq (T.ife (T.or (T.truB (T.call (T.econs (T.var 5) (T.econs (T.call (T.econs (T.bin (P.addL B) (T.var 6) (T.slice B (T.var 9) none (some (T.int 1)))) T.enil) (F.tupleOf B)) T.enil)) (f_follows B))) (T.cmp P.inT (T.call (T.econs (T.bin (P.addL B) (T.var 6) (T.slice B (T.var 9) none (some (T.int 1)))) T.enil) (F.tupleOf B)) (T.var 11)))
   (T.ret (T.bool false))
   T.skip)
  (T.seq (T.asgT [16, 17] (T.call (T.econs (T.var 5) (T.econs (T.var 2) (T.econs (T.var 4) T.enil))) (f_back B)))
  (T.ret (T.andv (T.andC (T.cmp P.eqI (T.var 16) (T.call (T.econs (T.var 11) T.enil) F.lenT)) (T.andC (T.cmp P.eqI (T.var 17) (T.bin P.add (T.var 10) (T.int 1))) (T.andC (T.cmp P.eqI (T.var 13) (T.var 17)) T.andN)))))))))))))))))))))))
def v_law : List (Nat × Str) := [(0, "script"), (1, "first"), (2, "size"), (3, "word"), (4, "count"), (5, "places"), (6, "ends"), (7, "at"), (8, "steps"), (9, "gone"), (10, "arches"), (11, "kept"), (12, "words"), (13, "shortest"), (14, "length"), (15, "one"), (16, "many"), (17, "short")]
def n_law : List Str := ["script"]
def f_law (B : Addr) : F.Fn := fun avs h Q => avs.length = 1 ∧ fnT (fun avs => avs) (t_law B) avs h Q

end Mini

/-! L3A -/
namespace Mini
open PySem.Challenge
set_option maxHeartbeats 8000000 in
theorem bk_bis {W : Wd} (ok : WdOk W) {n : Nat}
    (g_len : GlobAt W "len" (.builtin "len")) :
    BkOk W n (scopeAt pw_ec5002_03 1) (vmOf v_bis) (bodyAt pw_ec5002_03 1) (t_bis W.B) := by
  have hj : VInj (vmOf v_bis) := vinj_of (by decide +kernel)
  exact (bk_cons ok (ex_if ok (ts_cmp ok cm_lt (by first | exact ev_local ok rfl rfl rfl | exact ev_cell ok rfl rfl rfl | exact ev_free ok rfl rfl rfl rfl) (ev_int ok) rfl)
   (bk_one ok ex_bad)
   (bk_nil ok))
  (bk_cons ok (ex_if ok (ts_cmp ok cm_isN (by first | exact ev_local ok rfl rfl rfl | exact ev_cell ok rfl rfl rfl | exact ev_free ok rfl rfl rfl rfl) (ev_none ok) rfl)
   (bk_one ok (ex_asg ok hj (ev_callB ok (.inl ⟨_, rfl⟩) g_len rfl rfl (es_cons ok (by first | exact ev_local ok rfl rfl rfl | exact ev_cell ok rfl rfl rfl | exact ev_free ok rfl rfl rfl rfl) (es_nil ok) (fun _ => rfl)) (fo_len ok) (fun _ => rfl) (fun _ _ => rfl)) rfl (by first | exact .inl rfl | exact .inr rfl) (fun _ _ => rfl)))
   (bk_nil ok))
  (bk_cons ok (ex_if ok (ts_cmp ok cm_isN (by first | exact ev_local ok rfl rfl rfl | exact ev_cell ok rfl rfl rfl | exact ev_free ok rfl rfl rfl rfl) (ev_none ok) rfl)
   (bk_one ok (ex_while ok (ts_cmp ok cm_lt (by first | exact ev_local ok rfl rfl rfl | exact ev_cell ok rfl rfl rfl | exact ev_free ok rfl rfl rfl rfl) (by first | exact ev_local ok rfl rfl rfl | exact ev_cell ok rfl rfl rfl | exact ev_free ok rfl rfl rfl rfl) rfl)
   (bk_cons ok (ex_asg ok hj (ev_bin ok op_fdiv (ev_bin ok op_add (by first | exact ev_local ok rfl rfl rfl | exact ev_cell ok rfl rfl rfl | exact ev_free ok rfl rfl rfl rfl) (by first | exact ev_local ok rfl rfl rfl | exact ev_cell ok rfl rfl rfl | exact ev_free ok rfl rfl rfl rfl)) (ev_int ok)) rfl (by first | exact .inl rfl | exact .inr rfl) (fun _ _ => rfl))
  (bk_one ok (ex_if ok (ts_cmp ok cm_lt (ev_idx ok (by first | exact ev_local ok rfl rfl rfl | exact ev_cell ok rfl rfl rfl | exact ev_free ok rfl rfl rfl rfl) (by first | exact ev_local ok rfl rfl rfl | exact ev_cell ok rfl rfl rfl | exact ev_free ok rfl rfl rfl rfl) (fun _ _ => rfl)) (by first | exact ev_local ok rfl rfl rfl | exact ev_cell ok rfl rfl rfl | exact ev_free ok rfl rfl rfl rfl) rfl)
   (bk_one ok (ex_asg ok hj (ev_bin ok op_add (by first | exact ev_local ok rfl rfl rfl | exact ev_cell ok rfl rfl rfl | exact ev_free ok rfl rfl rfl rfl) (ev_int ok)) rfl (by first | exact .inl rfl | exact .inr rfl) (fun _ _ => rfl)))
   (bk_one ok (ex_asg ok hj (by first | exact ev_local ok rfl rfl rfl | exact ev_cell ok rfl rfl rfl | exact ev_free ok rfl rfl rfl rfl) rfl (by first | exact .inl rfl | exact .inr rfl) (fun _ _ => rfl))))))))
   bk_bad)
  (bk_one ok (ex_return ok (by first | exact ev_local ok rfl rfl rfl | exact ev_cell ok rfl rfl rfl | exact ev_free ok rfl rfl rfl rfl))))))

set_option maxHeartbeats 8000000 in
theorem bk_after {W : Wd} (ok : WdOk W) {n : Nat} {g_bis : Addr}
    (d_bis : DefAt W "bisect_left" g_bis)
    (h_bis2 : FOk W n (.ref g_bis) (f_bis2 W.B))
    (g_len : GlobAt W "len" (.builtin "len")) :
    BkOk W n (scopeAt pw_ec5002_03 3) (vmOf v_after) (bodyAt pw_ec5002_03 3) (t_after W.B) := by
  have hj : VInj (vmOf v_after) := vinj_of (by decide +kernel)
  exact (bk_cons ok (ex_asg ok hj (ev_def ok d_bis rfl rfl (es_cons ok (ev_idx ok (by first | exact ev_local ok rfl rfl rfl | exact ev_cell ok rfl rfl rfl | exact ev_free ok rfl rfl rfl rfl) (by first | exact ev_local ok rfl rfl rfl | exact ev_cell ok rfl rfl rfl | exact ev_free ok rfl rfl rfl rfl) (fun _ _ => rfl)) (es_cons ok (by first | exact ev_local ok rfl rfl rfl | exact ev_cell ok rfl rfl rfl | exact ev_free ok rfl rfl rfl rfl) (es_nil ok) (fun _ => rfl)) (fun _ => rfl)) h_bis2 (fun _ => rfl)) rfl (by first | exact .inl rfl | exact .inr rfl) (fun _ _ => rfl))
  (bk_one ok (ex_return ok (ev_ifx ok (ts_cmp ok cm_lt (by first | exact ev_local ok rfl rfl rfl | exact ev_cell ok rfl rfl rfl | exact ev_free ok rfl rfl rfl rfl) (ev_callB ok (.inl ⟨_, rfl⟩) g_len rfl rfl (es_cons ok (ev_idx ok (by first | exact ev_local ok rfl rfl rfl | exact ev_cell ok rfl rfl rfl | exact ev_free ok rfl rfl rfl rfl) (by first | exact ev_local ok rfl rfl rfl | exact ev_cell ok rfl rfl rfl | exact ev_free ok rfl rfl rfl rfl) (fun _ _ => rfl)) (es_nil ok) (fun _ => rfl)) (fo_len ok) (fun _ => rfl) (fun _ _ => rfl)) rfl) (ev_bin ok op_add (ev_idx ok (ev_idx ok (by first | exact ev_local ok rfl rfl rfl | exact ev_cell ok rfl rfl rfl | exact ev_free ok rfl rfl rfl rfl) (by first | exact ev_local ok rfl rfl rfl | exact ev_cell ok rfl rfl rfl | exact ev_free ok rfl rfl rfl rfl) (fun _ _ => rfl)) (by first | exact ev_local ok rfl rfl rfl | exact ev_cell ok rfl rfl rfl | exact ev_free ok rfl rfl rfl rfl) (fun _ _ => rfl)) (ev_int ok)) (ev_neg ok (ev_int ok))))))

set_option maxHeartbeats 8000000 in
theorem bk_follows {W : Wd} (ok : WdOk W) {n : Nat} {g_after : Addr}
    (d_after : DefAt W "_law_after" g_after)
    (h_after : FOk W n (.ref g_after) (f_after W.B)) :
    BkOk W n (scopeAt pw_ec5002_03 4) (vmOf v_follows) (bodyAt pw_ec5002_03 4) (t_follows W.B) := by
  have hj : VInj (vmOf v_follows) := vinj_of (by decide +kernel)
  exact (bk_cons ok (ex_asg ok hj (ev_int ok) rfl (by first | exact .inl rfl | exact .inr rfl) (fun _ _ => rfl))
  (bk_cons ok (ex_for ok (it_tup ok (by first | exact ev_local ok rfl rfl rfl | exact ev_cell ok rfl rfl rfl | exact ev_free ok rfl rfl rfl rfl)) (as_name ok hj rfl (by first | exact .inl rfl | exact .inr rfl))
   (bk_cons ok (ex_asg ok hj (ev_def ok d_after rfl rfl (es_cons ok (by first | exact ev_local ok rfl rfl rfl | exact ev_cell ok rfl rfl rfl | exact ev_free ok rfl rfl rfl rfl) (es_cons ok (by first | exact ev_local ok rfl rfl rfl | exact ev_cell ok rfl rfl rfl | exact ev_free ok rfl rfl rfl rfl) (es_cons ok (by first | exact ev_local ok rfl rfl rfl | exact ev_cell ok rfl rfl rfl | exact ev_free ok rfl rfl rfl rfl) (es_nil ok) (fun _ => rfl)) (fun _ => rfl)) (fun _ => rfl)) h_after (fun _ => rfl)) rfl (by first | exact .inl rfl | exact .inr rfl) (fun _ _ => rfl))
  (bk_one ok (ex_if ok (ts_cmp ok cm_lt (by first | exact ev_local ok rfl rfl rfl | exact ev_cell ok rfl rfl rfl | exact ev_free ok rfl rfl rfl rfl) (ev_int ok) rfl)
   (bk_one ok (ex_return ok (ev_bool ok)))
   (bk_nil ok)))) lg_name (fun _ _ => rfl))
  (bk_one ok (ex_return ok (ev_bool ok)))))

set_option maxHeartbeats 8000000 in
theorem bk_left_over {W : Wd} (ok : WdOk W) {n : Nat}
    (hsys : sysModules < W.B) :
    BkOk W n (scopeAt pw_ec5002_03 5) (vmOf v_left_over) (bodyAt pw_ec5002_03 5) (t_left_over W.B) := by
  have hj : VInj (vmOf v_left_over) := vinj_of (by decide +kernel)
  exact (bk_cons ok (ex_asg ok hj (ev_list ok (es_cons ok (ev_tup ok (es_nil ok)) (es_nil ok) (fun _ => rfl))) rfl (by first | exact .inl rfl | exact .inr rfl) (fun _ _ => rfl))
  (bk_cons ok (ex_for ok (it_list ok (by first | exact ev_local ok rfl rfl rfl | exact ev_cell ok rfl rfl rfl | exact ev_free ok rfl rfl rfl rfl)) (as_name ok hj rfl (by first | exact .inl rfl | exact .inr rfl))
   (bk_one ok (ex_asg ok hj (ev_bin ok (op_addL ok) (by first | exact ev_local ok rfl rfl rfl | exact ev_cell ok rfl rfl rfl | exact ev_free ok rfl rfl rfl rfl) (ev_comp' ok (by decide +kernel) (it_list ok (by first | exact ev_local ok rfl rfl rfl | exact ev_cell ok rfl rfl rfl | exact ev_free ok rfl rfl rfl rfl)) tst_nil (ev_bin ok (op_addT ok) (by first | exact ev_local ok rfl rfl rfl | exact ev_cell ok rfl rfl rfl | exact ev_free ok rfl rfl rfl rfl) (ev_tup ok (es_cons ok (by first | exact ev_local ok rfl rfl rfl | exact ev_cell ok rfl rfl rfl | exact ev_free ok rfl rfl rfl rfl) (es_nil ok) (fun _ => rfl)))) (fun _ _ => rfl))) rfl (by first | exact .inl rfl | exact .inr rfl) (fun _ _ => rfl))) lg_name (fun _ _ => rfl))
  (bk_cons ok (ex_asg ok hj (ev_dict0T ok hsys) rfl (by first | exact .inl rfl | exact .inr rfl) (fun _ _ => rfl))
  (bk_cons ok (ex_for ok (it_list ok (by first | exact ev_local ok rfl rfl rfl | exact ev_cell ok rfl rfl rfl | exact ev_free ok rfl rfl rfl rfl)) (as_name ok hj rfl (by first | exact .inl rfl | exact .inr rfl))
   (bk_one ok (ex_setidxT ok (by first | exact ev_local ok rfl rfl rfl | exact ev_cell ok rfl rfl rfl | exact ev_free ok rfl rfl rfl rfl) (by first | exact ev_local ok rfl rfl rfl | exact ev_cell ok rfl rfl rfl | exact ev_free ok rfl rfl rfl rfl) (ev_bool ok) (fun _ _ => rfl))) lg_name (fun _ _ => rfl))
  (bk_one ok (ex_return ok (by first | exact ev_local ok rfl rfl rfl | exact ev_cell ok rfl rfl rfl | exact ev_free ok rfl rfl rfl rfl)))))))

set_option maxHeartbeats 8000000 in
theorem bk_longer {W : Wd} (ok : WdOk W) {n : Nat}
    (g_range : GlobAt W "range" (.type "range")) :
    BkOk W n (scopeAt pw_ec5002_03 6) (vmOf v_longer) (bodyAt pw_ec5002_03 6) (t_longer W.B) := by
  have hj : VInj (vmOf v_longer) := vinj_of (by decide +kernel)
  exact (bk_one ok (ex_return ok (ev_comp2 ok (by decide +kernel) (it_list ok (by first | exact ev_local ok rfl rfl rfl | exact ev_cell ok rfl rfl rfl | exact ev_free ok rfl rfl rfl rfl)) (it_range1 ok g_range rfl rfl (es_cons ok (by first | exact ev_local ok rfl rfl rfl | exact ev_cell ok rfl rfl rfl | exact ev_free ok rfl rfl rfl rfl) (es_nil ok) (fun _ => rfl)) (fun _ => rfl)) (ev_bin ok (op_addT ok) (by first | exact ev_local ok rfl rfl rfl | exact ev_cell ok rfl rfl rfl | exact ev_free ok rfl rfl rfl rfl) (ev_tup ok (es_cons ok (by first | exact ev_local ok rfl rfl rfl | exact ev_cell ok rfl rfl rfl | exact ev_free ok rfl rfl rfl rfl) (es_nil ok) (fun _ => rfl)))) (fun _ _ => rfl) (fun _ _ => rfl))))

set_option maxHeartbeats 8000000 in
theorem bk_back {W : Wd} (ok : WdOk W) {n : Nat} {g_after : Addr}
    (g_range : GlobAt W "range" (.type "range"))
    (g_min : GlobAt W "min" (.builtin "min"))
    (d_after : DefAt W "_law_after" g_after)
    (h_after : FOk W n (.ref g_after) (f_after W.B))
    (g_sum : GlobAt W "sum" (.builtin "sum")) :
    BkOk W n (scopeAt pw_ec5002_03 7) (vmOf v_back) (bodyAt pw_ec5002_03 7) (t_back W.B) := by
  have hj : VInj (vmOf v_back) := vinj_of (by decide +kernel)
  exact (bk_cons ok (ex_asg ok hj (ev_bin ok (op_mulL ok) (ev_list ok (es_cons ok (ev_int ok) (es_nil ok) (fun _ => rfl))) (ev_bin ok op_add (by first | exact ev_local ok rfl rfl rfl | exact ev_cell ok rfl rfl rfl | exact ev_free ok rfl rfl rfl rfl) (ev_int ok))) rfl (by first | exact .inl rfl | exact .inr rfl) (fun _ _ => rfl))
  (bk_cons ok (ex_asg ok hj (ev_bin ok (op_mulL ok) (ev_list ok (es_cons ok (ev_int ok) (es_nil ok) (fun _ => rfl))) (ev_bin ok op_add (by first | exact ev_local ok rfl rfl rfl | exact ev_cell ok rfl rfl rfl | exact ev_free ok rfl rfl rfl rfl) (ev_int ok))) rfl (by first | exact .inl rfl | exact .inr rfl) (fun _ _ => rfl))
  (bk_cons ok (ex_for ok (it_rangeD ok g_range rfl rfl (es_cons ok (by first | exact ev_local ok rfl rfl rfl | exact ev_cell ok rfl rfl rfl | exact ev_free ok rfl rfl rfl rfl) (es_cons ok (ev_neg ok (ev_int ok)) (es_cons ok (ev_neg ok (ev_int ok)) (es_nil ok) (fun _ => rfl)) (fun _ => rfl)) (fun _ => rfl)) (fun _ => rfl) (fun _ => rfl)) (as_name ok hj rfl (by first | exact .inl rfl | exact .inr rfl))
   (bk_cons ok (ex_asgcomp' ok (by decide +kernel) hj (it_range1 ok g_range rfl rfl (es_cons ok (by first | exact ev_local ok rfl rfl rfl | exact ev_cell ok rfl rfl rfl | exact ev_free ok rfl rfl rfl rfl) (es_nil ok) (fun _ => rfl)) (fun _ => rfl)) tst_nil (ev_def ok d_after rfl rfl (es_cons ok (by first | exact ev_local ok rfl rfl rfl | exact ev_cell ok rfl rfl rfl | exact ev_free ok rfl rfl rfl rfl) (es_cons ok (by first | exact ev_local ok rfl rfl rfl | exact ev_cell ok rfl rfl rfl | exact ev_free ok rfl rfl rfl rfl) (es_cons ok (by first | exact ev_local ok rfl rfl rfl | exact ev_cell ok rfl rfl rfl | exact ev_free ok rfl rfl rfl rfl) (es_nil ok) (fun _ => rfl)) (fun _ => rfl)) (fun _ => rfl)) h_after (fun _ => rfl)) (fun _ _ => rfl) rfl rfl (fun _ h => by unfold swapsWith; simp only [Env.blockKind, Env.kindOf, h]; rfl))
  (bk_cons ok (ex_setidx ok (by first | exact ev_local ok rfl rfl rfl | exact ev_cell ok rfl rfl rfl | exact ev_free ok rfl rfl rfl rfl) (by first | exact ev_local ok rfl rfl rfl | exact ev_cell ok rfl rfl rfl | exact ev_free ok rfl rfl rfl rfl) (ev_bin ok op_add (ev_int ok) (ev_callB ok (.inl ⟨_, rfl⟩) g_sum rfl rfl (es_cons ok (ev_comp' ok (by decide +kernel) (it_list ok (by first | exact ev_local ok rfl rfl rfl | exact ev_cell ok rfl rfl rfl | exact ev_free ok rfl rfl rfl rfl)) (tst_one (ts_cmp ok cm_ge (by first | exact ev_local ok rfl rfl rfl | exact ev_cell ok rfl rfl rfl | exact ev_free ok rfl rfl rfl rfl) (ev_int ok) rfl)) (ev_idx ok (by first | exact ev_local ok rfl rfl rfl | exact ev_cell ok rfl rfl rfl | exact ev_free ok rfl rfl rfl rfl) (by first | exact ev_local ok rfl rfl rfl | exact ev_cell ok rfl rfl rfl | exact ev_free ok rfl rfl rfl rfl) (fun _ _ => rfl)) (fun _ _ => rfl)) (es_nil ok) (fun _ => rfl)) (fo_sum ok) (fun _ => rfl) (fun _ _ => rfl))) (fun _ _ => rfl))
  (bk_one ok (ex_setidx ok (by first | exact ev_local ok rfl rfl rfl | exact ev_cell ok rfl rfl rfl | exact ev_free ok rfl rfl rfl rfl) (by first | exact ev_local ok rfl rfl rfl | exact ev_cell ok rfl rfl rfl | exact ev_free ok rfl rfl rfl rfl) (ev_callB ok (.inl ⟨_, rfl⟩) g_min rfl rfl (es_cons ok (ev_comp' ok (by decide +kernel) (it_list ok (by first | exact ev_local ok rfl rfl rfl | exact ev_cell ok rfl rfl rfl | exact ev_free ok rfl rfl rfl rfl)) tst_nil (ev_ifx ok (ts_cmp ok cm_lt (by first | exact ev_local ok rfl rfl rfl | exact ev_cell ok rfl rfl rfl | exact ev_free ok rfl rfl rfl rfl) (ev_int ok) rfl) (ev_int ok) (ev_bin ok op_add (ev_int ok) (ev_idx ok (by first | exact ev_local ok rfl rfl rfl | exact ev_cell ok rfl rfl rfl | exact ev_free ok rfl rfl rfl rfl) (by first | exact ev_local ok rfl rfl rfl | exact ev_cell ok rfl rfl rfl | exact ev_free ok rfl rfl rfl rfl) (fun _ _ => rfl)))) (fun _ _ => rfl)) (es_nil ok) (fun _ => rfl)) (fo_minL ok) (fun _ => rfl) (fun _ _ => rfl)) (fun _ _ => rfl))))) lg_name (fun _ _ => rfl))
  (bk_one ok (ex_return ok (ev_tup ok (es_cons ok (ev_idx ok (by first | exact ev_local ok rfl rfl rfl | exact ev_cell ok rfl rfl rfl | exact ev_free ok rfl rfl rfl rfl) (ev_int ok) (fun _ _ => rfl)) (es_cons ok (ev_idx ok (by first | exact ev_local ok rfl rfl rfl | exact ev_cell ok rfl rfl rfl | exact ev_free ok rfl rfl rfl rfl) (ev_int ok) (fun _ _ => rfl)) (es_nil ok) (fun _ => rfl)) (fun _ => rfl))))))))

set_option maxHeartbeats 8000000 in
theorem bk_law {W : Wd} (ok : WdOk W) {n : Nat} {g_left_over g_back g_after g_longer g_follows : Addr}
    (g_len : GlobAt W "len" (.builtin "len"))
    (d_left_over : DefAt W "_law_left_over" g_left_over)
    (h_left_over : FOk W n (.ref g_left_over) (f_left_over W.B))
    (g_range : GlobAt W "range" (.type "range"))
    (d_back : DefAt W "_law_back" g_back)
    (h_back : FOk W n (.ref g_back) (f_back W.B))
    (g_abs : GlobAt W "abs" (.builtin "abs"))
    (d_after : DefAt W "_law_after" g_after)
    (h_after : FOk W n (.ref g_after) (f_after W.B))
    (g_max : GlobAt W "max" (.builtin "max"))
    (d_longer : DefAt W "_law_longer" g_longer)
    (h_longer : FOk W n (.ref g_longer) (f_longer W.B))
    (d_follows : DefAt W "_law_follows" g_follows)
    (h_follows : FOk W n (.ref g_follows) (f_follows W.B))
    (g_min : GlobAt W "min" (.builtin "min"))
    (g_tuple : GlobAt W "tuple" (.type "tuple"))
    (g_list : GlobAt W "list" (.type "list")) :
    BkOk W n (scopeAt pw_ec5002_03 8) (vmOf v_law) (bodyAt pw_ec5002_03 8) (t_law W.B) := by
  have hj : VInj (vmOf v_law) := vinj_of (by decide +kernel)
  exact (bk_cons ok (ex_asg ok hj (ev_ifx ok (ts_list ok (by first | exact ev_local ok rfl rfl rfl | exact ev_cell ok rfl rfl rfl | exact ev_free ok rfl rfl rfl rfl) (fun _ => rfl)) (ev_callB ok (.inl ⟨_, rfl⟩) g_abs rfl rfl (es_cons ok (ev_idx ok (by first | exact ev_local ok rfl rfl rfl | exact ev_cell ok rfl rfl rfl | exact ev_free ok rfl rfl rfl rfl) (ev_int ok) (fun _ _ => rfl)) (es_nil ok) (fun _ => rfl)) (fo_abs ok) (fun _ => rfl) (fun _ _ => rfl)) (ev_int ok)) rfl (by first | exact .inl rfl | exact .inr rfl) (fun _ _ => rfl))
  (bk_cons ok (ex_asg ok hj (ev_bin ok op_add (ev_int ok) (ev_bin ok op_fmod (by first | exact ev_local ok rfl rfl rfl | exact ev_cell ok rfl rfl rfl | exact ev_free ok rfl rfl rfl rfl) (ev_int ok))) rfl (by first | exact .inl rfl | exact .inr rfl) (fun _ _ => rfl))
  (bk_cons ok (ex_asg ok hj (ev_comp' ok (by decide +kernel) (it_list ok (ev_bin ok (op_addL ok) (ev_callB ok (.inr ⟨_, rfl⟩) g_list rfl rfl (es_cons ok (ev_slice ok (by first | exact ev_local ok rfl rfl rfl | exact ev_cell ok rfl rfl rfl | exact ev_free ok rfl rfl rfl rfl) (ev_int ok) (ev_int ok)) (es_nil ok) (fun _ => rfl)) (fo_list ok) (fun _ => rfl) (fun _ _ => rfl)) (ev_list ok (es_cons ok (ev_int ok) (es_cons ok (ev_int ok) (es_cons ok (ev_int ok) (es_nil ok) (fun _ => rfl)) (fun _ => rfl)) (fun _ => rfl))))) tst_nil (ev_bin ok op_fmod (ev_callB ok (.inl ⟨_, rfl⟩) g_abs rfl rfl (es_cons ok (by first | exact ev_local ok rfl rfl rfl | exact ev_cell ok rfl rfl rfl | exact ev_free ok rfl rfl rfl rfl) (es_nil ok) (fun _ => rfl)) (fo_abs ok) (fun _ => rfl) (fun _ _ => rfl)) (by first | exact ev_local ok rfl rfl rfl | exact ev_cell ok rfl rfl rfl | exact ev_free ok rfl rfl rfl rfl)) (fun _ _ => rfl)) rfl (by first | exact .inl rfl | exact .inr rfl) (fun _ h => by unfold swapsWith; simp only [Env.blockKind, Env.kindOf, h]; rfl))
  (bk_cons ok (ex_asg ok hj (ev_callB ok (.inl ⟨_, rfl⟩) g_len rfl rfl (es_cons ok (by first | exact ev_local ok rfl rfl rfl | exact ev_cell ok rfl rfl rfl | exact ev_free ok rfl rfl rfl rfl) (es_nil ok) (fun _ => rfl)) (fo_len ok) (fun _ => rfl) (fun _ _ => rfl)) rfl (by first | exact .inl rfl | exact .inr rfl) (fun _ _ => rfl))
  (bk_cons ok (ex_asg ok hj (ev_comp' ok (by decide +kernel) (it_range1 ok g_range rfl rfl (es_cons ok (by first | exact ev_local ok rfl rfl rfl | exact ev_cell ok rfl rfl rfl | exact ev_free ok rfl rfl rfl rfl) (es_nil ok) (fun _ => rfl)) (fun _ => rfl)) tst_nil (ev_comp' ok (by decide +kernel) (it_range1 ok g_range rfl rfl (es_cons ok (by first | exact ev_local ok rfl rfl rfl | exact ev_cell ok rfl rfl rfl | exact ev_free ok rfl rfl rfl rfl) (es_nil ok) (fun _ => rfl)) (fun _ => rfl)) (tst_one (ts_cmp ok cm_eqI (ev_idx ok (by first | exact ev_local ok rfl rfl rfl | exact ev_cell ok rfl rfl rfl | exact ev_free ok rfl rfl rfl rfl) (by first | exact ev_local ok rfl rfl rfl | exact ev_cell ok rfl rfl rfl | exact ev_free ok rfl rfl rfl rfl) (fun _ _ => rfl)) (by first | exact ev_local ok rfl rfl rfl | exact ev_cell ok rfl rfl rfl | exact ev_free ok rfl rfl rfl rfl) rfl)) (by first | exact ev_local ok rfl rfl rfl | exact ev_cell ok rfl rfl rfl | exact ev_free ok rfl rfl rfl rfl) (fun _ _ => rfl)) (fun _ _ => rfl)) rfl (by first | exact .inl rfl | exact .inr rfl) (fun _ h => by unfold swapsWith; simp only [Env.blockKind, Env.kindOf, h]; rfl))
  (bk_cons ok (ex_asg ok hj (ev_list ok (es_nil ok)) rfl (by first | exact .inl rfl | exact .inr rfl) (fun _ _ => rfl))
  (bk_cons ok (ex_asg ok hj (ev_int ok) rfl (by first | exact .inl rfl | exact .inr rfl) (fun _ _ => rfl))
  (bk_cons ok (ex_asg ok hj (ev_comp' ok (by decide +kernel) (it_range1 ok g_range rfl rfl (es_cons ok (by first | exact ev_local ok rfl rfl rfl | exact ev_cell ok rfl rfl rfl | exact ev_free ok rfl rfl rfl rfl) (es_nil ok) (fun _ => rfl)) (fun _ => rfl)) tst_nil (ev_def ok d_after rfl rfl (es_cons ok (by first | exact ev_local ok rfl rfl rfl | exact ev_cell ok rfl rfl rfl | exact ev_free ok rfl rfl rfl rfl) (es_cons ok (by first | exact ev_local ok rfl rfl rfl | exact ev_cell ok rfl rfl rfl | exact ev_free ok rfl rfl rfl rfl) (es_cons ok (by first | exact ev_local ok rfl rfl rfl | exact ev_cell ok rfl rfl rfl | exact ev_free ok rfl rfl rfl rfl) (es_nil ok) (fun _ => rfl)) (fun _ => rfl)) (fun _ => rfl)) h_after (fun _ => rfl)) (fun _ _ => rfl)) rfl (by first | exact .inl rfl | exact .inr rfl) (fun _ h => by unfold swapsWith; simp only [Env.blockKind, Env.kindOf, h]; rfl))
  (bk_cons ok (ex_while ok (ts_and2 ok (ts_cmp ok cm_ge (ev_callB ok (.inl ⟨_, rfl⟩) g_min rfl rfl (es_cons ok (by first | exact ev_local ok rfl rfl rfl | exact ev_cell ok rfl rfl rfl | exact ev_free ok rfl rfl rfl rfl) (es_nil ok) (fun _ => rfl)) (fo_minL ok) (fun _ => rfl) (fun _ _ => rfl)) (ev_int ok) rfl) (ts_cmp ok cm_lt (ev_callB ok (.inl ⟨_, rfl⟩) g_len rfl rfl (es_cons ok (by first | exact ev_local ok rfl rfl rfl | exact ev_cell ok rfl rfl rfl | exact ev_free ok rfl rfl rfl rfl) (es_nil ok) (fun _ => rfl)) (fo_len ok) (fun _ => rfl) (fun _ _ => rfl)) (by first | exact ev_local ok rfl rfl rfl | exact ev_cell ok rfl rfl rfl | exact ev_free ok rfl rfl rfl rfl) rfl))
   (bk_cons ok (ex_asg ok hj (ev_callB ok (.inl ⟨_, rfl⟩) g_max rfl rfl (es_cons ok (by first | exact ev_local ok rfl rfl rfl | exact ev_cell ok rfl rfl rfl | exact ev_free ok rfl rfl rfl rfl) (es_nil ok) (fun _ => rfl)) (fo_maxL ok) (fun _ => rfl) (fun _ _ => rfl)) rfl (by first | exact .inl rfl | exact .inr rfl) (fun _ _ => rfl))
  (bk_cons ok (ex_expr ok (ev_meth ok slot_list_append type_list_append (fun _ => rfl) (fun _ => rfl) rfl (by first | exact ev_local ok rfl rfl rfl | exact ev_cell ok rfl rfl rfl | exact ev_free ok rfl rfl rfl rfl) (es_cons ok (ev_idx ok (by first | exact ev_local ok rfl rfl rfl | exact ev_cell ok rfl rfl rfl | exact ev_free ok rfl rfl rfl rfl) (ev_bin ok op_sub (by first | exact ev_local ok rfl rfl rfl | exact ev_cell ok rfl rfl rfl | exact ev_free ok rfl rfl rfl rfl) (ev_int ok)) (fun _ _ => rfl)) (es_nil ok) (fun _ => rfl)) (fo_append ok) (fun _ => rfl) (fun _ _ => rfl)) (fun _ => rfl))
  (bk_one ok (ex_asg ok hj (ev_comp' ok (by decide +kernel) (it_range1 ok g_range rfl rfl (es_cons ok (by first | exact ev_local ok rfl rfl rfl | exact ev_cell ok rfl rfl rfl | exact ev_free ok rfl rfl rfl rfl) (es_nil ok) (fun _ => rfl)) (fun _ => rfl)) tst_nil (ev_def ok d_after rfl rfl (es_cons ok (by first | exact ev_local ok rfl rfl rfl | exact ev_cell ok rfl rfl rfl | exact ev_free ok rfl rfl rfl rfl) (es_cons ok (by first | exact ev_local ok rfl rfl rfl | exact ev_cell ok rfl rfl rfl | exact ev_free ok rfl rfl rfl rfl) (es_cons ok (by first | exact ev_local ok rfl rfl rfl | exact ev_cell ok rfl rfl rfl | exact ev_free ok rfl rfl rfl rfl) (es_nil ok) (fun _ => rfl)) (fun _ => rfl)) (fun _ => rfl)) h_after (fun _ => rfl)) (fun _ _ => rfl)) rfl (by first | exact .inl rfl | exact .inr rfl) (fun _ h => by unfold swapsWith; simp only [Env.blockKind, Env.kindOf, h]; rfl))))))
  (bk_cons ok (ex_asgcomp' ok (by decide +kernel) hj (it_range1 ok g_range rfl rfl (es_cons ok (by first | exact ev_local ok rfl rfl rfl | exact ev_cell ok rfl rfl rfl | exact ev_free ok rfl rfl rfl rfl) (es_nil ok) (fun _ => rfl)) (fun _ => rfl)) (tst_one (ts_cmp ok cm_lt (ev_idx ok (by first | exact ev_local ok rfl rfl rfl | exact ev_cell ok rfl rfl rfl | exact ev_free ok rfl rfl rfl rfl) (by first | exact ev_local ok rfl rfl rfl | exact ev_cell ok rfl rfl rfl | exact ev_free ok rfl rfl rfl rfl) (fun _ _ => rfl)) (ev_int ok) rfl)) (by first | exact ev_local ok rfl rfl rfl | exact ev_cell ok rfl rfl rfl | exact ev_free ok rfl rfl rfl rfl) (fun _ _ => rfl) rfl rfl (fun _ h => by unfold swapsWith; simp only [Env.blockKind, Env.kindOf, h]; rfl))
  (bk_cons ok (ex_if ok (ts_cmp ok cm_eqIL (by first | exact ev_local ok rfl rfl rfl | exact ev_cell ok rfl rfl rfl | exact ev_free ok rfl rfl rfl rfl) (ev_list ok (es_nil ok)) rfl)
   (bk_one ok (ex_return ok (ev_bool ok)))
   (bk_nil ok))
  (bk_cons ok (ex_asg ok hj (ev_callB ok (.inl ⟨_, rfl⟩) g_len rfl rfl (es_cons ok (by first | exact ev_local ok rfl rfl rfl | exact ev_cell ok rfl rfl rfl | exact ev_free ok rfl rfl rfl rfl) (es_nil ok) (fun _ => rfl)) (fo_len ok) (fun _ => rfl) (fun _ _ => rfl)) rfl (by first | exact .inl rfl | exact .inr rfl) (fun _ _ => rfl))
  (bk_cons ok (ex_asg ok hj (ev_def ok d_left_over rfl rfl (es_cons ok (by first | exact ev_local ok rfl rfl rfl | exact ev_cell ok rfl rfl rfl | exact ev_free ok rfl rfl rfl rfl) (es_nil ok) (fun _ => rfl)) h_left_over (fun _ => rfl)) rfl (by first | exact .inl rfl | exact .inr rfl) (fun _ _ => rfl))
  (bk_cons ok (ex_asg ok hj (ev_list ok (es_cons ok (ev_tup ok (es_nil ok)) (es_nil ok) (fun _ => rfl))) rfl (by first | exact .inl rfl | exact .inr rfl) (fun _ _ => rfl))
  (bk_cons ok (ex_asg ok hj (ev_int ok) rfl (by first | exact .inl rfl | exact .inr rfl) (fun _ _ => rfl))
  (bk_cons ok (ex_for ok (it_range1 ok g_range rfl rfl (es_cons ok (ev_bin ok op_add (by first | exact ev_local ok rfl rfl rfl | exact ev_cell ok rfl rfl rfl | exact ev_free ok rfl rfl rfl rfl) (ev_int ok)) (es_nil ok) (fun _ => rfl)) (fun _ => rfl)) (as_name ok hj rfl (by first | exact .inl rfl | exact .inr rfl))
   (bk_cons ok (ex_for ok (it_list ok (by first | exact ev_local ok rfl rfl rfl | exact ev_cell ok rfl rfl rfl | exact ev_free ok rfl rfl rfl rfl)) (as_name ok hj rfl (by first | exact .inl rfl | exact .inr rfl))
   (bk_cons ok (ex_if ok (ts_cmp ok cm_neB (ev_def ok d_follows rfl rfl (es_cons ok (by first | exact ev_local ok rfl rfl rfl | exact ev_cell ok rfl rfl rfl | exact ev_free ok rfl rfl rfl rfl) (es_cons ok (by first | exact ev_local ok rfl rfl rfl | exact ev_cell ok rfl rfl rfl | exact ev_free ok rfl rfl rfl rfl) (es_nil ok) (fun _ => rfl)) (fun _ => rfl)) h_follows (fun _ => rfl)) (ev_cmp ok cm_inT (by first | exact ev_local ok rfl rfl rfl | exact ev_cell ok rfl rfl rfl | exact ev_free ok rfl rfl rfl rfl) (by first | exact ev_local ok rfl rfl rfl | exact ev_cell ok rfl rfl rfl | exact ev_free ok rfl rfl rfl rfl) rfl) rfl)
   (bk_one ok (ex_return ok (ev_bool ok)))
   (bk_nil ok))
  (bk_one ok (ex_if ok (ts_and2 ok (ts_cmp ok cm_le (by first | exact ev_local ok rfl rfl rfl | exact ev_cell ok rfl rfl rfl | exact ev_free ok rfl rfl rfl rfl) (by first | exact ev_local ok rfl rfl rfl | exact ev_cell ok rfl rfl rfl | exact ev_free ok rfl rfl rfl rfl) rfl) (ts_cmp ok cm_ninT (by first | exact ev_local ok rfl rfl rfl | exact ev_cell ok rfl rfl rfl | exact ev_free ok rfl rfl rfl rfl) (by first | exact ev_local ok rfl rfl rfl | exact ev_cell ok rfl rfl rfl | exact ev_free ok rfl rfl rfl rfl) rfl))
   (bk_one ok (ex_return ok (ev_bool ok)))
   (bk_nil ok)))) lg_name (fun _ _ => rfl))
  (bk_cons ok (ex_if ok (ts_and2 ok (ts_cmp ok cm_eqI (by first | exact ev_local ok rfl rfl rfl | exact ev_cell ok rfl rfl rfl | exact ev_free ok rfl rfl rfl rfl) (ev_bin ok op_add (by first | exact ev_local ok rfl rfl rfl | exact ev_cell ok rfl rfl rfl | exact ev_free ok rfl rfl rfl rfl) (ev_int ok)) rfl) (ts_cmp ok cm_neD (ev_comp' ok (by decide +kernel) (it_list ok (by first | exact ev_local ok rfl rfl rfl | exact ev_cell ok rfl rfl rfl | exact ev_free ok rfl rfl rfl rfl)) (tst_one (ts_cmp ok cm_ninT (by first | exact ev_local ok rfl rfl rfl | exact ev_cell ok rfl rfl rfl | exact ev_free ok rfl rfl rfl rfl) (by first | exact ev_local ok rfl rfl rfl | exact ev_cell ok rfl rfl rfl | exact ev_free ok rfl rfl rfl rfl) rfl)) (by first | exact ev_local ok rfl rfl rfl | exact ev_cell ok rfl rfl rfl | exact ev_free ok rfl rfl rfl rfl) (fun _ _ => rfl)) (ev_list ok (es_nil ok)) rfl))
   (bk_one ok (ex_asg ok hj (by first | exact ev_local ok rfl rfl rfl | exact ev_cell ok rfl rfl rfl | exact ev_free ok rfl rfl rfl rfl) rfl (by first | exact .inl rfl | exact .inr rfl) (fun _ _ => rfl)))
   (bk_nil ok))
  (bk_one ok (ex_asg ok hj (ev_def ok d_longer rfl rfl (es_cons ok (by first | exact ev_local ok rfl rfl rfl | exact ev_cell ok rfl rfl rfl | exact ev_free ok rfl rfl rfl rfl) (es_cons ok (by first | exact ev_local ok rfl rfl rfl | exact ev_cell ok rfl rfl rfl | exact ev_free ok rfl rfl rfl rfl) (es_nil ok) (fun _ => rfl)) (fun _ => rfl)) h_longer (fun _ => rfl)) rfl (by first | exact .inl rfl | exact .inr rfl) (fun _ _ => rfl))))) lg_name (fun _ _ => rfl))
  (bk_cons ok (ex_if ok (ts_or2 ok (ts_bool ok (ev_def ok d_follows rfl rfl (es_cons ok (by first | exact ev_local ok rfl rfl rfl | exact ev_cell ok rfl rfl rfl | exact ev_free ok rfl rfl rfl rfl) (es_cons ok (ev_callB ok (.inr ⟨_, rfl⟩) g_tuple rfl rfl (es_cons ok (ev_bin ok (op_addL ok) (by first | exact ev_local ok rfl rfl rfl | exact ev_cell ok rfl rfl rfl | exact ev_free ok rfl rfl rfl rfl) (ev_slice ok (by first | exact ev_local ok rfl rfl rfl | exact ev_cell ok rfl rfl rfl | exact ev_free ok rfl rfl rfl rfl) trivial (ev_int ok))) (es_nil ok) (fun _ => rfl)) (fo_tuple ok) (fun _ => rfl) (fun _ _ => rfl)) (es_nil ok) (fun _ => rfl)) (fun _ => rfl)) h_follows (fun _ => rfl)) (fun _ => rfl)) (ts_cmp ok cm_inT (ev_callB ok (.inr ⟨_, rfl⟩) g_tuple rfl rfl (es_cons ok (ev_bin ok (op_addL ok) (by first | exact ev_local ok rfl rfl rfl | exact ev_cell ok rfl rfl rfl | exact ev_free ok rfl rfl rfl rfl) (ev_slice ok (by first | exact ev_local ok rfl rfl rfl | exact ev_cell ok rfl rfl rfl | exact ev_free ok rfl rfl rfl rfl) trivial (ev_int ok))) (es_nil ok) (fun _ => rfl)) (fo_tuple ok) (fun _ => rfl) (fun _ _ => rfl)) (by first | exact ev_local ok rfl rfl rfl | exact ev_cell ok rfl rfl rfl | exact ev_free ok rfl rfl rfl rfl) rfl))
   (bk_one ok (ex_return ok (ev_bool ok)))
   (bk_nil ok))
  (bk_cons ok (ex_asgT ok (ev_def ok d_back rfl rfl (es_cons ok (by first | exact ev_local ok rfl rfl rfl | exact ev_cell ok rfl rfl rfl | exact ev_free ok rfl rfl rfl rfl) (es_cons ok (by first | exact ev_local ok rfl rfl rfl | exact ev_cell ok rfl rfl rfl | exact ev_free ok rfl rfl rfl rfl) (es_cons ok (by first | exact ev_local ok rfl rfl rfl | exact ev_cell ok rfl rfl rfl | exact ev_free ok rfl rfl rfl rfl) (es_nil ok) (fun _ => rfl)) (fun _ => rfl)) (fun _ => rfl)) h_back (fun _ => rfl)) (as_tuple ok hj (fun _ => rfl) (fun _ => rfl) (asl_cons ok hj rfl (by first | exact .inl rfl | exact .inr rfl) (asl_cons ok hj rfl (by first | exact .inl rfl | exact .inr rfl) (fun _ _ _ _ _ _ _ _ st q => asl_nil st q)))) (fun _ _ => rfl) (fun _ _ => rfl))
  (bk_one ok (ex_return ok (ev_andv ok (an_cons ok (ev_cmp ok cm_eqI (by first | exact ev_local ok rfl rfl rfl | exact ev_cell ok rfl rfl rfl | exact ev_free ok rfl rfl rfl rfl) (ev_callB ok (.inl ⟨_, rfl⟩) g_len rfl rfl (es_cons ok (by first | exact ev_local ok rfl rfl rfl | exact ev_cell ok rfl rfl rfl | exact ev_free ok rfl rfl rfl rfl) (es_nil ok) (fun _ => rfl)) (fo_lenT ok) (fun _ => rfl) (fun _ _ => rfl)) rfl) (an_cons ok (ev_cmp ok cm_eqI (by first | exact ev_local ok rfl rfl rfl | exact ev_cell ok rfl rfl rfl | exact ev_free ok rfl rfl rfl rfl) (ev_bin ok op_add (by first | exact ev_local ok rfl rfl rfl | exact ev_cell ok rfl rfl rfl | exact ev_free ok rfl rfl rfl rfl) (ev_int ok)) rfl) (an_cons ok (ev_cmp ok cm_eqI (by first | exact ev_local ok rfl rfl rfl | exact ev_cell ok rfl rfl rfl | exact ev_free ok rfl rfl rfl rfl) (by first | exact ev_local ok rfl rfl rfl | exact ev_cell ok rfl rfl rfl | exact ev_free ok rfl rfl rfl rfl) rfl) an_nil))))))))))))))))))))))))

end Mini

/-! L3B -/
namespace Mini

theorem i_t {c : Bool} {P R : Prop} (hc : c = true) (p : P) : if c = true then P else R := by rw [if_pos hc]; exact p
theorem i_f {c : Bool} {P R : Prop} (hc : c = false) (p : R) : if c = true then P else R := by subst hc; rw [if_neg (by decide)]; exact p

section
variable {B : Addr} {loc : Loc} {h : AH}
theorem i_ekw {t : EsT} {k : ET} {Q : List AV → AH → Prop} (q : t loc h fun vs h1 => k loc h1 fun v h2 => Q (vs ++ [v]) h2) : T.ekw t k loc h Q := q
theorem i_glob {v : AV} {Q : AV → AH → Prop} (q : Q v h) : T.glob v loc h Q := q
theorem i_and {t u : TT} {Q : Bool → AH → Prop} (q : t loc h fun b h1 => if b = true then u loc h1 Q else Q false h1) : T.and t u loc h Q := q
theorem i_none {Q : AV → AH → Prop} (q : Q .none h) : T.none loc h Q := q
end

theorem bis2_spec {B a : Addr} {is : List Int} {x : Int} {h : AH} {Q : AV → AH → Prop} (ha : h a = some (.list (is.map AV.int))) (hs : Incr is) (hlen : is.length < 2 ^ 20)
    (q : ∀ p : Nat, p ≤ is.length → (∀ i (hi : i < is.length), i < p → is[i] < x) → (∀ i (hi : i < is.length), p ≤ i → x ≤ is[i]) → Q (.int p) h) : f_bis2 B [.ref a, .int x] h Q := by
  refine ⟨rfl, ?_⟩
  dsimp only [fnT, t_bis, T.seq, T.ife, T.cmp, T.var, T.int, T.none, P.lt, P.isN, T.asg, T.call, T.econs, T.enil, F.len, T.skip, T.while_]
  refine ⟨.int 0, rfl, 0, 0, rfl, rfl, ?_⟩
  rw [if_neg (by decide)]
  refine ⟨.none, rfl, rfl, nofun, ?_⟩
  rw [if_pos (show P.isNone AV.none = true from rfl)]
  refine ⟨.ref a, rfl, a, _, rfl, ha, by rw [List.length_map]; omega, .none, rfl, rfl, nofun, ?_⟩
  rw [if_pos (show P.isNone AV.none = true from rfl)]
  refine ⟨fun k loc h' => h' = h ∧ loc 0 = some (.ref a) ∧ loc 1 = some (.int x) ∧ ∃ lo hi : Nat, loc 2 = some (.int lo) ∧ loc 3 = some (.int hi) ∧ lo ≤ hi ∧ hi ≤ is.length ∧ k = hi - lo ∧
    (∀ i (hi : i < is.length), i < lo → is[i] < x) ∧ (∀ i (hi' : i < is.length), hi ≤ i → x ≤ is[i]), is.length, ⟨rfl, rfl, rfl, 0, is.length, rfl, ?_, by omega, by omega, by omega, fun i _ h => absurd h (Nat.not_lt_zero _), fun i h1 h2 => by omega⟩, ?_⟩
  · rw [upd_same, List.length_map]
  rintro k loc _ ⟨rfl, e0, e1, lo, hi, e2, e3, hle, hhi, rfl, hlo, hhi'⟩
  refine ⟨_, e2, _, e3, _, _, rfl, rfl, ?_⟩
  by_cases hlt : (lo : Int) < hi
  · rw [if_pos (decide_eq_true hlt)]
    dsimp only [T.bin, T.var, T.int, P.add, P.fdiv, T.idx]
    refine ⟨_, e2, _, e3, lo, hi, rfl, rfl, _, _, rfl, rfl, by decide, PyProof.noPylong_small (by decide), ?_⟩
    have hmid : ((lo : Int) + hi).fdiv 2 = ((lo + hi) / 2 : Nat) := by
      rw [Int.fdiv_eq_ediv_of_nonneg _ (by omega)]; omega
    rw [hmid]
    generalize hm : (lo + hi) / 2 = mid
    have hml : mid < is.length := by omega
    refine ⟨_, (upd_ne (by decide)).trans e0, _, upd_same .., a, _, _, _, rfl, rfl, ha, by omega, by omega, getI (by simpa using hml), _, (upd_ne (by decide)).trans e1, _, _, rfl, rfl, ?_⟩
    dsimp only [Int.toNat_natCast]
    by_cases hx : is[mid] < x
    · rw [if_pos (decide_eq_true hx)]
      refine ⟨_, upd_same .., _, _, rfl, rfl, hi - (mid + 1), by omega, rfl, ?_, ?_, mid + 1, hi, ?_, ?_, by omega, hhi, rfl, fun i h1 h2 => ?_, hhi'⟩
      · rw [upd_ne (by decide), upd_ne (by decide)]; exact e0
      · rw [upd_ne (by decide), upd_ne (by decide)]; exact e1
      · rw [upd_same]; rfl
      · rw [upd_ne (by decide), upd_ne (by decide)]; exact e3
      · exact Int.lt_of_le_of_lt (hs i mid h1 hml (by omega)) hx
    · rw [if_neg (by simpa using hx)]
      refine ⟨_, upd_same .., mid - lo, by omega, rfl, ?_, ?_, lo, mid, ?_, ?_, by omega, by omega, rfl, hlo, fun i h1 h2 => ?_⟩
      · rw [upd_ne (by decide), upd_ne (by decide)]; exact e0
      · rw [upd_ne (by decide), upd_ne (by decide)]; exact e1
      · rw [upd_ne (by decide), upd_ne (by decide)]; exact e2
      · rw [upd_same]
      · exact Int.le_trans (Int.not_lt.mp hx) (hs mid i hml h1 h2)
  · rw [if_neg (by simpa using hlt)]
    dsimp only [T.ret, T.var, FnRet]
    have hlh : lo = hi := by omega
    subst hlh
    exact ⟨_, e2, q lo hhi hlo hhi'⟩

/-! the places of the signs of a text -/
def posOf (w : List Nat) (σ : Nat) : List Nat := (List.range w.length).filter fun p => w.getD p 99 == σ
/-- the place behind the next such sign, from a place on -/
def nx (w : List Nat) (σ at_ : Nat) : Int := match (posOf w σ).find? fun p => decide (at_ ≤ p) with
  | some p => (p : Int) + 1
  | none => -1
def natL (l : List Nat) : List Int := List.map (fun n : Nat => (n : Int)) l
structure PlacesAt (h : AH) (pl : Addr) (w : List Nat) (rs : List Addr) : Prop where
  at_ : h pl = some (.list (rs.map AV.ref))
  each : ∀ σ (hσ : σ < rs.length), h rs[σ] = some (.list ((natL (posOf w σ)).map AV.int))
theorem PlacesAt.ext {h h' : AH} {pl : Addr} {w : List Nat} {rs : List Addr} (x : PlacesAt h pl w rs) (e : Ext h h') : PlacesAt h' pl w rs := ⟨e _ _ x.at_, fun σ hσ => e _ _ (x.each σ hσ)⟩
theorem posOf_sorted (w : List Nat) (σ : Nat) : (posOf w σ).Pairwise (· < ·) := by
  unfold posOf
  exact (List.pairwise_lt_range).sublist List.filter_sublist
theorem natL_sorted {l : List Nat} (h : l.Pairwise (· < ·)) : SIncr (natL l) := by
  unfold SIncr natL
  exact List.pairwise_map.mpr (h.imp fun h => by omega)
theorem posOf_len (w : List Nat) (σ : Nat) : (posOf w σ).length ≤ w.length := by
  have := List.length_filter_le (fun p => w.getD p 99 == σ) (List.range w.length)
  rw [List.length_range] at this; exact this
end Mini

/-! L3C -/
namespace Mini

theorem find_first : ∀ {l : List Nat} {a p : Nat}, p ≤ l.length → (∀ i (hi : i < l.length), i < p → l[i] < a) → (∀ i (hi : i < l.length), p ≤ i → a ≤ l[i]) → (l.find? fun x => decide (a ≤ x)) = l[p]?
  | [], a, p, hp, _, _ => by rw [List.find?_nil]; simp
  | x :: r, a, 0, hp, h1, h2 => by
    have := h2 0 (by simp) (Nat.le_refl _)
    rw [List.find?_cons]
    have hx : a ≤ x := by simpa using this
    simp [hx]
  | x :: r, a, p + 1, hp, h1, h2 => by
    have hx : x < a := h1 0 (Nat.zero_lt_succ _) (by omega)
    rw [List.find?_cons, show decide (a ≤ x) = false from decide_eq_false (by omega)]
    rw [List.getElem?_cons_succ]
    refine find_first (by simpa using hp) (fun i hi hip => ?_) (fun i hi hip => ?_)
    · have := h1 (i + 1) (by simp; omega) (by omega)
      simpa using this
    · have := h2 (i + 1) (by simp; omega) (by omega)
      simpa using this

theorem pl_at {h : AH} {pl : Addr} {w : List Nat} {rs : List Addr} {loc : Loc} {σ : Nat} {Q : AV → AH → Prop} (P : PlacesAt h pl w rs) (l0 : loc 0 = some (.ref pl)) (l1 : loc 1 = some (.int (σ : Int))) (hσ : σ < rs.length) (hr : rs.length ≤ 100) (q : Q (.ref rs[σ]) h) : T.idx (T.var 0) (T.var 1) loc h Q :=
  ⟨_, l0, _, l1, pl, _, _, _, rfl, rfl, P.at_, by omega, by omega, by rw [Int.toNat_natCast, List.getElem?_map, List.getElem?_eq_getElem hσ]; rfl, q⟩

theorem after_spec {B pl : Addr} {h : AH} {w : List Nat} {rs : List Addr} {σ at_ : Nat} {Q : AV → AH → Prop} (P : PlacesAt h pl w rs) (hσ : σ < rs.length) (hr : rs.length ≤ 100) (hw : w.length ≤ 1000)
    (q : Q (.int (nx w σ at_)) h) : f_after B [.ref pl, .int (σ : Int), .int (at_ : Int)] h Q := by
  refine ⟨rfl, ?_⟩
  show t_after B _ _ _
  unfold t_after
  have hc := P.each σ hσ
  have hl := posOf_len w σ
  have hS := natL_sorted (posOf_sorted w σ)
  have hlen : (natL (posOf w σ)).length = (posOf w σ).length := List.length_map _
  refine i_seq (i_asg (i_call (i_cons ?_)))
  refine pl_at P rfl rfl hσ hr (i_cons (i_var (v := .int (at_ : Int)) rfl (i_nil ?_)))
  refine bis2_spec hc hS.incr (by omega) fun p hp h1 h2 => ?_
  have hfind : ((posOf w σ).find? fun x => decide (at_ ≤ x)) = (posOf w σ)[p]? := find_first (by omega)
    (fun i hi hip => by have := h1 i (by omega) hip; unfold natL at this; simp only [List.getElem_map] at this; omega)
    (fun i hi hip => by have := h2 i (by omega) hip; unfold natL at this; simp only [List.getElem_map] at this; omega)
  have l3 : ∀ j, j < 3 → upd (fun i => ((fun avs => avs) [AV.ref pl, .int (σ : Int), .int (at_ : Int)])[i]?) 3 (.int (p : Int)) j = (fun i => ((fun avs => avs) [AV.ref pl, .int (σ : Int), .int (at_ : Int)])[i]?) j := fun j hj => upd_ne (by omega)
  refine i_ret ?_
  refine ⟨_, upd_same .., ?_⟩
  refine i_call (i_cons (pl_at P (l3 0 (by decide)) (l3 1 (by decide)) hσ hr (i_nil ⟨_, _, rfl, hc, by rw [List.length_map]; omega, _, _, rfl, rfl, ?_⟩)))
  rw [List.length_map, hlen]
  by_cases hlt : p < (posOf w σ).length
  · refine i_t (decide_eq_true (by omega)) ?_
    have hq : nx w σ at_ = ((posOf w σ)[p] : Int) + 1 := by unfold nx; rw [hfind, List.getElem?_eq_getElem hlt]
    rw [hq] at q
    refine i_bin ?_
    refine pl_at P (l3 0 (by decide)) (l3 1 (by decide)) hσ hr ?_
    refine ⟨_, upd_same .., rs[σ], _, _, .int ((posOf w σ)[p] : Int), rfl, rfl, hc, by omega, by omega, ?_, i_int (i_add q)⟩
    rw [Int.toNat_natCast, List.getElem?_map]
    unfold natL
    rw [List.getElem?_map, List.getElem?_eq_getElem hlt]; rfl
  · refine i_f (decide_eq_false (by omega)) ?_
    have hq : nx w σ at_ = -1 := by unfold nx; rw [hfind, List.getElem?_eq_none (by omega)]
    rw [hq] at q
    exact ⟨1, rfl, q⟩
end Mini

/-! L3D -/
namespace Mini

/-- whether a word can be followed from a place on -/
def fol (w : List Nat) : List Nat → Nat → Bool
  | [], _ => true
  | σ :: v, a => if nx w σ a < 0 then false else fol w v (nx w σ a).toNat

theorem follows_spec {B pl wd : Addr} {h : AH} {w v : List Nat} {rs : List Addr} {Q : AV → AH → Prop} (P : PlacesAt h pl w rs) (hr : rs.length ≤ 100) (hw : w.length ≤ 1000) (hv : ∀ σ ∈ v, σ < rs.length) (hwd : h wd = some (.tup ((natL v).map AV.int)))
    (q : Q (.bool (fol w v 0)) h) : f_follows B [.ref pl, .ref wd] h Q := by
  refine ⟨rfl, ?_⟩
  show t_follows B _ _ _
  unfold t_follows
  refine i_seq (i_asg (i_int (i_seq ?_)))
  refine ⟨.ref wd, (upd_ne (by decide)).trans rfl, wd, _, rfl, hwd, ?_⟩
  have hlen : ((natL v).map AV.int).length = v.length := by rw [List.length_map]; exact List.length_map _
  refine ⟨fun i loc h' => h' = h ∧ loc 0 = some (.ref pl) ∧ ∃ a : Nat, loc 2 = some (.int (a : Int)) ∧ fol w v 0 = fol w (v.drop i) a, v.length, ⟨rfl, rfl, 0, upd_same .., rfl⟩, ?_⟩
  rintro i loc _ ⟨rfl, l0, a, l2, hf⟩
  refine ⟨(natL v).map AV.int, by simp only [Src.items, hwd], by rw [hlen]; exact Nat.le_refl _, ?_⟩
  by_cases hi : i < v.length
  · have hg : ((natL v).map AV.int)[i]? = some (.int (v[i] : Int)) := by
      unfold natL; rw [List.getElem?_map, List.getElem?_map, List.getElem?_eq_getElem hi]; rfl
    rw [hg]
    have hd : v.drop i = v[i] :: v.drop (i + 1) := List.drop_eq_getElem_cons hi
    refine i_seq (i_asg (i_call (i_cons (i_var ((upd_ne (by decide)).trans l0) (i_cons (i_var (upd_same ..) (i_cons (i_var ((upd_ne (by decide)).trans l2) (i_nil ?_)))))))))
    refine after_spec P (hv _ (List.getElem_mem hi)) hr hw ?_
    rw [hd, fol] at hf
    refine i_ife (i_cmp (i_var (upd_same ..) (i_int ⟨_, _, rfl, rfl, ?_⟩)))
    by_cases hn : nx w v[i] a < 0
    · refine i_t (decide_eq_true hn) ?_
      rw [if_pos hn] at hf
      rw [hf] at q
      exact i_ret q
    · refine i_f (decide_eq_false hn) (i_skip ?_)
      rw [if_neg hn] at hf
      exact ⟨rfl, (upd_ne (by decide)).trans ((upd_ne (by decide)).trans l0), (nx w v[i] a).toNat, by rw [upd_same, show ((nx w v[i] a).toNat : Int) = nx w v[i] a by omega], hf⟩
  · rw [List.getElem?_eq_none (by rw [hlen]; omega)]
    rw [List.drop_eq_nil_of_le (by omega), fol] at hf
    rw [hf] at q
    exact i_ret q
end Mini

/-! L3E -/
namespace Mini

def compAt (B : Addr) (src : Src) (i : Nat) (c : TT) (e : ET) (loc : Loc) (h1 : AH) (Q : AV → AH → Prop) : Prop := ∀ D, B ≤ D → h1 D = none →
  ∃ (I : Nat → List AV → AH → Prop) (N : Nat), I 0 [] (upd h1 D (.list [])) ∧ ∀ k ys h, I k ys h → h D = some (.list ys) ∧ ys.length < 2 ^ 20 ∧ ∃ xs, src.items h = some xs ∧ xs.length ≤ N ∧
    match xs[k]? with
    | Option.none => Q (.ref D) h
    | some v => c (upd loc i v) h fun b h2 => if b then e (upd loc i v) h2 fun y h3 => h3 D = some (.list ys) ∧ I (k + 1) (ys ++ [y]) (upd h3 D (.list (ys ++ [y]))) else I (k + 1) ys h2
theorem i_compAt {B : Addr} {it : ItT} {i : Nat} {c : TT} {e : ET} {loc : Loc} {h : AH} {Q : AV → AH → Prop} (q : it loc h fun src h1 => compAt B src i c e loc h1 Q) : T.comp B it i c e loc h Q := q
theorem items_ext {src : Src} {h h' : AH} {xs : List AV} (hs : src.items h = some xs) (e : Ext h h') : src.items h' = some xs := by
  cases src with
  | list a =>
    simp only [Src.items] at hs ⊢
    split at hs
    · rename_i ys hy; rw [e _ _ hy]; exact hs
    · cases hs
  | tup a =>
    simp only [Src.items] at hs ⊢
    split at hs
    · rename_i ys hy; rw [e _ _ hy]; exact hs
    · cases hs
  | range lo st n => exact hs

/-! lists of tuples -/
def TupsAt (h : AH) (L : Addr) (ts : List (Addr × List Nat)) : Prop := h L = some (.list (ts.map fun t => AV.ref t.1)) ∧ ∀ t ∈ ts, h t.1 = some (.tup ((natL t.2).map AV.int))
theorem TupsAt.ext {h h' : AH} {L : Addr} {ts : List (Addr × List Nat)} (x : TupsAt h L ts) (e : Ext h h') : TupsAt h' L ts := ⟨e _ _ x.1, fun t ht => e _ _ (x.2 t ht)⟩

/-- a comprehension whose elements are tuples -/
theorem compT {B : Addr} {src : Src} {h1 : AH} {xs : List AV} {loc : Loc} {i : Nat} {e : ET} {Q : AV → AH → Prop} {f : AV → List Nat}
    (hs : src.items h1 = some xs) (hl : xs.length ≤ 2 ^ 19)
    (he : ∀ v, v ∈ xs → ∀ h2 : AH, Ext h1 h2 → ∀ Q' : AV → AH → Prop, (∀ c h3, Ext h2 h3 → h3 c = some (.tup ((natL (f v)).map AV.int)) → Q' (.ref c) h3) → e (upd loc i v) h2 Q')
    (hQ : ∀ (D : Addr) (h' : AH) (ts : List (Addr × List Nat)), B ≤ D → h1 D = none → Ext h1 h' → TupsAt h' D ts → ts.map (·.2) = xs.map f → Q (.ref D) h') : compAt B src i T.yes e loc h1 Q := by
  intro D hB hD
  refine ⟨fun k ys h' => k ≤ xs.length ∧ Ext h1 h' ∧ ∃ ts : List (Addr × List Nat), ys = ts.map (fun p => AV.ref p.1) ∧ h' D = some (.list ys) ∧ (∀ t ∈ ts, t.1 ≠ D ∧ h' t.1 = some (.tup ((natL t.2).map AV.int))) ∧ ts.map (·.2) = (xs.take k).map f, xs.length,
    ⟨Nat.zero_le _, Ext.new hD, [], rfl, upd_same .., fun p hp => absurd hp List.not_mem_nil, rfl⟩, ?_⟩
  rintro k ys h ⟨hk, eh, ts, rfl, hd, hts, hen⟩
  have hlen : ts.length ≤ xs.length := by
    have h2 := congrArg List.length hen
    rw [List.length_map, List.length_map, List.length_take] at h2; omega
  refine ⟨hd, by rw [List.length_map]; omega, xs, items_ext hs eh, Nat.le_refl _, ?_⟩
  by_cases hkl : k < xs.length
  · rw [List.getElem?_eq_getElem hkl]
    have hm : xs[k] ∈ xs := List.getElem_mem hkl
    refine he _ hm h eh _ fun c h3 e3 hc => ?_
    have hcD : c ≠ D := fun q => by have := e3 _ _ hd; rw [← q, hc] at this; cases this
    refine ⟨e3 _ _ hd, by omega, (eh.trans e3).set hD, ts ++ [(c, f xs[k])], by rw [List.map_append]; rfl, by rw [upd_same], fun t ht => ?_, ?_⟩
    · rcases List.mem_append.mp ht with ht | ht
      · exact ⟨(hts t ht).1, by rw [upd_ne (hts t ht).1]; exact e3 _ _ (hts t ht).2⟩
      · rw [List.mem_singleton.mp ht]; exact ⟨hcD, by show upd _ D _ c = _; rw [upd_ne hcD]; exact hc⟩
    · rw [List.take_succ_eq_append_getElem hkl, List.map_append, List.map_append, hen]; rfl
  · rw [List.getElem?_eq_none (by omega)]
    rw [List.take_of_length_le (by omega)] at hen
    exact hQ D h ts hB hD eh ⟨hd, fun t ht => (hts t ht).2⟩ hen
end Mini

/-! L3F -/
namespace Mini

theorem natL_app (u v : List Nat) : (natL (u ++ v)).map AV.int = (natL u).map AV.int ++ (natL v).map AV.int := by
  unfold natL; simp
/-- one + (sign,) -/
theorem snoc_ok {B c : Addr} {h : AH} {u : List Nat} {σ : Nat} {i j : Nat} {loc : Loc} {Q : AV → AH → Prop} (hi : loc i = some (.ref c)) (hc : h c = some (.tup ((natL u).map AV.int))) (hj : loc j = some (.int (σ : Int))) (hu : u.length ≤ 1000)
    (q : ∀ d h', Ext h h' → h' d = some (.tup ((natL (u ++ [σ])).map AV.int)) → Q (.ref d) h') : T.bin (P.addT B) (T.var i) (T.tup B (T.econs (T.var j) T.enil)) loc h Q := by
  refine i_bin (i_var hi ?_)
  refine i_cons (i_var hj (i_nil ⟨by show (1 : Nat) ≤ 2 ^ 20; decide, fun D hB hD => ?_⟩))
  have e1 : Ext h (upd h D (.tup [.int (σ : Int)])) := Ext.new hD
  have hlen : ((natL u).map AV.int).length = u.length := by rw [List.length_map]; exact List.length_map _
  refine ⟨c, D, _, _, rfl, rfl, e1 _ _ hc, upd_same .., by rw [hlen]; show u.length + 1 ≤ 2 ^ 20; omega, fun e => ?_, (fun _ e => absurd e (by simp)), fun _ _ D2 hB2 hD2 => ?_⟩
  · refine q D _ e1 ?_
    rw [upd_same, natL_app, e]; rfl
  · refine q D2 _ (e1.trans (Ext.new hD2)) ?_
    rw [upd_same, natL_app]; rfl

def subs : List Nat → List (List Nat) := fun w => w.foldl (fun l σ => l ++ l.map (· ++ [σ])) [[]]
theorem subs_snoc (w : List Nat) (σ : Nat) : subs (w ++ [σ]) = subs w ++ (subs w).map (· ++ [σ]) := by unfold subs; rw [List.foldl_append]; rfl
theorem subs_foldl (w : List Nat) : ∀ l : List (List Nat), (w.foldl (fun l σ => l ++ l.map (· ++ [σ])) l).length = l.length * 2 ^ w.length := by
  induction w with
  | nil => intro l; simp
  | cons σ w ih =>
    intro l
    rw [List.foldl_cons, ih, List.length_append, List.length_map, List.length_cons, Nat.pow_succ, Nat.mul_comm (2 ^ w.length) 2, ← Nat.mul_assoc]
    congr 1; omega
theorem subs_len (w : List Nat) : (subs w).length = 2 ^ w.length := by
  have := subs_foldl w [[]]
  rw [List.length_singleton, Nat.one_mul] at this
  exact this
end Mini

/-! L3G -/
namespace Mini

/-! plain facts: words, the next place of a sign, subsequences -/
theorem natL_inj {u v : List Nat} (h : natL u = natL v) : u = v := by
  unfold natL at h
  exact (List.map_inj_right (fun x y e => Int.ofNat.inj e)).mp h
theorem natL_len (u : List Nat) : (natL u).length = u.length := List.length_map _

theorem mem_subs_from (w : List Nat) : ∀ (L : List (List Nat)) (v : List Nat), v ∈ w.foldl (fun l σ => l ++ l.map (· ++ [σ])) L ↔ ∃ a, a ∈ L ∧ ∃ b, b.Sublist w ∧ v = a ++ b := by
  induction w with
  | nil =>
    intro L v
    rw [List.foldl_nil]
    constructor
    · intro h; exact ⟨v, h, [], List.Sublist.slnil, by simp⟩
    · rintro ⟨a, ha, b, hb, rfl⟩
      rw [List.sublist_nil.mp hb, List.append_nil]; exact ha
  | cons σ w ih =>
    intro L v
    rw [List.foldl_cons, ih]
    constructor
    · rintro ⟨a, ha, b, hb, rfl⟩
      rcases List.mem_append.mp ha with ha | ha
      · exact ⟨a, ha, b, hb.cons _, rfl⟩
      · obtain ⟨c, hc, rfl⟩ := List.mem_map.mp ha
        exact ⟨c, hc, σ :: b, hb.cons_cons _, by simp⟩
    · rintro ⟨a, ha, b, hb, rfl⟩
      rcases List.sublist_cons_iff.mp hb with hb | ⟨r, rfl, hr⟩
      · exact ⟨a, List.mem_append_left _ ha, b, hb, rfl⟩
      · exact ⟨a ++ [σ], List.mem_append_right _ (List.mem_map.mpr ⟨a, ha, rfl⟩), r, hr, by simp⟩
theorem mem_subs (w v : List Nat) : v ∈ subs w ↔ v.Sublist w := by
  unfold subs
  rw [mem_subs_from]
  constructor
  · rintro ⟨a, ha, b, hb, rfl⟩
    rw [List.mem_singleton.mp ha]; exact hb
  · intro h; exact ⟨[], List.mem_singleton.mpr rfl, v, h, rfl⟩

/-- behind the first such sign -/
theorem cons_sub_app {σ : Nat} {v t : List Nat} : ∀ {pre : List Nat}, σ ∉ pre → ((σ :: v).Sublist (pre ++ σ :: t) ↔ v.Sublist t)
  | [], _ => by rw [List.nil_append]; exact List.cons_sublist_cons
  | τ :: pre, h => by
    have h1 : σ ≠ τ := fun e => h (e ▸ List.mem_cons_self)
    have h2 : σ ∉ pre := fun e => h (List.mem_cons_of_mem _ e)
    rw [List.cons_append, List.sublist_cons_iff]
    constructor
    · rintro (q | ⟨r, e, q⟩)
      · exact (cons_sub_app h2).mp q
      · rw [List.cons.injEq] at e; exact absurd e.1 h1
    · intro q; exact .inl ((cons_sub_app h2).mpr q)

theorem nx_neg {w : List Nat} {σ a : Nat} (h : nx w σ a < 0) : σ ∉ w.drop a := by
  unfold nx at h
  split at h
  · omega
  · rename_i e
    intro hm
    obtain ⟨i, hi, he⟩ := List.getElem_of_mem hm
    rw [List.length_drop] at hi
    rw [List.getElem_drop] at he
    rw [List.find?_eq_none] at e
    have := e (a + i) (by
      unfold posOf
      rw [List.mem_filter, List.mem_range]
      refine ⟨by omega, ?_⟩
      rw [List.getD_eq_getElem?_getD, List.getElem?_eq_getElem (by omega)]
      simp [he])
    simp at this
theorem nx_pos {w : List Nat} {σ a : Nat} (h : ¬ nx w σ a < 0) : ∃ p, nx w σ a = ((p + 1 : Nat) : Int) ∧ a ≤ p ∧ p < w.length ∧ w[p]? = some σ ∧ ∃ pre, σ ∉ pre ∧ w.drop a = pre ++ σ :: w.drop (p + 1) ∧ (w.take (p + 1)).drop a = pre ++ [σ] := by
  unfold nx at h ⊢
  split at h
  · rename_i p e
    obtain ⟨h1, as, bs, h2, h3⟩ := List.find?_eq_some_iff_append.mp e
    have hap : a ≤ p := by simpa using h1
    have hm : p ∈ posOf w σ := by rw [h2]; simp
    have hp : p < w.length ∧ w.getD p 99 = σ := by
      unfold posOf at hm
      rw [List.mem_filter, List.mem_range] at hm
      exact ⟨hm.1, by simpa using hm.2⟩
    have hw : w[p]? = some σ := by
      have := hp.2
      rw [List.getD_eq_getElem?_getD, List.getElem?_eq_getElem hp.1] at this
      rw [List.getElem?_eq_getElem hp.1]
      simpa using this
    have hwp : w[p]'hp.1 = σ := by rw [List.getElem?_eq_getElem hp.1] at hw; exact Option.some.inj hw
    refine ⟨p, rfl, hap, hp.1, hw, (w.take p).drop a, ?_, ?_, ?_⟩
    · intro hmem
      obtain ⟨i, hi, he⟩ := List.getElem_of_mem hmem
      rw [List.length_drop, List.length_take] at hi
      rw [List.getElem_drop, List.getElem_take] at he
      have hin : a + i ∈ posOf w σ := by
        unfold posOf
        rw [List.mem_filter, List.mem_range]
        refine ⟨by omega, ?_⟩
        rw [List.getD_eq_getElem?_getD, List.getElem?_eq_getElem (by omega)]
        simp [he]
      have hs := posOf_sorted w σ
      rw [h2] at hin hs
      rw [List.pairwise_append, List.pairwise_cons] at hs
      rcases List.mem_append.mp hin with q | q
      · have := h3 _ q
        simp at this
      · rcases List.mem_cons.mp q with q | q
        · omega
        · have := hs.2.1.1 _ q; omega
    · have : w = w.take p ++ σ :: w.drop (p + 1) := by
        conv => lhs; rw [← List.take_append_drop p w]
        rw [List.drop_eq_getElem_cons hp.1, hwp]
      conv => lhs; rw [this]
      rw [List.drop_append_of_le_length (by rw [List.length_take]; omega)]
    · rw [List.take_succ_eq_append_getElem hp.1, hwp, List.drop_append_of_le_length (by rw [List.length_take]; omega)]
  · exact absurd (by decide : (-1 : Int) < 0) h
theorem nx_le {w : List Nat} {σ a : Nat} (h : ¬ nx w σ a < 0) : ∃ q : Nat, nx w σ a = (q : Int) ∧ a < q ∧ q ≤ w.length := by
  obtain ⟨p, e, h1, h2, _⟩ := nx_pos h
  exact ⟨p + 1, e, by omega, by omega⟩
theorem fol_sub (w : List Nat) : ∀ (v : List Nat) (a : Nat), fol w v a = true ↔ v.Sublist (w.drop a)
  | [], a => by rw [fol]; exact ⟨fun _ => List.nil_sublist _, fun _ => rfl⟩
  | σ :: v, a => by
    rw [fol]
    by_cases h : nx w σ a < 0
    · rw [if_pos h]
      constructor
      · intro q; cases q
      · intro q; exact absurd (q.subset List.mem_cons_self) (nx_neg h)
    · rw [if_neg h]
      obtain ⟨p, e, _, _, _, pre, h1, h2, _⟩ := nx_pos h
      rw [e, Int.toNat_natCast, fol_sub w v, h2, cons_sub_app h1]
theorem fol_subs (w v : List Nat) : fol w v 0 = true ↔ v ∈ subs w := by rw [mem_subs, fol_sub, List.drop_zero]
end Mini

/-! L3H -/
namespace Mini

/-! the tuples of a list, read back -/
def decT (xs : List AV) : List Nat := xs.map fun x => match x with | .int i => i.toNat | _ => 0
theorem decT_nat (u : List Nat) : decT ((natL u).map AV.int) = u := by
  unfold decT natL
  rw [List.map_map, List.map_map]
  exact (List.map_congr_left (fun x _ => by simp)).trans (List.map_id u)
def tupL (h : AH) : AV → List Nat
  | .ref c => match h c with
    | some (.tup xs) => decT xs
    | _ => []
  | _ => []
theorem tupL_at {h : AH} {c : Addr} {u : List Nat} (hc : h c = some (.tup ((natL u).map AV.int))) : tupL h (.ref c) = u := by
  unfold tupL
  simp only [hc]; exact decT_nat u

/-! the dict of tuples -/
theorem lookT_isSome (es : List (List Int × AV)) (k : List Int) : (lookT es k).isSome = true ↔ k ∈ es.map (·.1) := by
  unfold lookT
  rw [Option.isSome_map, List.find?_isSome]
  constructor
  · rintro ⟨p, hp, e⟩
    exact List.mem_map.mpr ⟨p, hp, by simpa using e⟩
  · intro h
    obtain ⟨p, hp, e⟩ := List.mem_map.mp h
    exact ⟨p, hp, by simpa using e⟩
theorem keysT_store (es : List (List Int × AV)) (k : List Int) (v : AV) : (storeT es k v).map (·.1) = if (lookT es k).isSome then es.map (·.1) else es.map (·.1) ++ [k] := by
  unfold storeT
  split
  · rw [List.map_map]
    refine List.map_congr_left fun p _ => ?_
    simp only [Function.comp]; split <;> rfl
  · rw [List.map_append]; rfl
/-- a dict whose keys are these words -/
def KeyD (es : List (List Int × AV)) (ds : List (List Nat)) : Prop := es.map (·.1) = ds.map natL ∧ ds.Nodup
theorem KeyD.look {es : List (List Int × AV)} {ds : List (List Nat)} (K : KeyD es ds) (v : List Nat) : (lookT es (natL v)).isSome = true ↔ v ∈ ds := by
  rw [lookT_isSome, K.1]
  constructor
  · intro h
    obtain ⟨u, hu, e⟩ := List.mem_map.mp h
    rw [← natL_inj e]; exact hu
  · intro h; exact List.mem_map.mpr ⟨v, h, rfl⟩
theorem KeyD.len {es : List (List Int × AV)} {ds : List (List Nat)} (K : KeyD es ds) : es.length = ds.length := by
  have := congrArg List.length K.1
  rwa [List.length_map, List.length_map] at this
theorem KeyD.store {es : List (List Int × AV)} {ds : List (List Nat)} (K : KeyD es ds) (v : List Nat) (x : AV) : ∃ ds', KeyD (storeT es (natL v) x) ds' ∧ ds'.length ≤ ds.length + 1 ∧ ∀ u, u ∈ ds' ↔ u ∈ ds ∨ u = v := by
  by_cases h : v ∈ ds
  · refine ⟨ds, ⟨?_, K.2⟩, Nat.le_succ _, fun u => ⟨.inl, fun q => q.elim id fun e => e ▸ h⟩⟩
    rw [keysT_store, if_pos ((K.look v).mpr h)]; exact K.1
  · refine ⟨ds ++ [v], ⟨?_, ?_⟩, by simp, fun u => by simp⟩
    · rw [keysT_store, if_neg (fun q => h ((K.look v).mp q)), K.1, List.map_append]; rfl
    · rw [List.nodup_append]
      refine ⟨K.2, List.nodup_cons.mpr ⟨List.not_mem_nil, List.nodup_nil⟩, fun a ha b hb e => ?_⟩
      rw [List.mem_singleton.mp hb] at e
      exact h (e ▸ ha)

theorem left_over_spec {B a : Addr} {h : AH} {w : List Nat} {Q : AV → AH → Prop} (ha : h a = some (.list ((natL w).map AV.int))) (hw : w.length ≤ 12)
    (q : ∀ D h' es ds, Ext h h' → h' D = some (.tdict es) → KeyD es ds → (∀ v, v ∈ ds ↔ v ∈ subs w) → ds.length ≤ 2 ^ 12 → Q (.ref D) h') : f_left_over B [.ref a] h Q := by
  refine ⟨rfl, ?_⟩
  show t_left_over B _ _ _
  unfold t_left_over
  have hlenA : ((natL w).map AV.int).length = w.length := by rw [List.length_map]; exact natL_len w
  refine i_seq (i_asg (i_list (i_cons (i_nil ⟨Nat.zero_le _, fun E hBE hE => i_nil ⟨by show (1 : Nat) ≤ 2 ^ 20; decide, fun L hBL hL => ?_⟩⟩))))
  have e1 : Ext h (upd h E (.tup [])) := Ext.new hE
  have e2 : Ext (upd h E (.tup [])) (upd (upd h E (.tup [])) L (.list [.ref E])) := Ext.new hL
  have T0 : TupsAt (upd (upd h E (.tup [])) L (.list [.ref E])) L [(E, [])] := ⟨upd_same .., fun t ht => by rw [List.mem_singleton.mp ht]; exact e2 _ _ (upd_same ..)⟩
  have e12 := e1.trans e2
  generalize upd (upd h E (.tup [])) L (.list [.ref E]) = h2 at *
  refine i_seq ?_
  refine i_itL (a := a) (by rw [upd_ne (by decide)]; rfl) (e12 _ _ ha) ?_
  refine ⟨fun i loc h' => i ≤ w.length ∧ loc 0 = some (.ref a) ∧ Ext h h' ∧ ∃ L ts, loc 1 = some (.ref L) ∧ TupsAt h' L ts ∧ ts.map (·.2) = subs (w.take i), w.length,
    ⟨Nat.zero_le _, by rw [upd_ne (by decide)]; rfl, e12, L, _, upd_same .., T0, rfl⟩, ?_⟩
  rintro i loc h3 ⟨hi, l0, e3, L3, ts, l1, T3, hm⟩
  have htl : ts.length = 2 ^ i := by
    have := congrArg List.length hm
    rw [List.length_map, subs_len, List.length_take, Nat.min_eq_left hi] at this; exact this
  have hpow : 2 ^ i ≤ 2 ^ 12 := Nat.pow_le_pow_right (by decide) (by omega)
  have hwl : ∀ t ∈ ts, t.2.length ≤ 12 := fun t ht => by
    have : t.2 ∈ subs (w.take i) := by rw [← hm]; exact List.mem_map.mpr ⟨t, ht, rfl⟩
    have := ((mem_subs _ _).mp this).length_le
    rw [List.length_take] at this; omega
  refine ⟨_, items_list (e3 _ _ ha), by rw [hlenA]; exact Nat.le_refl _, ?_⟩
  by_cases hil : i < w.length
  · have hg : ((natL w).map AV.int)[i]? = some (.int (w[i] : Int)) := by
      unfold natL; rw [List.getElem?_map, List.getElem?_map, List.getElem?_eq_getElem hil]; rfl
    rw [hg]
    dsimp only [T.asN]
    have k1 : upd loc 2 (.int (w[i] : Int)) 1 = some (.ref L3) := (upd_ne (by decide)).trans l1
    refine i_asg (i_bin (i_var k1 (i_compAt (i_itL k1 T3.1 (compT (f := fun v => tupL h3 v ++ [w[i]]) (items_list T3.1) (by rw [List.length_map, htl]; omega) (fun v hv h4 e4 Q' hQ' => ?_) fun D h4 ts' hBD hD e4 T4 hm4 => ?_)))))
    · obtain ⟨t, ht, rfl⟩ := List.mem_map.mp hv
      refine snoc_ok (i := 5) (j := 2) (upd_same ..) (e4 _ _ (T3.2 t ht)) ((upd_ne (by decide)).trans (upd_same ..)) (by have := hwl t ht; omega) fun d h' e hd => hQ' d h' e ?_
      rw [tupL_at (T3.2 t ht)]; exact hd
    · replace hm4 : ts'.map (·.2) = ts.map fun t => t.2 ++ [w[i]] := hm4.trans (by rw [List.map_map]; exact List.map_congr_left fun t ht => by show tupL h3 (.ref t.1) ++ _ = _; rw [tupL_at (T3.2 t ht)])
      have hl4 : ts'.length = ts.length := by
        have := congrArg List.length hm4
        rwa [List.length_map, List.length_map] at this
      refine ⟨L3, D, _, _, rfl, rfl, e4 _ _ T3.1, T4.1, by rw [List.length_map, List.length_map]; omega, fun E4 hBE4 hE4 => ?_⟩
      rw [← List.map_append]
      refine ⟨by omega, by rw [upd_ne (by decide), upd_ne (by decide)]; exact l0, (e3.trans e4).trans (Ext.new hE4), E4, ts ++ ts', upd_same .., ⟨upd_same .., fun t ht => ?_⟩, ?_⟩
      · refine Ext.new hE4 _ _ ?_
        rcases List.mem_append.mp ht with ht | ht
        · exact e4 _ _ (T3.2 t ht)
        · exact T4.2 t ht
      · rw [List.take_succ_eq_append_getElem hil, subs_snoc, List.map_append, hm4, hm, ← hm, List.map_map]; rfl
  · rw [List.getElem?_eq_none (by rw [hlenA]; omega)]
    rw [List.take_of_length_le (by omega)] at hm
    refine i_seq (i_asg fun D hBD hD => ?_)
    have e4 : Ext h3 (upd h3 D (.tdict [])) := Ext.new hD
    refine i_seq (i_itL ((upd_ne (by decide)).trans l1) (e4 _ _ T3.1) ?_)
    refine ⟨fun j loc' h' => j ≤ ts.length ∧ loc' 3 = some (.ref D) ∧ Ext h3 h' ∧ ∃ es ds, h' D = some (.tdict es) ∧ KeyD es ds ∧ ds.length ≤ j ∧ ∀ v, v ∈ ds ↔ v ∈ (ts.take j).map (·.2), ts.length,
      ⟨Nat.zero_le _, upd_same .., e4, [], [], upd_same .., ⟨rfl, List.nodup_nil⟩, Nat.le_refl _, fun v => by simp⟩, ?_⟩
    rintro j loc' h5 ⟨hj, l3, e5, es, ds, hd, K, hdl, hmem⟩
    refine ⟨_, items_list (e5 _ _ T3.1), by rw [List.length_map]; exact Nat.le_refl _, ?_⟩
    by_cases hjl : j < ts.length
    · rw [List.getElem?_map, List.getElem?_eq_getElem hjl]
      obtain ⟨ds', K', hl', hm'⟩ := K.store ts[j].2 (.bool true)
      have hkl := K.len
      refine ⟨.ref D, (upd_ne (by decide)).trans l3, .ref ts[j].1, upd_same .., D, es, ts[j].1, natL ts[j].2, rfl, rfl, hd, e5 _ _ (T3.2 _ (List.getElem_mem hjl)), hBD, by omega, ?_⟩
      refine ⟨by omega, (upd_ne (by decide)).trans l3, e5.set hD, _, ds', upd_same .., K', by omega, fun v => ?_⟩
      rw [hm', hmem, List.take_succ_eq_append_getElem hjl, List.map_append, List.mem_append]; simp
    · rw [List.getElem?_eq_none (by rw [List.length_map]; omega)]
      rw [List.take_of_length_le (by omega), hm] at hmem
      exact i_ret (i_var l3 (q D h5 es ds (e3.trans e5) hd K hmem (by omega)))
end Mini

/-! L3I -/
namespace Mini

def longW (s : Nat) (l : List (List Nat)) : List (List Nat) := l.flatMap fun v => (List.range s).map fun σ => v ++ [σ]
theorem longW_len (s : Nat) (l : List (List Nat)) : (longW s l).length = l.length * s := by
  unfold longW
  induction l with
  | nil => simp
  | cons v l ih => rw [List.flatMap_cons, List.length_append, ih, List.length_map, List.length_range, List.length_cons, Nat.succ_mul, Nat.add_comm]
theorem longW_snoc (s : Nat) (l : List (List Nat)) (v : List Nat) : longW s (l ++ [v]) = longW s l ++ (List.range s).map fun σ => v ++ [σ] := by
  unfold longW; rw [List.flatMap_append]; simp

theorem longer_spec {B L : Addr} {h : AH} {s : Nat} {ts : List (Addr × List Nat)} {Q : AV → AH → Prop} (TT : TupsAt h L ts) (hs : s ≤ 100) (hl : ts.length ≤ 5000) (hu : ∀ t ∈ ts, t.2.length ≤ 1000)
    (q : ∀ D h' ts', Ext h h' → TupsAt h' D ts' → ts'.map (·.2) = longW s (ts.map (·.2)) → Q (.ref D) h') : f_longer B [.ref L, .int (s : Int)] h Q := by
  refine ⟨rfl, ?_⟩
  show t_longer B _ _ _
  unfold t_longer
  refine i_ret ?_
  refine ⟨rfl, i_itL rfl TT.1 fun D hBD hD => ?_⟩
  refine ⟨fun k ys h' => k ≤ ts.length ∧ Ext h h' ∧ ∃ us : List (Addr × List Nat), ys = us.map (fun p => AV.ref p.1) ∧ h' D = some (.list ys) ∧ (∀ t ∈ us, t.1 ≠ D ∧ h' t.1 = some (.tup ((natL t.2).map AV.int))) ∧ us.map (·.2) = longW s ((ts.take k).map (·.2)), ts.length,
    ⟨Nat.zero_le _, Ext.new hD, [], rfl, upd_same .., fun p hp => absurd hp List.not_mem_nil, rfl⟩, ?_⟩
  rintro k ys h1 ⟨hk, e1, us, rfl, hd, hus, hm⟩
  have hul : us.length ≤ ts.length * s := by
    have := congrArg List.length hm
    rw [List.length_map, longW_len, List.length_map, List.length_take, Nat.min_eq_left hk] at this
    rw [this]; exact Nat.mul_le_mul_right _ hk
  have hts : ts.length * s ≤ 5000 * 100 := Nat.mul_le_mul hl hs
  refine ⟨hd, by rw [List.length_map]; omega, _, items_list (e1 _ _ TT.1), by rw [List.length_map]; exact Nat.le_refl _, ?_⟩
  by_cases hkl : k < ts.length
  · rw [List.getElem?_map, List.getElem?_eq_getElem hkl]
    have hmem : ts[k] ∈ ts := List.getElem_mem hkl
    refine i_itR1 (i_cons (i_var (v := .int (s : Int)) ((upd_ne (by decide)).trans rfl) (i_nil ⟨(s : Int), rfl, by unfold T.small; omega, ?_⟩)))
    rw [Int.toNat_natCast]
    have hkt : (ts.take k).length = k := by rw [List.length_take]; omega
    refine ⟨fun m zs h' => m ≤ s ∧ Ext h h' ∧ ∃ us : List (Addr × List Nat), zs = us.map (fun p => AV.ref p.1) ∧ h' D = some (.list zs) ∧ (∀ t ∈ us, t.1 ≠ D ∧ h' t.1 = some (.tup ((natL t.2).map AV.int))) ∧ us.map (·.2) = longW s ((ts.take k).map (·.2)) ++ (List.range m).map (fun σ => ts[k].2 ++ [σ]), s,
      ⟨Nat.zero_le _, e1, us, rfl, hd, hus, by rw [hm]; simp⟩, ?_⟩
    rintro m zs h3 ⟨hms, e3, vs, rfl, hd3, hvs, hm3⟩
    have hvl : vs.length ≤ ts.length * s + s := by
      have := congrArg List.length hm3
      rw [List.length_map, List.length_append, longW_len, List.length_map, hkt, List.length_map, List.length_range] at this
      have h2 : k * s ≤ ts.length * s := Nat.mul_le_mul_right _ hk
      omega
    refine ⟨hd3, by rw [List.length_map]; omega, _, rfl, by rw [rangeL_len]; exact Nat.le_refl _, ?_⟩
    by_cases hml : m < s
    · rw [rangeL_get hml]
      have e0 : (0 : Int) + (m : Int) * 1 = (m : Int) := by omega
      rw [e0]
      refine snoc_ok (i := 2) (j := 3) ((upd_ne (by decide)).trans (upd_same ..)) (e3 _ _ (TT.2 _ hmem)) (upd_same ..) (hu _ hmem) fun d h4 e4 hd4 => ?_
      have hdD : d ≠ D := fun q => by have := e4 _ _ hd3; rw [← q, hd4] at this; cases this
      refine ⟨e4 _ _ hd3, by omega, (e3.trans e4).set hD, vs ++ [(d, ts[k].2 ++ [m])], by rw [List.map_append]; rfl, upd_same .., fun t ht => ?_, ?_⟩
      · rcases List.mem_append.mp ht with ht | ht
        · exact ⟨(hvs t ht).1, by rw [upd_ne (hvs t ht).1]; exact e4 _ _ (hvs t ht).2⟩
        · rw [List.mem_singleton.mp ht]; exact ⟨hdD, by show upd _ D _ d = _; rw [upd_ne hdD]; exact hd4⟩
      · rw [List.range_succ, List.map_append, List.map_append, hm3, List.append_assoc]; rfl
    · rw [rangeL_end (by omega)]
      have hms' : m = s := by omega
      refine ⟨by omega, e3, vs, rfl, hd3, hvs, ?_⟩
      rw [List.take_succ_eq_append_getElem hkl, List.map_append, List.map_singleton, longW_snoc, hm3, hms']
  · rw [List.getElem?_eq_none (by rw [List.length_map]; omega)]
    rw [List.take_of_length_le (by omega)] at hm
    exact q D h1 us e1 ⟨hd, fun t ht => (hus t ht).2⟩ hm
end Mini

/-! L3J -/
namespace Mini

theorem i_itRd {loc : Loc} {h : AH} {f : EsT} {Q : Src → AH → Prop} (q : f loc h fun vs h1 => ∃ a b : Int, vs = [.int a, .int b, .int (-1)] ∧ T.small a ∧ T.small b ∧ Q (.range a (-1) (a - b).toNat) h1) : T.itRd f loc h Q := q
theorem compP {B : Addr} {src : Src} {h1 : AH} {xs : List AV} {loc : Loc} {i : Nat} {c : TT} {e : ET} {Q : AV → AH → Prop} {p : AV → Bool} {g : AV → AV}
    (hs : src.items h1 = some xs) (hl : xs.length ≤ 2 ^ 19)
    (he : ∀ v, v ∈ xs → ∀ h2 : AH, Ext h1 h2 → (∀ Q' : Bool → AH → Prop, Q' (p v) h2 → c (upd loc i v) h2 Q') ∧ (p v = true → ∀ Q' : AV → AH → Prop, Q' (g v) h2 → e (upd loc i v) h2 Q'))
    (hQ : ∀ D, B ≤ D → h1 D = none → Q (.ref D) (upd h1 D (.list ((xs.filter p).map g)))) : compAt B src i c e loc h1 Q := comp_pure hs hl he hQ
theorem compM {B : Addr} {src : Src} {h1 : AH} {xs : List AV} {loc : Loc} {i : Nat} {e : ET} {Q : AV → AH → Prop} {g : AV → AV}
    (hs : src.items h1 = some xs) (hl : xs.length ≤ 2 ^ 19)
    (he : ∀ v, v ∈ xs → ∀ h2 : AH, Ext h1 h2 → ∀ Q' : AV → AH → Prop, Q' (g v) h2 → e (upd loc i v) h2 Q')
    (hQ : ∀ D, B ≤ D → h1 D = none → Q (.ref D) (upd h1 D (.list (xs.map g)))) : compAt B src i T.yes e loc h1 Q := comp_map hs hl he hQ
def stepsL (w : List Nat) (s a : Nat) : List Int := (List.range s).map fun σ => nx w σ a
theorem mem_stepsL {w : List Nat} {s a : Nat} {x : Int} (h : x ∈ stepsL w s a) : ∃ σ, σ < s ∧ x = nx w σ a := by
  obtain ⟨σ, hσ, e⟩ := List.mem_map.mp h
  exact ⟨σ, List.mem_range.mp hσ, e.symm⟩
def nxA (w : List Nat) (a : Nat) : AV → AV
  | .int i => .int (nx w i.toNat a)
  | v => v
theorem steps_map (w : List Nat) (s a : Nat) : ((rangeL 0 1 s).map AV.int).map (nxA w a) = (stepsL w s a).map AV.int := by
  unfold stepsL rangeL
  rw [List.map_map, List.map_map, List.map_map]
  refine List.map_congr_left fun i hi => ?_
  show AV.int (nx w ((0 : Int) + (i : Int) * 1).toNat a) = AV.int (nx w i a)
  have : ((0 : Int) + (i : Int) * 1).toNat = i := by omega
  rw [this]
theorem steps_ok {B pl : Addr} {h : AH} {w : List Nat} {rs : List Addr} {s a : Nat} {loc : Loc} {ip is ia iv : Nat} {Q : AV → AH → Prop} (P : PlacesAt h pl w rs) (hr : rs.length = s) (hs : s ≤ 100) (hw : w.length ≤ 1000)
    (l0 : loc ip = some (.ref pl)) (l1 : loc is = some (.int (s : Int))) (l5 : loc ia = some (.int (a : Int))) (n1 : ip ≠ iv) (n2 : ia ≠ iv)
    (q : ∀ D, B ≤ D → h D = none → Q (.ref D) (upd h D (.list ((stepsL w s a).map AV.int)))) :
    T.comp B (T.itR1 (T.econs (T.var is) T.enil)) iv T.yes (T.call (T.econs (T.var ip) (T.econs (T.var iv) (T.econs (T.var ia) T.enil))) (f_after B)) loc h Q := by
  refine i_compAt (i_itR1 (i_cons (i_var l1 (i_nil ⟨(s : Int), rfl, by unfold T.small; omega, ?_⟩))))
  rw [Int.toNat_natCast]
  refine compM (xs := (rangeL 0 1 s).map AV.int) (g := nxA w a) rfl (by rw [rangeL_len]; omega) (fun v hv h2 e2 Q' hq => ?_) fun D hB hD => ?_
  · obtain ⟨x, hx, rfl⟩ := List.mem_map.mp hv
    unfold rangeL at hx
    obtain ⟨k, hk, rfl⟩ := List.mem_map.mp hx
    rw [List.mem_range] at hk
    have e0 : (0 : Int) + (k : Int) * 1 = (k : Int) := by omega
    rw [e0] at hq ⊢
    refine i_call (i_cons (i_var ((upd_ne n1).trans l0) (i_cons (i_var (upd_same ..) (i_cons (i_var ((upd_ne n2).trans l5) (i_nil ?_)))))))
    exact after_spec (P.ext e2) (by omega) (by omega) hw hq
  · rw [steps_map]; exact q D hB hD

def geA : AV → Bool
  | .int x => decide (x ≥ 0)
  | _ => false
def numA (M : Nat → Nat) : AV → AV
  | .int x => .int (M x.toNat : Int)
  | v => v
def shortI (S : Nat → Nat) (x : Int) : Int := if x < 0 then 1 else 1 + (S x.toNat : Int)
def shortA (S : Nat → Nat) : AV → AV
  | .int x => .int (shortI S x)
  | v => v
theorem num_map (M : Nat → Nat) (l : List Int) : ((l.map AV.int).filter geA).map (numA M) = ((l.filter fun x => decide (x ≥ 0)).map fun x => (M x.toNat : Int)).map AV.int := by
  rw [List.filter_map, List.map_map, List.map_map]; rfl
theorem short_map (S : Nat → Nat) (l : List Int) : (l.map AV.int).map (shortA S) = (l.map (shortI S)).map AV.int := by
  rw [List.map_map, List.map_map]; rfl

theorem back_spec {B pl : Addr} {h : AH} {w : List Nat} {rs : List Addr} {s : Nat} {M S : Nat → Nat} {Q : AV → AH → Prop} (P : PlacesAt h pl w rs) (hr : rs.length = s) (hs0 : 0 < s) (hs : s ≤ 100) (hw : w.length ≤ 1000)
    (hM : ∀ a, a ≤ w.length → (M a : Int) = 1 + (((stepsL w s a).filter fun x => decide (x ≥ 0)).map fun x => (M x.toNat : Int)).sum)
    (hS : ∀ a, a ≤ w.length → ∀ X, X ∈ (stepsL w s a).map (shortI S) → (∀ y, y ∈ (stepsL w s a).map (shortI S) → X ≤ y) → X = (S a : Int))
    (q : ∀ D h', Ext h h' → h' D = some (.tup [.int (M 0 : Int), .int (S 0 : Int)]) → Q (.ref D) h') : f_back B [.ref pl, .int (s : Int), .int (w.length : Int)] h Q := by
  refine ⟨rfl, ?_⟩
  show t_back B _ _ _
  unfold t_back
  generalize hn : w.length = n at *
  refine i_seq (i_asg (i_bin (i_list (i_cons (i_int (i_nil ⟨by show (1 : Nat) ≤ 2 ^ 20; decide, fun t1 hB1 h1 => ?_⟩))))))
  refine i_bin (i_var (v := .int (n : Int)) rfl (i_int (i_add ?_)))
  refine ⟨t1, .int 0, _, rfl, rfl, upd_same .., by omega, by omega, fun mA hBm hm => ?_⟩
  refine i_seq (i_asg (i_bin (i_list (i_cons (i_int (i_nil ⟨by show (1 : Nat) ≤ 2 ^ 20; decide, fun t2 hB2 h2 => ?_⟩))))))
  refine i_bin (i_var (v := .int (n : Int)) ((upd_ne (by decide)).trans rfl) (i_int (i_add ?_)))
  refine ⟨t2, .int 0, _, rfl, rfl, upd_same .., by omega, by omega, fun sA hBs hsn => ?_⟩
  have hrep : List.replicate ((n : Int) + 1).toNat (AV.int 0) = (List.replicate (n + 1) (0 : Int)).map AV.int := by rw [show ((n : Int) + 1).toNat = n + 1 by omega]; simp
  rw [hrep] at h2 hsn ⊢
  have x1 : Ext h (upd h t1 (.list [.int 0])) := Ext.new h1
  have x2 := x1.trans (Ext.new (c := .list ((List.replicate (n + 1) (0 : Int)).map AV.int)) hm)
  have x3 := x2.trans (Ext.new (c := .list [.int 0]) h2)
  have x4 := x3.trans (Ext.new (c := .list ((List.replicate (n + 1) (0 : Int)).map AV.int)) hsn)
  have hmh : h mA = none := x1.none hm
  have hsh : h sA = none := x3.none hsn
  have hms : mA ≠ sA := ne_of ((Ext.new h2) _ _ (upd_same ..)) hsn
  have hmv := (Ext.new (c := .list ((List.replicate (n + 1) (0 : Int)).map AV.int)) hsn) _ _ (Ext.new (c := .list [.int 0]) h2 _ _ (upd_same (upd h t1 (.list [.int 0])) mA (Cell.list ((List.replicate (n + 1) (0 : Int)).map AV.int))))
  have hsv := upd_same (upd (upd (upd h t1 (.list [.int 0])) mA (.list ((List.replicate (n + 1) (0 : Int)).map AV.int))) t2 (.list [.int 0])) sA (Cell.list ((List.replicate (n + 1) (0 : Int)).map AV.int))
  generalize upd (upd (upd (upd h t1 (.list [.int 0])) mA (.list ((List.replicate (n + 1) (0 : Int)).map AV.int))) t2 (.list [.int 0])) sA (.list ((List.replicate (n + 1) (0 : Int)).map AV.int)) = h4 at *
  refine i_seq (i_itRd (i_cons (i_var (v := .int (n : Int)) ((upd_ne (by decide)).trans ((upd_ne (by decide)).trans rfl)) (i_cons ⟨1, rfl, i_cons ⟨1, rfl, i_nil ⟨(n : Int), -1, rfl, by unfold T.small; omega, by unfold T.small; omega, ?_⟩⟩⟩))))
  have hcnt : ((n : Int) - (-1)).toNat = n + 1 := by omega
  rw [hcnt]
  refine ⟨fun i loc h' => i ≤ n + 1 ∧ loc 0 = some (.ref pl) ∧ loc 1 = some (.int (s : Int)) ∧ loc 3 = some (.ref mA) ∧ loc 4 = some (.ref sA) ∧ Ext h h' ∧
      ∃ ms ss : List Int, ms.length = n + 1 ∧ ss.length = n + 1 ∧ h' mA = some (.list (ms.map AV.int)) ∧ h' sA = some (.list (ss.map AV.int)) ∧
        (∀ j, n + 1 ≤ j + i → j ≤ n → ms[j]? = some (M j : Int)) ∧ (∀ j, n + 1 ≤ j + i → j ≤ n → ss[j]? = some (S j : Int)), n + 1,
    ⟨Nat.zero_le _, rfl, rfl, by rw [upd_ne (by decide)]; exact upd_same .., upd_same .., x4, _, _, List.length_replicate, List.length_replicate, hmv, hsv, fun j h1 h2 => by omega, fun j h1 h2 => by omega⟩, ?_⟩
  rintro i loc h5 ⟨hi, l0, l1, l3, l4, e5, ms, ss, hml, hsl, hmA, hsA, hMM, hSS⟩
  refine ⟨_, rfl, by rw [rangeL_len]; exact Nat.le_refl _, ?_⟩
  by_cases hil : i < n + 1
  · rw [rangeL_get hil]
    have e0 : (n : Int) + (i : Int) * (-1) = ((n - i : Nat) : Int) := by omega
    rw [e0]
    generalize ha : n - i = a at *
    have han : a ≤ n := by omega
    have hstep : ∀ x, x ∈ stepsL w s a → ¬ x < 0 → ∃ q : Nat, x = (q : Int) ∧ a < q ∧ q ≤ n := fun x hx hx0 => by
      obtain ⟨σ, hσ, rfl⟩ := mem_stepsL hx
      rw [← hn]; exact nx_le hx0
    refine i_seq (i_asg ?_)
    refine steps_ok (P.ext e5) hr hs (by omega) ((upd_ne (by decide)).trans l0) ((upd_ne (by decide)).trans l1) (upd_same ..) (by decide) (by decide) fun D hBD hD => ?_
    have l3' : ∀ v u, upd (upd loc 5 v) 6 u 3 = some (.ref mA) := fun v u => by rw [upd_ne (by decide), upd_ne (by decide)]; exact l3
    have l4' : ∀ v u, upd (upd loc 5 v) 6 u 4 = some (.ref sA) := fun v u => by rw [upd_ne (by decide), upd_ne (by decide)]; exact l4
    have l5' : ∀ v u, upd (upd loc 5 v) 6 u 5 = some v := fun v u => by rw [upd_ne (by decide)]; exact upd_same ..
    have e6 : Ext h5 (upd h5 D (.list ((stepsL w s a).map AV.int))) := Ext.new hD
    have hDv : upd h5 D (.list ((stepsL w s a).map AV.int)) D = some (.list ((stepsL w s a).map AV.int)) := upd_same ..
    generalize upd h5 D (.list ((stepsL w s a).map AV.int)) = h6 at *
    have hstl : (stepsL w s a).length = s := by unfold stepsL; rw [List.length_map, List.length_range]
    have hmD : mA ≠ D := ne_of hmA hD
    have hsD : sA ≠ D := ne_of hsA hD
    -- many[at]
    refine i_seq ?_
    refine i_bin (i_int (i_call (i_cons (i_compAt (i_itL (upd_same ..) hDv ?_)))))
    refine compP (p := geA) (g := numA M) (items_list hDv) (by rw [List.length_map, hstl]; omega) (fun v hv h7 e7 => ?_) fun D2 hBD2 hD2 => ?_
    · obtain ⟨x, hx, rfl⟩ := List.mem_map.mp hv
      refine ⟨fun Q' q' => i_cmp (i_var (upd_same ..) (i_int ⟨x, 0, rfl, rfl, q'⟩)), fun hp Q' q' => ?_⟩
      have hx0 : ¬ x < 0 := by have := of_decide_eq_true hp; omega
      obtain ⟨y, rfl, hy1, hy2⟩ := hstep x hx hx0
      refine ⟨_, (upd_ne (by decide)).trans (l3' _ _), _, upd_same .., mA, _, _, .int (M y : Int), rfl, rfl, e7 _ _ (e6 _ _ hmA), by omega, by omega, ?_, q'⟩
      rw [Int.toNat_natCast, List.getElem?_map, hMM y (by omega) hy2]; rfl
    rw [num_map]
    refine i_nil ⟨D2, _, rfl, upd_same .., i_add ?_⟩
    rw [← hM a han]
    have e7 : Ext h6 (upd h6 D2 (.list (((((stepsL w s a).filter fun x => decide (x ≥ 0)).map fun x => (M x.toNat : Int))).map AV.int))) := Ext.new hD2
    generalize upd h6 D2 (.list (((((stepsL w s a).filter fun x => decide (x ≥ 0)).map fun x => (M x.toNat : Int))).map AV.int)) = h7 at *
    have e57 := e6.trans e7
    refine ⟨_, l3' _ _, _, l5' _ _, mA, _, (a : Int), rfl, rfl, e57 _ _ hmA, hBm, by omega, by rw [List.length_map]; omega, by rw [List.length_map]; omega, ?_⟩
    rw [Int.toNat_natCast, ← List.map_set]
    -- short[at]
    have hDv7 : upd h7 mA (.list ((ms.set a (M a : Int)).map AV.int)) D = some (.list ((stepsL w s a).map AV.int)) := by rw [upd_ne (Ne.symm hmD)]; exact e7 _ _ hDv
    have hsv7 : upd h7 mA (.list ((ms.set a (M a : Int)).map AV.int)) sA = some (.list (ss.map AV.int)) := by rw [upd_ne (Ne.symm hms)]; exact e57 _ _ hsA
    have hmv7 : upd h7 mA (.list ((ms.set a (M a : Int)).map AV.int)) mA = some (.list ((ms.set a (M a : Int)).map AV.int)) := upd_same ..
    have eh7 : Ext h (upd h7 mA (.list ((ms.set a (M a : Int)).map AV.int))) := (e5.trans e57).set hmh
    generalize upd h7 mA (.list ((ms.set a (M a : Int)).map AV.int)) = h8 at *
    refine i_call (i_cons (i_compAt (i_itL (upd_same ..) hDv7 ?_)))
    refine compM (g := shortA S) (items_list hDv7) (by rw [List.length_map, hstl]; omega) (fun v hv h9 e9 Q' q' => ?_) fun D3 hBD3 hD3 => ?_
    · obtain ⟨x, hx, rfl⟩ := List.mem_map.mp hv
      refine i_cmp (i_var (upd_same ..) (i_int ⟨x, 0, rfl, rfl, ?_⟩))
      by_cases hx0 : x < 0
      · refine i_t (decide_eq_true hx0) (i_int ?_)
        have : shortA S (.int x) = .int 1 := by show AV.int (shortI S x) = _; unfold shortI; rw [if_pos hx0]
        rw [this] at q'; exact q'
      · refine i_f (decide_eq_false hx0) (i_bin (i_int ?_))
        obtain ⟨y, rfl, hy1, hy2⟩ := hstep x hx hx0
        have : shortA S (.int (y : Int)) = .int (1 + (S y : Int)) := by show AV.int (shortI S y) = _; unfold shortI; rw [if_neg hx0, Int.toNat_natCast]
        rw [this] at q'
        refine ⟨_, (upd_ne (by decide)).trans (l4' _ _), _, upd_same .., sA, _, _, .int (S y : Int), rfl, rfl, e9 _ _ hsv7, by omega, by omega, ?_, i_add q'⟩
        rw [Int.toNat_natCast, List.getElem?_map, hSS y (by omega) hy2]; rfl
    rw [short_map]
    have hne : (stepsL w s a).map (shortI S) ≠ [] := fun e => by
      have := congrArg List.length e
      rw [List.length_map, hstl] at this; simp at this; omega
    refine i_nil ⟨D3, _, rfl, upd_same .., hne, fun X hX1 hX2 => ?_⟩
    rw [hS a han X hX1 hX2]
    have e9 : Ext h8 (upd h8 D3 (.list (((stepsL w s a).map (shortI S)).map AV.int))) := Ext.new hD3
    generalize upd h8 D3 (.list (((stepsL w s a).map (shortI S)).map AV.int)) = h9 at *
    refine ⟨_, l4' _ _, _, l5' _ _, sA, _, (a : Int), rfl, rfl, e9 _ _ hsv7, hBs, by omega, by rw [List.length_map]; omega, by rw [List.length_map]; omega, ?_⟩
    rw [Int.toNat_natCast, ← List.map_set]
    refine ⟨by omega, by rw [upd_ne (by decide), upd_ne (by decide)]; exact l0, by rw [upd_ne (by decide), upd_ne (by decide)]; exact l1, l3' _ _, l4' _ _, (eh7.trans e9).set hsh, ms.set a (M a : Int), ss.set a (S a : Int), by rw [List.length_set]; exact hml, by rw [List.length_set]; exact hsl,
      by rw [upd_ne hms]; exact e9 _ _ hmv7, upd_same .., fun j h1 h2 => ?_, fun j h1 h2 => ?_⟩
    · by_cases hj : j = a
      · subst hj; rw [List.getElem?_set_self (by omega)]
      · rw [List.getElem?_set_ne (Ne.symm hj)]; exact hMM j (by omega) h2
    · by_cases hj : j = a
      · subst hj; rw [List.getElem?_set_self (by omega)]
      · rw [List.getElem?_set_ne (Ne.symm hj)]; exact hSS j (by omega) h2
  · rw [rangeL_end (by omega)]
    have g1 : (ms.map AV.int)[0]? = some (.int (M 0 : Int)) := by rw [List.getElem?_map, hMM 0 (by omega) (by omega)]; rfl
    have g2 : (ss.map AV.int)[0]? = some (.int (S 0 : Int)) := by rw [List.getElem?_map, hSS 0 (by omega) (by omega)]; rfl
    refine i_ret (i_cons (i_idx (k := 0) l3 hmA (by decide) g1 (i_cons (i_idx (k := 0) l4 hsA (by decide) g2 (i_nil ⟨by show (2 : Nat) ≤ 2 ^ 20; decide, fun D hBD hD => ?_⟩)))))
    exact q D _ (e5.trans (Ext.new hD)) (upd_same ..)
end Mini

/-! L3K -/
namespace Mini

/-! counting the words that can be followed -/
def Ds (w : List Nat) (s : Nat) : Nat → Nat → List (List Nat)
  | 0, _ => [[]]
  | n + 1, a => [] :: (List.range s).flatMap fun σ => if nx w σ a < 0 then [] else (Ds w s n (nx w σ a).toNat).map (σ :: ·)
theorem mem_Ds {w : List Nat} {s : Nat} (hs : ∀ σ ∈ w, σ < s) : ∀ (n a : Nat) (v : List Nat), a ≤ w.length → w.length ≤ a + n → (v ∈ Ds w s n a ↔ v.Sublist (w.drop a))
  | 0, a, v, h1, h2 => by
    rw [List.drop_eq_nil_of_le (by omega), List.sublist_nil, Ds, List.mem_singleton]
  | n + 1, a, [], h1, h2 => by
    rw [Ds]
    exact ⟨fun _ => List.nil_sublist _, fun _ => List.mem_cons_self⟩
  | n + 1, a, σ :: v, h1, h2 => by
    rw [Ds, List.mem_cons, List.mem_flatMap]
    constructor
    · rintro (q | ⟨τ, hτ, q⟩)
      · cases q
      · by_cases hx : nx w τ a < 0
        · rw [if_pos hx] at q; cases q
        · rw [if_neg hx] at q
          obtain ⟨u, hu, e⟩ := List.mem_map.mp q
          rw [List.cons.injEq] at e
          obtain ⟨rfl, rfl⟩ := e
          obtain ⟨p, e, e1, e2, _, pre, g1, g2, _⟩ := nx_pos hx
          rw [e, Int.toNat_natCast, mem_Ds hs n _ _ (by omega) (by omega)] at hu
          rw [g2, cons_sub_app g1]; exact hu
    · intro q
      have hmem : σ ∈ w.drop a := q.subset List.mem_cons_self
      have hx : ¬ nx w σ a < 0 := fun h => nx_neg h hmem
      refine .inr ⟨σ, List.mem_range.mpr (hs σ (List.mem_of_mem_drop hmem)), ?_⟩
      rw [if_neg hx]
      obtain ⟨p, e, e1, e2, _, pre, g1, g2, _⟩ := nx_pos hx
      rw [g2, cons_sub_app g1] at q
      exact List.mem_map.mpr ⟨v, by rw [e, Int.toNat_natCast, mem_Ds hs n _ _ (by omega) (by omega)]; exact q, rfl⟩
theorem nodup_Ds (w : List Nat) (s : Nat) : ∀ n a : Nat, (Ds w s n a).Nodup
  | 0, a => by rw [Ds]; exact List.nodup_cons.mpr ⟨List.not_mem_nil, List.nodup_nil⟩
  | n + 1, a => by
    rw [Ds, List.nodup_cons]
    refine ⟨fun h => ?_, ?_⟩
    · obtain ⟨σ, _, q⟩ := List.mem_flatMap.mp h
      split at q
      · cases q
      · obtain ⟨u, _, e⟩ := List.mem_map.mp q; cases e
    · unfold List.Nodup
      rw [List.pairwise_flatMap]
      refine ⟨fun σ _ => ?_, ?_⟩
      · split
        · exact List.Pairwise.nil
        · exact List.pairwise_map.mpr ((nodup_Ds w s n _).imp fun h e => h (List.cons.inj e).2)
      · refine List.Pairwise.imp (R := (· < ·)) (fun {x y} hxy u hu v hv e => ?_) List.pairwise_lt_range
        subst e
        split at hu
        · cases hu
        · split at hv
          · cases hv
          · obtain ⟨u1, _, e1⟩ := List.mem_map.mp hu
            obtain ⟨u2, _, e2⟩ := List.mem_map.mp hv
            rw [← e2, List.cons.injEq] at e1
            omega
def cnt (w : List Nat) (s a : Nat) : Nat := (Ds w s (w.length + 1) a).length
theorem len_eq {l m : List (List Nat)} (hl : l.Nodup) (hm : m.Nodup) (h : ∀ v, v ∈ l ↔ v ∈ m) : l.length = m.length := ((List.perm_ext_iff_of_nodup hl hm).mpr fun v => h v).length_eq
theorem cnt_sum (w : List Nat) (s a : Nat) (n : Nat) (hc : ∀ σ, ¬ nx w σ a < 0 → (Ds w s n (nx w σ a).toNat).length = cnt w s (nx w σ a).toNat) (l : List Nat) :
    (((l.flatMap fun σ => if nx w σ a < 0 then [] else (Ds w s n (nx w σ a).toNat).map (σ :: ·)).length : Nat) : Int) = (((l.map fun σ => nx w σ a).filter fun x => decide (x ≥ 0)).map fun x => (cnt w s x.toNat : Int)).sum := by
  induction l with
  | nil => rfl
  | cons σ l ih =>
    rw [List.flatMap_cons, List.length_append, List.map_cons, List.filter_cons]
    by_cases hx : nx w σ a < 0
    · rw [if_pos hx, if_neg (by simpa using hx)]
      rw [List.length_nil, Nat.zero_add]; exact ih
    · rw [if_neg hx, if_pos (by simpa using hx), List.map_cons, List.sum_cons, List.length_map, ← ih, hc σ hx]
      omega
theorem cnt_rec {w : List Nat} {s : Nat} (hs : ∀ σ ∈ w, σ < s) (a : Nat) (ha : a ≤ w.length) : (cnt w s a : Int) = 1 + (((stepsL w s a).filter fun x => decide (x ≥ 0)).map fun x => (cnt w s x.toNat : Int)).sum := by
  have h1 : cnt w s a = (Ds w s (w.length + 2) a).length := len_eq (nodup_Ds ..) (nodup_Ds ..) fun v => by rw [mem_Ds hs _ _ _ ha (by omega), mem_Ds hs _ _ _ ha (by omega)]
  rw [h1, Ds, List.length_cons]
  unfold stepsL
  rw [← cnt_sum w s a (w.length + 1) (fun σ _ => rfl)]
  omega
theorem cnt_subs {w : List Nat} {s : Nat} (hs : ∀ σ ∈ w, σ < s) {ds : List (List Nat)} (hd : ds.Nodup) (h : ∀ v, v ∈ ds ↔ v ∈ subs w) : ds.length = cnt w s 0 :=
  len_eq hd (nodup_Ds ..) fun v => by rw [h, mem_subs, mem_Ds hs _ _ _ (Nat.zero_le _) (by omega), List.drop_zero]

/-! the shortest word that can't be followed -/
def Ws (s : Nat) (v : List Nat) : Prop := ∀ σ ∈ v, σ < s
structure Least (w : List Nat) (s a S : Nat) : Prop where
  some : ∃ v : List Nat, v.length = S ∧ Ws s v ∧ ¬ v.Sublist (w.drop a)
  least : ∀ v : List Nat, Ws s v → ¬ v.Sublist (w.drop a) → S ≤ v.length
theorem least_of {P : Nat → Prop} : ∀ n, P n → ∃ m, P m ∧ ∀ k, P k → m ≤ k := by
  intro n
  induction n using Nat.strongRecOn with
  | ind n ih =>
    intro h
    by_cases q : ∃ m, m < n ∧ P m
    · obtain ⟨m, h1, h2⟩ := q
      exact ih m h1 h2
    · exact ⟨n, h, fun k hk => Nat.not_lt.mp fun hlt => q ⟨k, hlt, hk⟩⟩
theorem least_ex {s : Nat} (hs : 0 < s) (w : List Nat) (a : Nat) : ∃ S, Least w s a S := by
  obtain ⟨m, ⟨v, h1, h2, h3⟩, h4⟩ := least_of (P := fun n => ∃ v : List Nat, v.length = n ∧ Ws s v ∧ ¬ v.Sublist (w.drop a)) (w.length + 1)
    ⟨List.replicate (w.length + 1) 0, List.length_replicate, fun σ h => by rw [(List.mem_replicate.mp h).2]; exact hs, fun h => by
      have := h.length_le
      rw [List.length_replicate, List.length_drop] at this; omega⟩
  exact ⟨m, ⟨v, h1, h2, h3⟩, fun v g1 g2 => h4 _ ⟨v, rfl, g1, g2⟩⟩
noncomputable def sht {s : Nat} (hs : 0 < s) (w : List Nat) (a : Nat) : Nat := Classical.choose (least_ex hs w a)
theorem sht_least {s : Nat} (hs : 0 < s) (w : List Nat) (a : Nat) : Least w s a (sht hs w a) := Classical.choose_spec (least_ex hs w a)
theorem sht_rec {s : Nat} (hs : 0 < s) (w : List Nat) (a : Nat) (X : Int) (h1 : X ∈ (stepsL w s a).map (shortI (sht hs w))) (h2 : ∀ y, y ∈ (stepsL w s a).map (shortI (sht hs w)) → X ≤ y) : X = (sht hs w a : Int) := by
  have up : (sht hs w a : Int) ≤ X := by
    obtain ⟨x, hx, rfl⟩ := List.mem_map.mp h1
    obtain ⟨σ, hσ, rfl⟩ := mem_stepsL hx
    unfold shortI
    by_cases hn : nx w σ a < 0
    · rw [if_pos hn]
      have := (sht_least hs w a).least [σ] (fun τ hτ => by rw [List.mem_singleton.mp hτ]; exact hσ) fun q => nx_neg hn (q.subset List.mem_cons_self)
      simp at this; omega
    · rw [if_neg hn]
      obtain ⟨p, e, e1, e2, _, pre, g1, g2, _⟩ := nx_pos hn
      rw [e, Int.toNat_natCast]
      obtain ⟨v, k1, k2, k3⟩ := (sht_least hs w (p + 1)).some
      have := (sht_least hs w a).least (σ :: v) (fun τ hτ => by
        rcases List.mem_cons.mp hτ with rfl | hτ
        · exact hσ
        · exact k2 τ hτ) fun q => k3 (by rw [g2, cons_sub_app g1] at q; exact q)
      rw [List.length_cons, k1] at this; omega
  have dn : X ≤ (sht hs w a : Int) := by
    obtain ⟨v, k1, k2, k3⟩ := (sht_least hs w a).some
    match v, k1, k2, k3 with
    | [], _, _, k3 => exact absurd (List.nil_sublist _) k3
    | σ :: v, k1, k2, k3 =>
      refine Int.le_trans (h2 _ (List.mem_map.mpr ⟨_, List.mem_map.mpr ⟨σ, List.mem_range.mpr (k2 σ List.mem_cons_self), rfl⟩, rfl⟩)) ?_
      rw [List.length_cons] at k1
      unfold shortI
      by_cases hn : nx w σ a < 0
      · rw [if_pos hn]; omega
      · rw [if_neg hn]
        obtain ⟨p, e, e1, e2, _, pre, g1, g2, _⟩ := nx_pos hn
        rw [e, Int.toNat_natCast]
        have := (sht_least hs w (p + 1)).least v (fun τ hτ => k2 τ (List.mem_cons_of_mem _ hτ)) fun q => k3 (by rw [g2, cons_sub_app g1]; exact q)
        omega
  omega
end Mini

/-! L3L -/
namespace Mini

/-! arches -/
structure Arch (w : List Nat) (s : Nat) (E : List Nat) (a : Nat) : Prop where
  two : 2 * E.length ≤ a
  le : a ≤ w.length
  sg : Ws s E
  all : ∀ v, v.length ≤ E.length → Ws s v → v.Sublist (w.take a)
  cut : ∀ v, (E ++ v).Sublist w → v.Sublist (w.drop a)
theorem Arch.start (w : List Nat) (s : Nat) : Arch w s [] 0 :=
  ⟨Nat.le_refl _, Nat.zero_le _, fun σ h => absurd h List.not_mem_nil, fun v h _ => by rw [List.length_eq_zero_iff.mp (Nat.le_zero.mp h)]; exact List.nil_sublist _, fun v h => by rw [List.drop_zero]; exact h⟩
theorem take_split (w : List Nat) {a b : Nat} (h : a ≤ b) : w.take b = w.take a ++ (w.take b).drop a := by
  conv => lhs; rw [← List.take_append_drop a (w.take b)]
  rw [List.take_take, Nat.min_eq_left h]
theorem Arch.step {w : List Nat} {s : Nat} {E : List Nat} {a : Nat} (A : Arch w s E a) (hs : 2 ≤ s) (hall : ∀ x, x ∈ stepsL w s a → ¬ x < 0) {m : Int} (hm : m ∈ stepsL w s a) (hmax : ∀ x, x ∈ stepsL w s a → x ≤ m) :
    ∃ (b σ : Nat), m = (b : Int) ∧ a < b ∧ b ≤ w.length ∧ w[b - 1]? = some σ ∧ Arch w s (E ++ [σ]) b := by
  have hin : ∀ σ, σ < s → nx w σ a ∈ stepsL w s a := fun σ hσ => List.mem_map.mpr ⟨σ, List.mem_range.mpr hσ, rfl⟩
  obtain ⟨σ, hσ, rfl⟩ := mem_stepsL hm
  obtain ⟨p, e, e1, e2, e3, pre, g1, g2, g3⟩ := nx_pos (hall _ hm)
  obtain ⟨p0, f, f1, f2, f3, _⟩ := nx_pos (hall _ (hin 0 (by omega)))
  obtain ⟨p1, k, k1, k2, k3, _⟩ := nx_pos (hall _ (hin 1 (by omega)))
  have hne : p0 ≠ p1 := fun q => by rw [q, k3] at f3; cases f3
  have m0 := hmax _ (hin 0 (by omega))
  have m1 := hmax _ (hin 1 (by omega))
  have htwo := A.two
  refine ⟨p + 1, σ, e, by omega, by omega, e3, ?_, by omega, ?_, ?_, ?_⟩
  · rw [List.length_append, List.length_singleton]; omega
  · intro τ hτ
    rcases List.mem_append.mp hτ with hτ | hτ
    · exact A.sg τ hτ
    · rw [List.mem_singleton.mp hτ]; exact hσ
  · intro v hv hsv
    rw [take_split w (show a ≤ p + 1 by omega)]
    rw [List.length_append, List.length_singleton] at hv
    by_cases hl : v.length ≤ E.length
    · exact (A.all v hl hsv).trans (List.sublist_append_left _ _)
    · have hlt : E.length < v.length := by omega
      have hvE : v = v.take E.length ++ [v[E.length]] := by
        rw [← List.take_succ_eq_append_getElem hlt, List.take_of_length_le (by omega)]
      have hτ : v[E.length] < s := hsv _ (List.getElem_mem hlt)
      rw [hvE]
      generalize v[E.length] = τ at hτ
      refine List.Sublist.append (A.all _ (by rw [List.length_take]; omega) fun x hx => hsv x (List.mem_of_mem_take hx)) ?_
      rw [List.singleton_sublist]
      have hmτ := hmax _ (hin τ hτ)
      obtain ⟨q, r, r1, r2, r3, _⟩ := nx_pos (hall _ (hin τ hτ))
      refine List.mem_of_getElem? (i := q - a) ?_
      rw [List.getElem?_drop, List.getElem?_take, if_pos (by omega), show a + (q - a) = q by omega]; exact r3
  · intro v hv
    rw [List.append_assoc] at hv
    have := A.cut _ hv
    rw [g2] at this
    exact (cons_sub_app g1).mp this
theorem Arch.word {w : List Nat} {s : Nat} {E : List Nat} {a : Nat} (A : Arch w s E a) {v : List Nat} (hl : v.length ≤ E.length) (hv : Ws s v) : v ∈ subs w := by
  rw [mem_subs]; exact (A.all v hl hv).trans (List.take_sublist _ _)
theorem Arch.gone {w : List Nat} {s : Nat} {E : List Nat} {a : Nat} (A : Arch w s E a) {g : Nat} (hg : nx w g a < 0) : E ++ [g] ∉ subs w := by
  rw [mem_subs]
  intro h
  exact nx_neg hg ((A.cut _ h).subset (List.mem_singleton.mpr rfl))
theorem Arch.sht {w : List Nat} {s : Nat} {E : List Nat} {a : Nat} (A : Arch w s E a) (hs : 0 < s) {g : Nat} (hgs : g < s) (hg : nx w g a < 0) : Mini.sht hs w 0 = E.length + 1 := by
  have L := sht_least hs w 0
  obtain ⟨v, h1, h2, h3⟩ := L.some
  have h4 := L.least (E ++ [g]) (fun τ hτ => by
    rcases List.mem_append.mp hτ with hτ | hτ
    · exact A.sg τ hτ
    · rw [List.mem_singleton.mp hτ]; exact hgs) fun q => A.gone hg ((mem_subs _ _).mpr (by rw [List.drop_zero] at q; exact q))
  rw [List.length_append, List.length_singleton] at h4
  by_cases hl : v.length ≤ E.length
  · exact absurd (by rw [List.drop_zero]; exact (mem_subs _ _).mp (A.word hl h2)) h3
  · omega

/-! all words of one length -/
def allW (s : Nat) : Nat → List (List Nat)
  | 0 => [[]]
  | n + 1 => longW s (allW s n)
theorem allW_len (s : Nat) : ∀ n, (allW s n).length = s ^ n
  | 0 => rfl
  | n + 1 => by rw [allW, longW_len, allW_len s n, Nat.pow_succ]
theorem allW_mem {s : Nat} : ∀ {n : Nat} {v : List Nat}, v ∈ allW s n → v.length = n ∧ Ws s v
  | 0, v, h => by rw [List.mem_singleton.mp h]; exact ⟨rfl, fun σ h => absurd h List.not_mem_nil⟩
  | n + 1, v, h => by
    obtain ⟨u, hu, h⟩ := List.mem_flatMap.mp h
    obtain ⟨σ, hσ, rfl⟩ := List.mem_map.mp h
    obtain ⟨h1, h2⟩ := allW_mem hu
    refine ⟨by rw [List.length_append, h1]; rfl, fun τ hτ => ?_⟩
    rcases List.mem_append.mp hτ with hτ | hτ
    · exact h2 τ hτ
    · rw [List.mem_singleton.mp hτ]; exact List.mem_range.mp hσ
theorem mem_allW {s : Nat} : ∀ {n : Nat} {v : List Nat}, v.length = n → Ws s v → v ∈ allW s n
  | 0, v, h, _ => by rw [List.length_eq_zero_iff.mp h]; exact List.mem_singleton.mpr rfl
  | n + 1, v, h, hv => by
    have hlt : n < v.length := by omega
    have hvE : v = v.take n ++ [v[n]] := by rw [← List.take_succ_eq_append_getElem hlt, List.take_of_length_le (by omega)]
    have hτ : v[n] < s := hv _ (List.getElem_mem hlt)
    rw [hvE]
    refine List.mem_flatMap.mpr ⟨v.take n, mem_allW (by rw [List.length_take]; omega) fun x hx => hv x (List.mem_of_mem_take hx), List.mem_map.mpr ⟨_, List.mem_range.mpr hτ, rfl⟩⟩
theorem allW_small {s n : Nat} (hs : s ≤ 4) (hn : n ≤ 6) : (allW s n).length ≤ 4096 := by
  rw [allW_len]
  have h1 : s ^ n ≤ 4 ^ n := Nat.pow_le_pow_left hs n
  have h2 : 4 ^ n ≤ 4 ^ 6 := Nat.pow_le_pow_right (by decide) hn
  omega
end Mini

/-! L3M -/
namespace Mini

theorem take_ints (xs : List Int) (n : Nat) : (xs.map AV.int).take n = (xs.take n).map AV.int := List.map_take.symm
theorem drop_ints (xs : List Int) (n : Nat) : (xs.map AV.int).drop n = (xs.drop n).map AV.int := List.map_drop.symm
def modA (s : Nat) : AV → AV
  | .int x => .int ((x.natAbs : Int).fmod (s : Int))
  | v => v
theorem mod_map (s : Nat) (ms : List Int) : (ms.map AV.int).map (modA s) = (natL (ms.map fun x => x.natAbs % s)).map AV.int := by
  unfold natL
  rw [List.map_map, List.map_map, List.map_map]
  refine List.map_congr_left fun x _ => ?_
  show AV.int _ = AV.int _
  rw [Int.fmod_eq_emod_of_nonneg _ (by omega)]
  rfl

/-- the word -/
theorem word_ok {B a : Addr} {h : AH} {ns : List Int} {loc : Loc} {Q : Fl → Loc → AH → Prop} {rest : ST} (ha : h a = some (.list (ns.map AV.int))) (hlen : ns.length ≤ 63) (l0 : loc 0 = some (.ref a))
    (q : ∀ (loc' : Loc) (h' : AH) (s : Nat) (w : List Nat) (D : Addr), Ext h h' → 2 ≤ s → s ≤ 4 → 3 ≤ w.length → w.length ≤ 9 → (∀ σ ∈ w, σ < s) → loc' 2 = some (.int (s : Int)) → loc' 3 = some (.ref D) → h' D = some (.list ((natL w).map AV.int)) → rest loc' h' Q) :
    T.seq (T.asg 1 (T.ifx (T.truL (T.var 0)) (T.call (T.econs (T.idx (T.var 0) (T.int 0)) T.enil) F.abs) (T.int 1)))
  (T.seq (T.asg 2 (T.bin P.add (T.int 2) (T.bin P.fmod (T.var 1) (T.int 3))))
  (T.seq (T.asg 3 (T.comp B (T.itL (T.bin (P.addL B) (T.call (T.econs (T.slice B (T.var 0) (some (T.int 1)) (some (T.int 7))) T.enil) (F.listOf B)) (T.list B (T.econs (T.int 0) (T.econs (T.int 1) (T.econs (T.int 0) T.enil)))))) 24 T.yes (T.bin P.fmod (T.call (T.econs (T.var 24) T.enil) F.abs) (T.var 2)))) rest)) loc h Q := by
  refine i_seq (i_asg ?_)
  have step : ∀ F1 : Nat, (T.seq (T.asg 2 (T.bin P.add (T.int 2) (T.bin P.fmod (T.var 1) (T.int 3))))
  (T.seq (T.asg 3 (T.comp B (T.itL (T.bin (P.addL B) (T.call (T.econs (T.slice B (T.var 0) (some (T.int 1)) (some (T.int 7))) T.enil) (F.listOf B)) (T.list B (T.econs (T.int 0) (T.econs (T.int 1) (T.econs (T.int 0) T.enil)))))) 24 T.yes (T.bin P.fmod (T.call (T.econs (T.var 24) T.enil) F.abs) (T.var 2)))) rest)) (upd loc 1 (.int (F1 : Int))) h Q := by
    intro F1
    have e0 : (upd loc 1 (AV.int (F1 : Int))) 0 = some (.ref a) := (upd_ne (by decide)).trans l0
    have e1 : (upd loc 1 (AV.int (F1 : Int))) 1 = some (.int (F1 : Int)) := upd_same ..
    generalize upd loc 1 (AV.int (F1 : Int)) = loc1 at *
    refine i_seq (i_asg (i_bin (i_int (i_bin (i_var e1 (i_int ⟨_, _, rfl, rfl, by decide, ?_⟩))))))
    have hmod : ((F1 : Int)).fmod 3 = ((F1 % 3 : Nat) : Int) := by rw [Int.fmod_eq_emod_of_nonneg _ (by decide)]; omega
    rw [hmod]
    have hlt : F1 % 3 < 3 := Nat.mod_lt _ (by decide)
    refine i_add ?_
    rw [show (2 : Int) + ((F1 % 3 : Nat) : Int) = ((2 + F1 % 3 : Nat) : Int) by omega]
    generalize hn : 2 + F1 % 3 = s
    have s2 : 2 ≤ s := by omega
    have s4 : s ≤ 4 := by omega
    refine i_seq (i_asg (i_compAt ?_))
    refine ⟨_, (upd_ne (by decide)).trans e0, 1, rfl, 7, rfl, a, _, rfl, ha, by rw [List.length_map]; omega, by show (0 : Int) ≤ 1; decide, by show (0 : Int) ≤ 7; decide, fun D1 hB1 hD1 => ?_⟩
    have s1 : sliceA (ns.map AV.int) (some 1) (some 7) = ((ns.take 7).drop 1).map AV.int := by
      show ((ns.map AV.int).take 7).drop 1 = _
      rw [take_ints, drop_ints]
    rw [s1]
    have hml : ((ns.take 7).drop 1).length ≤ 6 := by rw [List.length_drop, List.length_take]; omega
    generalize (ns.take 7).drop 1 = ms at *
    refine i_nil ⟨D1, _, rfl, upd_same .., by rw [List.length_map]; omega, fun D2 hB2 hD2 => ?_⟩
    refine i_list (i_cons (i_int (i_cons (i_int (i_cons (i_int (i_nil ⟨by show (3 : Nat) ≤ 2 ^ 20; decide, fun D3 hB3 hD3 => ?_⟩)))))))
    have x2 : Ext h (upd (upd h D1 (.list (ms.map AV.int))) D2 (.list (ms.map AV.int))) := (Ext.new hD1).trans (Ext.new hD2)
    have x3 := x2.trans (Ext.new (c := .list [.int 0, .int 1, .int 0]) hD3)
    refine ⟨D2, D3, _, _, rfl, rfl, Ext.new hD3 _ _ (upd_same ..), upd_same .., by rw [List.length_map]; show ms.length + 3 ≤ 2 ^ 20; omega, fun D4 hB4 hD4 => ?_⟩
    have hap : ms.map AV.int ++ [.int 0, .int 1, .int 0] = (ms ++ [0, 1, 0]).map AV.int := by rw [List.map_append]; rfl
    rw [hap]
    have hml2 : (ms ++ [0, 1, 0]).length ≤ 9 ∧ 3 ≤ (ms ++ [0, 1, 0]).length := by
      rw [List.length_append]; show ms.length + 3 ≤ 9 ∧ 3 ≤ ms.length + 3; omega
    generalize ms ++ [0, 1, 0] = us at *
    have x4 := x3.trans (Ext.new (c := .list (us.map AV.int)) hD4)
    have h4v : ∀ g : AH, upd g D4 (.list (us.map AV.int)) D4 = some (.list (us.map AV.int)) := fun g => upd_same ..
    refine ⟨D4, _, rfl, h4v _, ?_⟩
    refine compM (g := modA s) (items_list (h4v _)) (by rw [List.length_map]; omega) (fun v hv h2 hx Q' q' => ?_) fun D5 hB5 hD5 => ?_
    · obtain ⟨x, hx', rfl⟩ := List.mem_map.mp hv
      exact i_bin (i_call (i_cons (i_var (upd_same ..) (i_nil ⟨x, rfl, i_var ((upd_ne (by decide)).trans (upd_same ..)) ⟨_, _, rfl, rfl, by omega, q'⟩⟩))))
    · rw [mod_map]
      refine q _ _ s (us.map fun x => x.natAbs % s) D5 (x4.trans (Ext.new hD5)) s2 s4 (by rw [List.length_map]; omega) (by rw [List.length_map]; omega) (fun σ hσ => ?_) ((upd_ne (by decide)).trans (upd_same ..)) (upd_same ..) (upd_same ..)
      obtain ⟨x, _, rfl⟩ := List.mem_map.mp hσ
      exact Nat.mod_lt _ (by omega)
  refine ⟨_, l0, a, _, rfl, ha, by rw [List.length_map]; omega, ?_⟩
  cases ns with
  | nil => exact i_f rfl (i_int (step 1))
  | cons x r =>
    refine i_t rfl (i_call (i_cons (i_idx (k := 0) l0 ha (by decide) rfl (i_nil ⟨x, rfl, step _⟩))))

/-- a comprehension whose elements are new cells -/
theorem compC {B : Addr} {src : Src} {h1 : AH} {xs : List AV} {loc : Loc} {i : Nat} {e : ET} {Q : AV → AH → Prop} {f : AV → Cell}
    (hs : src.items h1 = some xs) (hl : xs.length ≤ 2 ^ 19) (hf : ∀ v ys, f v = .list ys → ∀ y ∈ ys, ∃ n, y = .int n)
    (he : ∀ v, v ∈ xs → ∀ h2 : AH, Ext h1 h2 → ∀ Q' : AV → AH → Prop, (∀ c h3, Ext h2 h3 → h2 c = none → h3 c = some (f v) → Q' (.ref c) h3) → e (upd loc i v) h2 Q')
    (hQ : ∀ (D : Addr) (h' : AH) (rs : List Addr), B ≤ D → h1 D = none → Ext h1 h' → h' D = some (.list (rs.map AV.ref)) → rs.length = xs.length → (∀ k (hk : k < rs.length) v, xs[k]? = some v → h' rs[k] = some (f v)) → Q (.ref D) h') : compAt B src i T.yes e loc h1 Q := by
  intro D hB hD
  refine ⟨fun k ys h' => k ≤ xs.length ∧ Ext h1 h' ∧ ∃ rs : List Addr, ys = rs.map AV.ref ∧ h' D = some (.list ys) ∧ rs.length = k ∧ ∀ j (hj : j < rs.length), rs[j] ≠ D ∧ ∀ v, xs[j]? = some v → h' rs[j] = some (f v), xs.length,
    ⟨Nat.zero_le _, Ext.new hD, [], rfl, upd_same .., rfl, fun j hj => absurd hj (Nat.not_lt_zero _)⟩, ?_⟩
  rintro k ys h ⟨hk, eh, rs, rfl, hd, hrl, hrs⟩
  refine ⟨hd, by rw [List.length_map]; omega, xs, items_ext hs eh, Nat.le_refl _, ?_⟩
  by_cases hkl : k < xs.length
  · rw [List.getElem?_eq_getElem hkl]
    have hm : xs[k] ∈ xs := List.getElem_mem hkl
    refine he _ hm h eh _ fun c h3 e3 hcn hc => ?_
    have hcD : c ≠ D := fun q => by rw [q, hd] at hcn; cases hcn
    refine ⟨e3 _ _ hd, by omega, (eh.trans e3).set hD, rs ++ [c], by rw [List.map_append]; rfl, by rw [upd_same], by rw [List.length_append, hrl]; rfl, fun j hj => ?_⟩
    by_cases hjl : j < rs.length
    · rw [List.getElem_append_left hjl]
      refine ⟨(hrs j hjl).1, fun v hv => ?_⟩
      rw [upd_ne (hrs j hjl).1]; exact e3 _ _ ((hrs j hjl).2 v hv)
    · rw [List.length_append, List.length_singleton] at hj
      have hjk : j = k := by omega
      subst hjk
      rw [List.getElem_append_right (by omega)]
      simp only [hrl, Nat.sub_self, List.getElem_cons_zero]
      refine ⟨hcD, fun v hv => ?_⟩
      rw [List.getElem?_eq_getElem hkl] at hv
      rw [upd_ne hcD, hc]; cases hv; rfl
  · rw [List.getElem?_eq_none (by omega)]
    exact hQ D h rs hB hD eh hd (by omega) fun j hj v hv => (hrs j hj).2 v hv

def posA (w : List Nat) (σ : Nat) : AV → Bool
  | .int x => w.getD x.toNat 99 == σ
  | _ => false
theorem pos_map (w : List Nat) (σ : Nat) : (((rangeL 0 1 w.length).map AV.int).filter (posA w σ)).map id = (natL (posOf w σ)).map AV.int := by
  unfold rangeL natL posOf
  rw [List.map_id, List.map_map, List.filter_map, List.map_map]
  have hp : ∀ i, (posA w σ ∘ AV.int ∘ fun i : Nat => (0 : Int) + (i : Int) * 1) i = (w.getD i 99 == σ) := fun i => by
    show (w.getD ((0 : Int) + (i : Int) * 1).toNat 99 == σ) = _
    rw [show ((0 : Int) + (i : Int) * 1).toNat = i by omega]
  have hg : (posA w σ ∘ AV.int ∘ fun i : Nat => (0 : Int) + (i : Int) * 1) = fun i => w.getD i 99 == σ := funext hp
  rw [hg]
  refine List.map_congr_left fun i _ => ?_
  show AV.int ((0 : Int) + (i : Int) * 1) = AV.int (i : Int)
  congr 1; omega
def posC (w : List Nat) : AV → Cell
  | .int x => .list ((natL (posOf w x.toNat)).map AV.int)
  | _ => .list []

/-- the places of each sign -/
theorem places_ok {B D : Addr} {h : AH} {w : List Nat} {s : Nat} {loc : Loc} {Q : AV → AH → Prop} (hD : h D = some (.list ((natL w).map AV.int))) (hw : w.length ≤ 1000) (hs : s ≤ 100)
    (l2 : loc 2 = some (.int (s : Int))) (l3 : loc 3 = some (.ref D)) (l4 : loc 4 = some (.int (w.length : Int)))
    (q : ∀ pl h' rs, Ext h h' → PlacesAt h' pl w rs → rs.length = s → Q (.ref pl) h') :
    T.comp B (T.itR1 (T.econs (T.var 2) T.enil)) 22 T.yes (T.comp B (T.itR1 (T.econs (T.var 4) T.enil)) 23 (T.cmp P.eqI (T.idx (T.var 3) (T.var 23)) (T.var 22)) (T.var 23)) loc h Q := by
  refine i_compAt (i_itR1 (i_cons (i_var l2 (i_nil ⟨(s : Int), rfl, by unfold T.small; omega, ?_⟩))))
  rw [Int.toNat_natCast]
  refine compC (xs := (rangeL 0 1 s).map AV.int) (f := posC w) rfl (by rw [rangeL_len]; omega) (fun v ys hv y hy => ?_) (fun v hv h2 e2 Q' q' => ?_) fun pl h' rs hB hpl eh hplv hrl hrs => ?_
  · cases v with
    | int x =>
      have hv : Cell.list _ = Cell.list ys := hv
      cases hv
      obtain ⟨n, _, rfl⟩ := List.mem_map.mp hy
      exact ⟨n, rfl⟩
    | _ => cases hv; cases hy
  · obtain ⟨x, hx, rfl⟩ := List.mem_map.mp hv
    unfold rangeL at hx
    obtain ⟨k, hk, rfl⟩ := List.mem_map.mp hx
    have e0 : (0 : Int) + (k : Int) * 1 = (k : Int) := by omega
    rw [e0] at q' ⊢
    refine i_compAt (i_itR1 (i_cons (i_var ((upd_ne (by decide)).trans l4) (i_nil ⟨(w.length : Int), rfl, by unfold T.small; omega, ?_⟩))))
    rw [Int.toNat_natCast]
    refine compP (xs := (rangeL 0 1 w.length).map AV.int) (p := posA w k) (g := id) rfl (by rw [rangeL_len]; omega) (fun u hu h3 e3 => ?_) fun C hBC hC => ?_
    · obtain ⟨y, hy, rfl⟩ := List.mem_map.mp hu
      unfold rangeL at hy
      obtain ⟨m, hm, rfl⟩ := List.mem_map.mp hy
      rw [List.mem_range] at hm
      have e1 : (0 : Int) + (m : Int) * 1 = (m : Int) := by omega
      rw [e1]
      refine ⟨fun Q2 q2 => ?_, fun _ Q2 q2 => i_var (upd_same ..) q2⟩
      refine i_cmp ?_
      refine ⟨_, (upd_ne (by decide)).trans ((upd_ne (by decide)).trans l3), _, upd_same .., D, _, _, .int (w[m] : Int), rfl, rfl, e3 _ _ (e2 _ _ hD), by omega, by omega, ?_, ?_⟩
      · unfold natL
        rw [Int.toNat_natCast, List.getElem?_map, List.getElem?_map, List.getElem?_eq_getElem hm]; rfl
      · refine i_var ((upd_ne (by decide)).trans (upd_same ..)) ⟨_, _, rfl, rfl, ?_⟩
        have : ((w[m] : Int) == (k : Int)) = posA w k (.int (m : Int)) := by
          show _ = (w.getD ((m : Int)).toNat 99 == k)
          rw [Int.toNat_natCast, List.getD_eq_getElem?_getD, List.getElem?_eq_getElem hm, Option.getD_some]
          by_cases hq : w[m] = k
          · rw [hq]; simp
          · have h1 : ((w[m] : Int) == (k : Int)) = false := by simpa using fun q => hq (by omega)
            have h2 : (w[m] == k) = false := by simpa using hq
            rw [h1, h2]
        rw [this]; exact q2
    · rw [pos_map]
      exact q' C _ (Ext.new hC) hC (upd_same ..)
  · rw [rangeL_len] at hrl
    refine q pl h' rs eh ⟨hplv, fun σ hσ => ?_⟩ hrl
    have := hrs σ hσ _ (rangeL_get (by omega))
    rw [this]
    show some (Cell.list ((natL (posOf w ((0 : Int) + (σ : Int) * 1).toNat)).map AV.int)) = _
    rw [show ((0 : Int) + (σ : Int) * 1).toNat = σ by omega]
end Mini

/-! L3N -/
namespace Mini

/-- the arches -/
theorem arches_ok {B pl D : Addr} {h : AH} {w : List Nat} {rs : List Addr} {s : Nat} {loc : Loc} {Q : Fl → Loc → AH → Prop} {rest : ST} (PA : PlacesAt h pl w rs) (hr : rs.length = s) (s2 : 2 ≤ s) (s4 : s ≤ 4) (w3 : 3 ≤ w.length) (w9 : w.length ≤ 9)
    (hD : h D = some (.list ((natL w).map AV.int))) (l2 : loc 2 = some (.int (s : Int))) (l3 : loc 3 = some (.ref D)) (l4 : loc 4 = some (.int (w.length : Int))) (l5 : loc 5 = some (.ref pl))
    (q : ∀ (loc' : Loc) (h' : AH) (E : List Nat) (a : Nat) (EA ST : Addr), Ext h h' → (∀ j, j < 6 → loc' j = loc j) → loc' 6 = some (.ref EA) → loc' 8 = some (.ref ST) → h' EA = some (.list ((natL E).map AV.int)) → h' ST = some (.list ((stepsL w s a).map AV.int)) →
      Arch w s E a → (∃ g, g < s ∧ nx w g a < 0) → rest loc' h' Q) :
    T.seq (T.asg 6 (T.list B T.enil))
  (T.seq (T.asg 7 (T.int 0))
  (T.seq (T.asg 8 (T.comp B (T.itR1 (T.econs (T.var 2) T.enil)) 21 T.yes (T.call (T.econs (T.var 5) (T.econs (T.var 21) (T.econs (T.var 7) T.enil))) (f_after B))))
  (T.seq (T.while_ (T.and (T.cmp P.ge (T.call (T.econs (T.var 8) T.enil) F.minL) (T.int 0)) (T.cmp P.lt (T.call (T.econs (T.var 6) T.enil) F.len) (T.var 4)))
   (T.seq (T.asg 7 (T.call (T.econs (T.var 8) T.enil) F.maxL))
  (T.seq (T.expr (T.meth (T.var 6) (T.econs (T.idx (T.var 3) (T.bin P.sub (T.var 7) (T.int 1))) T.enil) (F.append B)))
  (T.asg 8 (T.comp B (T.itR1 (T.econs (T.var 2) T.enil)) 20 T.yes (T.call (T.econs (T.var 5) (T.econs (T.var 20) (T.econs (T.var 7) T.enil))) (f_after B))))))) rest))) loc h Q := by
  refine i_seq (i_asg (i_list (i_nil ⟨Nat.zero_le _, fun EA hBE hE => ?_⟩)))
  have e1 : Ext h (upd h EA (.list [])) := Ext.new hE
  have hEv : upd h EA (.list []) EA = some (.list ((natL []).map AV.int)) := upd_same ..
  generalize upd h EA (.list []) = h1 at *
  refine i_seq (i_asg (i_int (i_seq (i_asg ?_))))
  refine steps_ok (a := 0) (PA.ext e1) hr (by omega) (by omega) ((upd_ne (by decide)).trans ((upd_ne (by decide)).trans l5)) ((upd_ne (by decide)).trans ((upd_ne (by decide)).trans l2)) (upd_same ..) (by decide) (by decide) fun ST hBS hST => ?_
  have e2 : Ext h1 (upd h1 ST (.list ((stepsL w s 0).map AV.int))) := Ext.new hST
  have hSv : upd h1 ST (.list ((stepsL w s 0).map AV.int)) ST = some (.list ((stepsL w s 0).map AV.int)) := upd_same ..
  generalize upd h1 ST (.list ((stepsL w s 0).map AV.int)) = h2 at *
  refine i_seq ?_
  refine ⟨fun m loc' h' => ∃ (E : List Nat) (a : Nat) (ST : Addr), m = w.length - a ∧ Ext h h' ∧ (∀ j, j < 6 → loc' j = loc j) ∧ loc' 6 = some (.ref EA) ∧ loc' 8 = some (.ref ST) ∧ h' EA = some (.list ((natL E).map AV.int)) ∧ h' ST = some (.list ((stepsL w s a).map AV.int)) ∧ Arch w s E a,
    w.length - 0, ⟨[], 0, ST, rfl, e1.trans e2, fun j hj => by rw [upd_ne (by omega), upd_ne (by omega), upd_ne (by omega)], (upd_ne (by decide)).trans ((upd_ne (by decide)).trans (upd_same ..)), upd_same .., e2 _ _ hEv, hSv, Arch.start w s⟩, ?_⟩
  rintro m loc' h' ⟨E, a, ST, rfl, eh, lk, l6, l8, hEv, hSv, A⟩
  have hstl : (stepsL w s a).length = s := by unfold stepsL; rw [List.length_map, List.length_range]
  have hne : stepsL w s a ≠ [] := fun e => by rw [e] at hstl; simp at hstl; omega
  have htwo := A.two
  have hle := A.le
  have hEl : ((natL E).map AV.int).length = E.length := by rw [List.length_map]; exact natL_len E
  refine i_and (i_cmp (i_call (i_cons (i_var l8 (i_nil ⟨ST, _, rfl, hSv, hne, fun M hM1 hM2 => i_int ⟨_, _, rfl, rfl, ?_⟩⟩)))))
  by_cases hM : M ≥ 0
  · refine i_t (decide_eq_true hM) ?_
    refine i_cmp (i_len l6 hEv (by rw [hEl]; omega) (i_var ((lk 4 (by decide)).trans l4) ⟨_, _, rfl, rfl, ?_⟩))
    rw [hEl]
    refine i_t (decide_eq_true (by omega)) ?_
    refine i_seq (i_asg (i_call (i_cons (i_var l8 (i_nil ⟨ST, _, rfl, hSv, hne, fun X hX1 hX2 => ?_⟩)))))
    obtain ⟨b, σ, rfl, hab, hbw, hwb, A2⟩ := A.step s2 (fun x hx h0 => by have := hM2 x hx; omega) hX1 hX2
    refine i_seq (i_expr ?_)
    refine ⟨.ref EA, (upd_ne (by decide)).trans l6, ⟨EA, _, rfl, hEv⟩, ?_⟩
    refine i_cons ?_
    refine ⟨.ref D, (upd_ne (by decide)).trans ((lk 3 (by decide)).trans l3), i_bin (i_var (upd_same ..) (i_int (i_sub ?_)))⟩
    refine ⟨D, _, _, .int (σ : Int), rfl, rfl, eh _ _ hD, by omega, by omega, ?_, ?_⟩
    · have hb1 : ((b : Int) - 1).toNat = b - 1 := by omega
      unfold natL
      rw [hb1, List.getElem?_map, List.getElem?_map, hwb]; rfl
    refine i_nil ⟨EA, _, _, rfl, hEv, hBE, by rw [hEl]; omega, ?_⟩
    have hap : (natL E).map AV.int ++ [.int (σ : Int)] = (natL (E ++ [σ])).map AV.int := by rw [natL_app]; rfl
    rw [hap]
    have eh2 : Ext h (upd h' EA (.list ((natL (E ++ [σ])).map AV.int))) := eh.set hE
    have hEv2 : upd h' EA (.list ((natL (E ++ [σ])).map AV.int)) EA = some (.list ((natL (E ++ [σ])).map AV.int)) := upd_same ..
    generalize upd h' EA (.list ((natL (E ++ [σ])).map AV.int)) = h5 at *
    refine i_asg ?_
    refine steps_ok (a := b) (PA.ext eh2) hr (by omega) (by omega) ((upd_ne (by decide)).trans ((lk 5 (by decide)).trans l5)) ((upd_ne (by decide)).trans ((lk 2 (by decide)).trans l2)) (upd_same ..) (by decide) (by decide) fun ST2 hBS2 hST2 => ?_
    exact ⟨w.length - b, by omega, E ++ [σ], b, ST2, rfl, eh2.trans (Ext.new hST2), fun j hj => by rw [upd_ne (by omega), upd_ne (by omega)]; exact lk j hj, (upd_ne (by decide)).trans ((upd_ne (by decide)).trans l6), upd_same .., Ext.new hST2 _ _ hEv2, upd_same .., A2⟩
  · refine i_f (decide_eq_false hM) ?_
    obtain ⟨g, hg, e⟩ := mem_stepsL hM1
    exact q loc' h' E a EA ST eh lk l6 l8 hEv hSv A ⟨g, hg, by omega⟩
end Mini

/-! L3O -/
namespace Mini

/-! data of tuples -/
def dT (u : List Nat) : PyData := .tuple ((natL u).map PyData.int)
theorem dT_at_all {h : AH} : ∀ is : List Int, DatasAt h (is.map AV.int) (is.map PyData.int)
  | [] => .nil
  | i :: r => .cons (.int i) (dT_at_all r)
theorem dT_at {h : AH} {c : Addr} {u : List Nat} (hc : h c = some (.tup ((natL u).map AV.int))) : DataAt h (.ref c) (dT u) := .tup hc (dT_at_all _)
theorem tups_data {h : AH} : ∀ {ys : List AV}, (∀ y ∈ ys, ∃ c u, y = AV.ref c ∧ h c = some (.tup ((natL u).map AV.int))) → ∃ us : List (List Nat), DatasAt h ys (us.map dT) ∧ us.length = ys.length
  | [], _ => ⟨[], .nil, rfl⟩
  | y :: r, H => by
    obtain ⟨us, h1, h2⟩ := tups_data (ys := r) fun z hz => H z (List.mem_cons_of_mem _ hz)
    obtain ⟨c, u, rfl, hc⟩ := H y List.mem_cons_self
    exact ⟨u :: us, .cons (dT_at hc) h1, by rw [List.length_cons, List.length_cons, h2]⟩
theorem ints_lay : ∀ is : List Int, PyData.canLayAll0 (is.map PyData.int) = true ∧ PyData.depthAll (is.map PyData.int) = 0
  | [] => ⟨by simp [PyData.canLayAll0], by simp [PyData.depthAll]⟩
  | i :: r => by
    obtain ⟨h1, h2⟩ := ints_lay r
    exact ⟨by simp [PyData.canLayAll0, PyData.canLay0, h1], by rw [List.map_cons, PyData.depthAll, h2, PyData.depth]; rfl⟩
theorem dT_lay (u : List Nat) : (dT u).canLay0 = true ∧ (dT u).depth ≤ 1 := by
  obtain ⟨h1, h2⟩ := ints_lay (natL u)
  exact ⟨by simp [dT, PyData.canLay0, h1], by simp [dT, PyData.depth, h2]⟩
theorem dTs_lay : ∀ l : List (List Nat), PyData.canLayAll0 (l.map dT) = true ∧ PyData.depthAll (l.map dT) ≤ 1
  | [] => ⟨by simp [PyData.canLayAll0], by simp [PyData.depthAll]⟩
  | p :: r => by
    obtain ⟨h1, h2⟩ := dT_lay p
    obtain ⟨h3, h4⟩ := dTs_lay r
    refine ⟨by simp [PyData.canLayAll0, h1, h3], ?_⟩
    rw [List.map_cons, PyData.depthAll]
    exact Nat.max_le.mpr ⟨h2, h4⟩
theorem dTs_shaped (l : List (List Nat)) : SeqAt.shaped (.list (l.map dT)) = true := by
  obtain ⟨h1, h2⟩ := dTs_lay l
  unfold SeqAt.shaped
  have c : (PyData.list (l.map dT)).canLay0 = true := by simp [PyData.canLay0, h1]
  have d : (PyData.list (l.map dT)).depth ≤ 64 := by simp only [PyData.depth]; omega
  rw [c, decide_eq_true d]; rfl
theorem eqv_some {l : List (List Nat)} (h : l ≠ []) : PyData.eqv (.list (l.map dT)) (.list []) = false := by
  cases l with
  | nil => exact absurd rfl h
  | cons p r => simp [PyData.eqv, PyData.eqvAll]
end Mini

/-! L3P -/
namespace Mini

/-- what stands throughout -/
structure Std (h : AH) (pl KD : Addr) (w : List Nat) (rs : List Addr) (es : List (List Int × AV)) : Prop where
  pa : PlacesAt h pl w rs
  kd : h KD = some (.tdict es)
theorem Std.ext {h h' : AH} {pl KD : Addr} {w : List Nat} {rs : List Addr} {es : List (List Int × AV)} (x : Std h pl KD w rs es) (e : Ext h h') : Std h' pl KD w rs es := ⟨x.pa.ext e, e _ _ x.kd⟩

theorem in_ok {h : AH} {pl KD c : Addr} {w : List Nat} {rs : List Addr} {es : List (List Int × AV)} {ds : List (List Nat)} {v : List Nat} {Q : Bool → AH → Prop} {b : Bool} (S : Std h pl KD w rs es) (K : KeyD es ds) (hds : ∀ v, v ∈ ds ↔ v ∈ subs w) (hc : h c = some (.tup ((natL v).map AV.int)))
    (hb : b = true ↔ v ∈ subs w) (q : Q b h) : P.inT (.ref c) (.ref KD) h Q := by
  refine ⟨KD, es, c, natL v, rfl, rfl, S.kd, hc, ?_⟩
  have : (lookT es (natL v)).isSome = b := by rw [Bool.eq_iff_iff, K.look, hds, hb]
  rw [this]; exact q
theorem nin_ok {h : AH} {pl KD c : Addr} {w : List Nat} {rs : List Addr} {es : List (List Int × AV)} {ds : List (List Nat)} {v : List Nat} {Q : Bool → AH → Prop} {b : Bool} (S : Std h pl KD w rs es) (K : KeyD es ds) (hds : ∀ v, v ∈ ds ↔ v ∈ subs w) (hc : h c = some (.tup ((natL v).map AV.int)))
    (hb : b = true ↔ v ∈ subs w) (q : Q (!b) h) : P.ninT (.ref c) (.ref KD) h Q := by
  refine ⟨KD, es, c, natL v, rfl, rfl, S.kd, hc, ?_⟩
  have : (lookT es (natL v)).isSome = b := by rw [Bool.eq_iff_iff, K.look, hds, hb]
  rw [this]; exact q

theorem turn3_ok {B pl KD L : Addr} {h : AH} {w : List Nat} {rs : List Addr} {s k i : Nat} {es : List (List Int × AV)} {ds : List (List Nat)} {ts : List (Addr × List Nat)} {loc : Loc} {Q : Fl → Loc → AH → Prop}
    (S : Std h pl KD w rs es) (hr : rs.length = s) (s2 : 2 ≤ s) (s4 : s ≤ 4) (w9 : w.length ≤ 1000) (K : KeyD es ds) (hds : ∀ v, v ∈ ds ↔ v ∈ subs w)
    (short : ∀ v, v.length ≤ k → Ws s v → v ∈ subs w) (miss : ∃ v : List Nat, v.length = k + 1 ∧ Ws s v ∧ v ∉ subs w) (hk : k ≤ 4) (hi : i < k + 2)
    (TT : TupsAt h L ts) (hts : ts.map (·.2) = allW s i)
    (l2 : loc 2 = some (.int (s : Int))) (l5 : loc 5 = some (.ref pl)) (l10 : loc 10 = some (.int (k : Int))) (l11 : loc 11 = some (.ref KD)) (l12 : loc 12 = some (.ref L)) (l13 : loc 13 = some (.int 0)) (l14 : loc 14 = some (.int (i : Int)))
    (q : ∀ (loc' : Loc) (h' : AH) (L' : Addr) (ts' : List (Addr × List Nat)), Ext h h' → (∀ j, j < 12 → loc' j = loc j) → loc' 12 = some (.ref L') → TupsAt h' L' ts' → ts'.map (·.2) = allW s (i + 1) → loc' 13 = some (.int (if i = k + 1 then ((k + 1 : Nat) : Int) else 0)) → Q .next loc' h') :
   (T.seq (T.for_ (T.itL (T.var 12)) (T.asN 15)
   (T.seq (T.ife (T.cmp P.neB (T.call (T.econs (T.var 5) (T.econs (T.var 15) T.enil)) (f_follows B)) (T.val (T.cmp P.inT (T.var 15) (T.var 11))))
   (T.ret (T.bool false))
   T.skip)
  (T.ife (T.and (T.cmp P.le (T.var 14) (T.var 10)) (T.cmp P.ninT (T.var 15) (T.var 11)))
   (T.ret (T.bool false))
   T.skip)))
  (T.seq (T.ife (T.and (T.cmp P.eqI (T.var 14) (T.bin P.add (T.var 10) (T.int 1))) (T.cmp P.neD (T.comp B (T.itL (T.var 12)) 18 (T.cmp P.ninT (T.var 18) (T.var 11)) (T.var 18)) (T.list B T.enil)))
   (T.asg 13 (T.var 14))
   T.skip)
  (T.asg 12 (T.call (T.econs (T.var 12) (T.econs (T.var 2) T.enil)) (f_longer B))))) loc h Q := by
  have hmem : ∀ t ∈ ts, t.2.length = i ∧ Ws s t.2 := fun t ht => allW_mem (by rw [← hts]; exact List.mem_map.mpr ⟨t, ht, rfl⟩)
  have htl : ts.length ≤ 4096 := by
    have h1 := congrArg List.length hts
    rw [List.length_map] at h1
    rw [h1]; exact allW_small s4 (by omega)
  refine i_seq (i_itL l12 TT.1 ?_)
  refine ⟨fun j loc' h' => j ≤ ts.length ∧ h' = h ∧ ∀ x, x < 15 → loc' x = loc x, ts.length, ⟨Nat.zero_le _, rfl, fun _ _ => rfl⟩, ?_⟩
  rintro j loc' h' ⟨hj, hh, lk⟩
  subst hh
  refine ⟨_, items_list TT.1, by rw [List.length_map]; exact Nat.le_refl _, ?_⟩
  by_cases hjl : j < ts.length
  · rw [List.getElem?_map, List.getElem?_eq_getElem hjl]
    dsimp only [T.asN]
    have htm : ts[j] ∈ ts := List.getElem_mem hjl
    obtain ⟨hl, hv⟩ := hmem _ htm
    have hc := TT.2 _ htm
    have kk : ∀ (v : AV) x, x < 15 → upd loc' 15 v x = loc x := fun v x hx => by rw [upd_ne (by omega)]; exact lk x hx
    generalize hu : ts[j].2 = u at *
    refine i_seq (i_ife (i_cmp (i_call (i_cons (i_var ((kk _ 5 (by decide)).trans l5) (i_cons (i_var (upd_same ..) (i_nil ?_))))))))
    refine follows_spec S.pa (by omega) w9 (fun σ hσ => by rw [hr]; exact hv σ hσ) hc ?_
    refine i_cmp (i_var (upd_same ..) (i_var ((kk _ 11 (by decide)).trans l11) ?_))
    refine in_ok (b := fol w u 0) S K hds hc (fol_subs w u) ?_
    refine ⟨_, _, rfl, rfl, ?_⟩
    refine i_f (by simp) (i_skip ?_)
    refine i_ife (i_and (i_cmp (i_var ((kk _ 14 (by decide)).trans l14) (i_var ((kk _ 10 (by decide)).trans l10) ⟨_, _, rfl, rfl, ?_⟩))))
    by_cases hik : i ≤ k
    · refine i_t (decide_eq_true (by omega)) ?_
      refine i_cmp (i_var (upd_same ..) (i_var ((kk _ 11 (by decide)).trans l11) ?_))
      refine nin_ok (b := true) S K hds hc ⟨fun _ => short u (by omega) hv, fun _ => rfl⟩ ?_
      exact i_f rfl (i_skip ⟨by omega, rfl, kk _⟩)
    · refine i_f (decide_eq_false (by omega)) ?_
      exact i_f rfl (i_skip ⟨by omega, rfl, kk _⟩)
  · rw [List.getElem?_eq_none (by rw [List.length_map]; omega)]
    have fin : ∀ (loc2 : Loc) (h2 : AH), Ext h' h2 → (∀ x, x < 13 → loc2 x = loc x) → loc2 13 = some (.int (if i = k + 1 then ((k + 1 : Nat) : Int) else 0)) → T.asg 12 (T.call (T.econs (T.var 12) (T.econs (T.var 2) T.enil)) (f_longer B)) loc2 h2 Q := by
      intro loc2 h2 e2 k2 k13
      refine i_asg (i_call (i_cons (i_var ((k2 12 (by decide)).trans l12) (i_cons (i_var ((k2 2 (by decide)).trans l2) (i_nil ?_))))))
      refine longer_spec (TT.ext e2) (by omega) (by omega) (fun t ht => by have := (hmem t ht).1; omega) fun D h3 ts' e3 T3 hm3 => ?_
      refine q _ h3 D ts' (e2.trans e3) (fun x hx => by rw [upd_ne (by omega)]; exact k2 x (by omega)) (upd_same ..) T3 (by rw [hm3, hts]; rfl) ((upd_ne (by decide)).trans k13)
    refine i_seq (i_ife (i_and (i_cmp (i_var ((lk 14 (by decide)).trans l14) (i_bin (i_var ((lk 10 (by decide)).trans l10) (i_int (i_add ⟨_, _, rfl, rfl, ?_⟩))))))))
    by_cases hik : i = k + 1
    · refine i_t (by rw [beq_iff_eq]; omega) ?_
      refine i_cmp (i_compAt (i_itL ((lk 12 (by decide)).trans l12) TT.1 ?_))
      refine compP (p := fun v => !(lookT es (natL (tupL h' v))).isSome) (g := id) (items_list TT.1) (by rw [List.length_map]; omega) (fun v hv h2 e2 => ?_) fun D hBD hD => ?_
      · obtain ⟨t, ht, rfl⟩ := List.mem_map.mp hv
        refine ⟨fun Q' q' => ?_, fun _ Q' q' => i_var (upd_same ..) q'⟩
        refine i_cmp (i_var (upd_same ..) (i_var ((upd_ne (by decide)).trans ((lk 11 (by decide)).trans l11)) ?_))
        refine ⟨KD, es, t.1, natL t.2, rfl, rfl, e2 _ _ S.kd, e2 _ _ (TT.2 t ht), ?_⟩
        rw [tupL_at (TT.2 t ht)] at q'; exact q'
      rw [List.map_id]
      refine i_list (i_nil ⟨Nat.zero_le _, fun D2 hBD2 hD2 => ?_⟩)
      have hsub : ∀ y ∈ (ts.map fun t => AV.ref t.1).filter (fun v => !(lookT es (natL (tupL h' v))).isSome), ∃ c u, y = AV.ref c ∧ h' c = some (.tup ((natL u).map AV.int)) := fun y hy => by
        obtain ⟨t, ht, rfl⟩ := List.mem_map.mp (List.mem_filter.mp hy).1
        exact ⟨t.1, t.2, rfl, TT.2 t ht⟩
      have hne : (ts.map fun t => AV.ref t.1).filter (fun v => !(lookT es (natL (tupL h' v))).isSome) ≠ [] := fun e => by
        obtain ⟨v, v1, v2, v3⟩ := miss
        have hvm : v ∈ ts.map (·.2) := by rw [hts]; exact mem_allW (by omega) v2
        obtain ⟨t, ht, rfl⟩ := List.mem_map.mp hvm
        have : AV.ref t.1 ∈ (ts.map fun t => AV.ref t.1).filter (fun v => !(lookT es (natL (tupL h' v))).isSome) := by
          refine List.mem_filter.mpr ⟨List.mem_map.mpr ⟨t, ht, rfl⟩, ?_⟩
          rw [tupL_at (TT.2 t ht)]
          have : (lookT es (natL t.2)).isSome = false := by
            rw [Bool.eq_false_iff]
            intro h; exact v3 ((hds _).mp ((K.look _).mp h))
          rw [this]; rfl
        rw [e] at this; cases this
      generalize (ts.map fun t => AV.ref t.1).filter (fun v => !(lookT es (natL (tupL h' v))).isSome) = ys at *
      have e1 : Ext h' (upd h' D (.list ys)) := Ext.new hD
      have e2 : Ext (upd h' D (.list ys)) (upd (upd h' D (.list ys)) D2 (.list [])) := Ext.new hD2
      obtain ⟨us, hus, hul⟩ := tups_data (h := upd (upd h' D (.list ys)) D2 (.list [])) (ys := ys) fun y hy => by
        obtain ⟨c, u, h1, h2⟩ := hsub y hy
        exact ⟨c, u, h1, (e1.trans e2) _ _ h2⟩
      refine ⟨_, _, .list (e2 _ _ (upd_same ..)) hus, .list (upd_same ..) .nil, dTs_shaped us, dTs_shaped [], ?_⟩
      rw [eqv_some (fun e => hne (List.length_eq_zero_iff.mp (by rw [← hul, e]; rfl)))]
      refine i_t rfl (i_asg (i_var ((lk 14 (by decide)).trans l14) ?_))
      refine fin _ _ (e1.trans e2) (fun x hx => by rw [upd_ne (by omega)]; exact lk x (by omega)) ?_
      rw [upd_same, if_pos hik, hik]
    · refine i_f (by rw [beq_eq_false_iff_ne]; omega) ?_
      refine i_f rfl (i_skip ?_)
      refine fin _ _ (Ext.refl _) (fun x hx => lk x (by omega)) ?_
      rw [lk 13 (by decide), l13, if_neg hik]
end Mini

/-! L3W -/
namespace Mini

section
variable {B : Addr} {loc : Loc} {h : AH}
theorem i_or {t u : TT} {Q : Bool → AH → Prop} (q : t loc h fun b h1 => if b = true then Q true h1 else u loc h1 Q) : T.or t u loc h Q := q
theorem i_truB {e : ET} {Q : Bool → AH → Prop} (q : e loc h fun v h1 => ∃ b, v = AV.bool b ∧ Q b h1) : T.truB e loc h Q := q
theorem i_asgT {is : List Nat} {e : ET} {Q : Fl → Loc → AH → Prop} (q : e loc h fun v h1 => T.asT is v loc h1 fun loc2 h2 => Q .next loc2 h2) : T.asgT is e loc h Q := q
theorem i_andv {t : TT} {Q : AV → AH → Prop} (q : t loc h fun b h1 => Q (.bool b) h1) : T.andv t loc h Q := q
theorem i_andC {t r : TT} {Q : Bool → AH → Prop} (q : t loc h fun b h1 => if b = true then r loc h1 Q else Q false h1) : T.andC t r loc h Q := q
theorem i_andN {Q : Bool → AH → Prop} (q : Q true h) : T.andN loc h Q := q
end

def goneL (w : List Nat) (s a : Nat) : List Nat := (List.range s).filter fun σ => decide (nx w σ a < 0)
def goneA (w : List Nat) (a : Nat) : AV → Bool
  | .int x => decide (nx w x.toNat a < 0)
  | _ => false
theorem gone_map (w : List Nat) (s a : Nat) : (((rangeL 0 1 s).map AV.int).filter (goneA w a)).map id = (natL (goneL w s a)).map AV.int := by
  unfold rangeL natL goneL
  rw [List.map_id, List.map_map, List.filter_map, List.map_map]
  have hp : ∀ i, (goneA w a ∘ AV.int ∘ fun i : Nat => (0 : Int) + (i : Int) * 1) i = decide (nx w i a < 0) := fun i => by
    show decide (nx w ((0 : Int) + (i : Int) * 1).toNat a < 0) = _
    rw [show ((0 : Int) + (i : Int) * 1).toNat = i by omega]
  have hg : (goneA w a ∘ AV.int ∘ fun i : Nat => (0 : Int) + (i : Int) * 1) = fun i => decide (nx w i a < 0) := funext hp
  rw [hg]
  refine List.map_congr_left fun i _ => ?_
  show AV.int ((0 : Int) + (i : Int) * 1) = AV.int (i : Int)
  congr 1; omega
theorem gone_ok {B ST : Addr} {h : AH} {w : List Nat} {s a : Nat} {loc : Loc} {Q : AV → AH → Prop} (hs : s ≤ 100) (l2 : loc 2 = some (.int (s : Int))) (l8 : loc 8 = some (.ref ST)) (hST : h ST = some (.list ((stepsL w s a).map AV.int)))
    (q : ∀ D, B ≤ D → h D = none → Q (.ref D) (upd h D (.list ((natL (goneL w s a)).map AV.int)))) :
    T.comp B (T.itR1 (T.econs (T.var 2) T.enil)) 19 (T.cmp P.lt (T.idx (T.var 8) (T.var 19)) (T.int 0)) (T.var 19) loc h Q := by
  refine i_compAt (i_itR1 (i_cons (i_var l2 (i_nil ⟨(s : Int), rfl, by unfold T.small; omega, ?_⟩))))
  rw [Int.toNat_natCast]
  refine compP (xs := (rangeL 0 1 s).map AV.int) (p := goneA w a) (g := id) rfl (by rw [rangeL_len]; omega) (fun u hu h3 e3 => ?_) fun C hBC hC => ?_
  · obtain ⟨y, hy, rfl⟩ := List.mem_map.mp hu
    unfold rangeL at hy
    obtain ⟨m, hm, rfl⟩ := List.mem_map.mp hy
    rw [List.mem_range] at hm
    have e1 : (0 : Int) + (m : Int) * 1 = (m : Int) := by omega
    rw [e1]
    refine ⟨fun Q2 q2 => i_cmp ?_, fun _ Q2 q2 => i_var (upd_same ..) q2⟩
    refine ⟨_, (upd_ne (by decide)).trans l8, _, upd_same .., ST, _, _, .int (nx w m a), rfl, rfl, e3 _ _ hST, by omega, by omega, ?_, i_int ⟨_, _, rfl, rfl, ?_⟩⟩
    · unfold stepsL
      rw [Int.toNat_natCast, List.getElem?_map, List.getElem?_map, List.getElem?_range hm]; rfl
    · exact q2
  · rw [gone_map]; exact q C hBC hC

theorem ends_ok {B EA GA : Addr} {h : AH} {E : List Nat} {g : Nat} {G' : List Nat} {loc : Loc} {Q : AV → AH → Prop} (l6 : loc 6 = some (.ref EA)) (l9 : loc 9 = some (.ref GA)) (hE : h EA = some (.list ((natL E).map AV.int))) (hG : h GA = some (.list ((natL (g :: G')).map AV.int)))
    (hEl : E.length ≤ 100) (hGl : G'.length ≤ 100) (q : ∀ C h', Ext h h' → h' C = some (.tup ((natL (E ++ [g])).map AV.int)) → Q (.ref C) h') :
    T.call (T.econs (T.bin (P.addL B) (T.var 6) (T.slice B (T.var 9) none (some (T.int 1)))) T.enil) (F.tupleOf B) loc h Q := by
  have hGl2 : ((natL (g :: G')).map AV.int).length = G'.length + 1 := by rw [List.length_map, natL_len]; rfl
  have hEl2 : ((natL E).map AV.int).length = E.length := by rw [List.length_map, natL_len]
  refine i_call (i_cons (i_bin (i_var l6 ?_)))
  refine ⟨.ref GA, l9, 1, rfl, GA, _, rfl, hG, by rw [hGl2]; omega, trivial, by show (0 : Int) ≤ 1; decide, fun D1 hB1 hD1 => ?_⟩
  have s1 : sliceA ((natL (g :: G')).map AV.int) none (some 1) = (natL [g]).map AV.int := rfl
  rw [s1]
  have e1 : Ext h (upd h D1 (.list ((natL [g]).map AV.int))) := Ext.new hD1
  refine ⟨EA, D1, _, _, rfl, rfl, e1 _ _ hE, upd_same .., by rw [hEl2]; show E.length + 1 ≤ 2 ^ 20; omega, fun D2 hB2 hD2 => ?_⟩
  rw [← natL_app]
  have e2 := e1.trans (Ext.new (c := .list ((natL (E ++ [g])).map AV.int)) hD2)
  refine i_nil ⟨D2, _, rfl, upd_same .., by rw [List.length_map, natL_len, List.length_append]; show E.length + 1 ≤ 2 ^ 20; omega, fun D3 hB3 hD3 => ?_⟩
  exact q D3 _ (e2.trans (Ext.new hD3)) (upd_same ..)

theorem law_spec {B a : Addr} {h : AH} {ns : List Int} {Q : AV → AH → Prop} (ha : h a = some (.list (ns.map AV.int))) (hlen : ns.length ≤ 63) (q : ∀ h', Q (.bool true) h') : f_law B [.ref a] h Q := by
  refine ⟨rfl, ?_⟩
  show t_law B _ _ _
  unfold t_law
  refine word_ok ha hlen rfl fun loc1 h1 s w D e1 s2 s4 w3 w9 hws l2 l3 hD => ?_
  have hDl : ((natL w).map AV.int).length = w.length := by rw [List.length_map, natL_len]
  refine i_seq (i_asg (i_len l3 hD (by rw [hDl]; omega) ?_))
  rw [hDl]
  refine i_seq (i_asg ?_)
  refine places_ok hD (by omega) (by omega) ((upd_ne (by decide)).trans l2) ((upd_ne (by decide)).trans l3) (upd_same ..) fun pl h2 rs e2 PA hr => ?_
  have m2 : upd (upd loc1 4 (.int (w.length : Int))) 5 (.ref pl) 2 = some (.int (s : Int)) := (upd_ne (by decide)).trans ((upd_ne (by decide)).trans l2)
  have m3 : upd (upd loc1 4 (.int (w.length : Int))) 5 (.ref pl) 3 = some (.ref D) := (upd_ne (by decide)).trans ((upd_ne (by decide)).trans l3)
  have m4 : upd (upd loc1 4 (.int (w.length : Int))) 5 (.ref pl) 4 = some (.int (w.length : Int)) := (upd_ne (by decide)).trans (upd_same ..)
  have m5 : upd (upd loc1 4 (.int (w.length : Int))) 5 (.ref pl) 5 = some (.ref pl) := upd_same ..
  generalize upd (upd loc1 4 (.int (w.length : Int))) 5 (.ref pl) = loc2 at *
  have hD2 := e2 _ _ hD
  refine arches_ok PA hr s2 s4 w3 w9 hD2 m2 m3 m4 m5 fun loc3 h3 E a3 EA ST e3 lk l6 l8 hE hST A hgn => ?_
  have n2 := (lk 2 (by decide)).trans m2
  have n3 := (lk 3 (by decide)).trans m3
  have n4 := (lk 4 (by decide)).trans m4
  have n5 := (lk 5 (by decide)).trans m5
  have hD3 := e3 _ _ hD2
  have PA3 := PA.ext e3
  have htwo := A.two
  have hle := A.le
  have hEl : E.length ≤ 4 := by omega
  have hEl2 : ((natL E).map AV.int).length = E.length := by rw [List.length_map, natL_len]
  refine i_seq (i_asg (gone_ok (by omega) n2 l8 hST fun GA hBG hGA => ?_))
  have e4 : Ext h3 (upd h3 GA (.list ((natL (goneL w s a3)).map AV.int))) := Ext.new hGA
  have hGv : upd h3 GA (.list ((natL (goneL w s a3)).map AV.int)) GA = some (.list ((natL (goneL w s a3)).map AV.int)) := upd_same ..
  generalize upd h3 GA (.list ((natL (goneL w s a3)).map AV.int)) = h4 at *
  obtain ⟨g, G', hG, hgs, hgx, hGl⟩ : ∃ g G', goneL w s a3 = g :: G' ∧ g < s ∧ nx w g a3 < 0 ∧ G'.length ≤ 100 := by
    obtain ⟨g0, hg0, hgn⟩ := hgn
    have hm : g0 ∈ goneL w s a3 := List.mem_filter.mpr ⟨List.mem_range.mpr hg0, decide_eq_true hgn⟩
    have hl : (goneL w s a3).length ≤ s := by
      have := List.length_filter_le (fun σ => decide (nx w σ a3 < 0)) (List.range s)
      rw [List.length_range] at this; exact this
    have hall : ∀ g, g ∈ goneL w s a3 → g < s ∧ nx w g a3 < 0 := fun g h => by
      obtain ⟨h1, h2⟩ := List.mem_filter.mp h
      exact ⟨List.mem_range.mp h1, of_decide_eq_true h2⟩
    cases hc : goneL w s a3 with
    | nil => rw [hc] at hm; cases hm
    | cons g G' =>
      rw [hc] at hall hl
      rw [List.length_cons] at hl
      exact ⟨g, G', rfl, (hall g List.mem_cons_self).1, (hall g List.mem_cons_self).2, by omega⟩
  rw [hG] at hGv
  refine i_seq (i_ife (i_cmp (i_var (upd_same ..) (i_list (i_nil ⟨Nat.zero_le _, fun N hBN hN => ⟨GA, N, natL (g :: G'), [], rfl, rfl, Ext.new hN _ _ hGv, upd_same .., ?_⟩⟩)))))
  refine i_f (decide_eq_false (fun e => by cases e)) (i_skip ?_)
  have e5 : Ext h4 (upd h4 N (.list [])) := Ext.new hN
  generalize upd h4 N (.list []) = h5 at *
  have e35 := e4.trans e5
  refine i_seq (i_asg (i_len ((upd_ne (by decide)).trans l6) (e35 _ _ hE) (by rw [hEl2]; omega) ?_))
  rw [hEl2]
  refine i_seq (i_asg (i_call (i_cons (i_var ((upd_ne (by decide)).trans ((upd_ne (by decide)).trans n3)) (i_nil ?_)))))
  refine left_over_spec (e35 _ _ hD3) (by omega) fun KD h6 es ds e6 hKD K hds hdl => ?_
  have e36 := e35.trans e6
  refine i_seq (i_asg (i_list (i_cons (i_nil ⟨Nat.zero_le _, fun U hBU hU => i_nil ⟨by show (1 : Nat) ≤ 2 ^ 20; decide, fun L hBL hL => ?_⟩⟩))))
  have e7 : Ext h6 (upd h6 U (.tup [])) := Ext.new hU
  have e8 : Ext (upd h6 U (.tup [])) (upd (upd h6 U (.tup [])) L (.list [.ref U])) := Ext.new hL
  have T0 : TupsAt (upd (upd h6 U (.tup [])) L (.list [.ref U])) L [(U, [])] := ⟨upd_same .., fun t ht => by rw [List.mem_singleton.mp ht]; exact e8 _ _ (upd_same ..)⟩
  have e68 := e7.trans e8
  generalize upd (upd h6 U (.tup [])) L (.list [.ref U]) = h8 at *
  refine i_seq (i_asg (i_int ?_))
  have SS : Std h8 pl KD w rs es := ⟨PA3.ext (e36.trans e68), e68 _ _ hKD⟩
  have hE8 := (e36.trans e68) _ _ hE
  have hG8 := (e5.trans (e6.trans e68)) _ _ hGv
  have k2 : upd (upd (upd (upd (upd loc3 9 (.ref GA)) 10 (.int (E.length : Int))) 11 (.ref KD)) 12 (.ref L)) 13 (.int 0) 2 = some (.int (s : Int)) := by rw [upd_ne (by decide), upd_ne (by decide), upd_ne (by decide), upd_ne (by decide), upd_ne (by decide)]; exact n2
  have k4 : upd (upd (upd (upd (upd loc3 9 (.ref GA)) 10 (.int (E.length : Int))) 11 (.ref KD)) 12 (.ref L)) 13 (.int 0) 4 = some (.int (w.length : Int)) := by rw [upd_ne (by decide), upd_ne (by decide), upd_ne (by decide), upd_ne (by decide), upd_ne (by decide)]; exact n4
  have k5 : upd (upd (upd (upd (upd loc3 9 (.ref GA)) 10 (.int (E.length : Int))) 11 (.ref KD)) 12 (.ref L)) 13 (.int 0) 5 = some (.ref pl) := by rw [upd_ne (by decide), upd_ne (by decide), upd_ne (by decide), upd_ne (by decide), upd_ne (by decide)]; exact n5
  have k6 : upd (upd (upd (upd (upd loc3 9 (.ref GA)) 10 (.int (E.length : Int))) 11 (.ref KD)) 12 (.ref L)) 13 (.int 0) 6 = some (.ref EA) := by rw [upd_ne (by decide), upd_ne (by decide), upd_ne (by decide), upd_ne (by decide), upd_ne (by decide)]; exact l6
  have k9 : upd (upd (upd (upd (upd loc3 9 (.ref GA)) 10 (.int (E.length : Int))) 11 (.ref KD)) 12 (.ref L)) 13 (.int 0) 9 = some (.ref GA) := by rw [upd_ne (by decide), upd_ne (by decide), upd_ne (by decide), upd_ne (by decide)]; exact upd_same ..
  have k10 : upd (upd (upd (upd (upd loc3 9 (.ref GA)) 10 (.int (E.length : Int))) 11 (.ref KD)) 12 (.ref L)) 13 (.int 0) 10 = some (.int (E.length : Int)) := by rw [upd_ne (by decide), upd_ne (by decide), upd_ne (by decide)]; exact upd_same ..
  have k11 : upd (upd (upd (upd (upd loc3 9 (.ref GA)) 10 (.int (E.length : Int))) 11 (.ref KD)) 12 (.ref L)) 13 (.int 0) 11 = some (.ref KD) := by rw [upd_ne (by decide), upd_ne (by decide)]; exact upd_same ..
  have k12 : upd (upd (upd (upd (upd loc3 9 (.ref GA)) 10 (.int (E.length : Int))) 11 (.ref KD)) 12 (.ref L)) 13 (.int 0) 12 = some (.ref L) := by rw [upd_ne (by decide)]; exact upd_same ..
  have k13 : upd (upd (upd (upd (upd loc3 9 (.ref GA)) 10 (.int (E.length : Int))) 11 (.ref KD)) 12 (.ref L)) 13 (.int 0) 13 = some (.int 0) := upd_same ..
  generalize upd (upd (upd (upd (upd loc3 9 (.ref GA)) 10 (.int (E.length : Int))) 11 (.ref KD)) 12 (.ref L)) 13 (.int 0) = loc4 at *
  have hgone : E ++ [g] ∉ subs w := A.gone hgx
  have hwg : Ws s (E ++ [g]) := fun τ hτ => by
    rcases List.mem_append.mp hτ with hτ | hτ
    · exact A.sg τ hτ
    · rw [List.mem_singleton.mp hτ]; exact hgs
  generalize hk : E.length = k at *
  refine i_seq (i_itR1 (i_cons (i_bin (i_var k10 (i_int (i_add (i_nil ⟨(k : Int) + 2, rfl, by unfold T.small; omega, ?_⟩)))))))
  rw [show ((k : Int) + 2).toNat = k + 2 by omega]
  refine ⟨fun i loc' h' => i ≤ k + 2 ∧ Ext h8 h' ∧ (∀ j, j < 12 → loc' j = loc4 j) ∧ ∃ L ts, loc' 12 = some (.ref L) ∧ TupsAt h' L ts ∧ ts.map (·.2) = allW s i ∧ loc' 13 = some (.int (if i = k + 2 then ((k + 1 : Nat) : Int) else 0)), k + 2,
    ⟨Nat.zero_le _, Ext.refl _, fun _ _ => rfl, L, _, k12, T0, rfl, by rw [if_neg (by omega)]; exact k13⟩, ?_⟩
  rintro i loc' h' ⟨hi, eh, kk, L', ts, g12, TT, hts, g13⟩
  refine ⟨_, rfl, by rw [rangeL_len]; exact Nat.le_refl _, ?_⟩
  have SS' := SS.ext eh
  by_cases hil : i < k + 2
  · rw [rangeL_get hil]
    have e0 : (0 : Int) + (i : Int) * 1 = (i : Int) := by omega
    rw [e0]
    dsimp only [T.asN]
    rw [if_neg (by omega)] at g13
    refine turn3_ok (k := k) SS' hr s2 s4 (by omega) K hds (fun v hv hwv => A.word (by omega) hwv) ⟨E ++ [g], by rw [List.length_append, hk]; rfl, hwg, hgone⟩ hEl hil TT hts
      ((upd_ne (by decide)).trans ((kk 2 (by decide)).trans k2)) ((upd_ne (by decide)).trans ((kk 5 (by decide)).trans k5)) ((upd_ne (by decide)).trans ((kk 10 (by decide)).trans k10)) ((upd_ne (by decide)).trans ((kk 11 (by decide)).trans k11))
      ((upd_ne (by decide)).trans g12) ((upd_ne (by decide)).trans g13) (upd_same ..) fun loc5 h9 L5 ts5 e9 kk5 q12 TT5 hts5 q13 => ?_
    refine ⟨by omega, eh.trans e9, fun j hj => by rw [kk5 j hj, upd_ne (by omega)]; exact kk j hj, L5, ts5, q12, TT5, hts5, ?_⟩
    rw [q13]
    by_cases hc : i = k + 1
    · rw [if_pos hc, if_pos (by omega)]
    · rw [if_neg hc, if_neg (by omega)]
  · rw [rangeL_end (by omega)]
    rw [if_pos (by omega)] at g13
    have hlenE : E.length ≤ 100 := by omega
    refine i_seq (i_ife (i_or (i_truB (i_call (i_cons (i_var ((kk 5 (by decide)).trans k5) (i_cons ?_)))))))
    refine ends_ok ((kk 6 (by decide)).trans k6) ((kk 9 (by decide)).trans k9) (eh _ _ hE8) (eh _ _ hG8) hlenE hGl fun C h9 e9 hC => ?_
    refine i_nil ?_
    refine follows_spec (SS'.ext e9).pa (by omega) (by omega) (fun σ hσ => by rw [hr]; exact hwg σ hσ) hC ?_
    have hf : fol w (E ++ [g]) 0 = false := by rw [Bool.eq_false_iff]; exact fun e => hgone ((fol_subs _ _).mp e)
    rw [hf]
    refine ⟨false, rfl, i_f rfl ?_⟩
    refine i_cmp ?_
    refine ends_ok ((kk 6 (by decide)).trans k6) ((kk 9 (by decide)).trans k9) ((eh.trans e9) _ _ hE8) ((eh.trans e9) _ _ hG8) hlenE hGl fun C2 h10 e10 hC2 => ?_
    have SS'' := SS'.ext (e9.trans e10)
    refine i_var ((kk 11 (by decide)).trans k11) ?_
    refine in_ok (b := false) SS'' K hds hC2 ⟨(fun e => absurd e (by decide)), fun e => absurd e hgone⟩ ?_
    refine i_f rfl (i_skip ?_)
    refine i_seq (i_asgT (i_call (i_cons (i_var ((kk 5 (by decide)).trans k5) (i_cons (i_var ((kk 2 (by decide)).trans k2) (i_cons (i_var ((kk 4 (by decide)).trans k4) (i_nil ?_)))))))))
    have s0 : 0 < s := by omega
    refine back_spec (M := cnt w s) (S := sht s0 w) SS''.pa hr s0 (by omega) (by omega) (fun a ha => cnt_rec hws a ha) (fun a _ X hX1 hX2 => sht_rec s0 w a X hX1 hX2) fun TD h11 e11 hTD => ?_
    refine ⟨TD, _, rfl, .inr hTD, rfl, ?_⟩
    have hSh : sht s0 w 0 = k + 1 := by rw [← hk]; exact A.sht s0 hgs hgx
    have hCn : (es.length : Int) = (cnt w s 0 : Int) := by rw [K.len, cnt_subs hws K.2 hds]
    have hKD11 := (SS''.ext e11).kd
    have esl : es.length < 2 ^ 24 := by rw [K.len]; omega
    rw [hSh]
    refine i_ret (i_andv (i_andC (i_cmp (i_var ((upd_ne (by decide)).trans (upd_same ..)) (i_call (i_cons (i_var ((upd_ne (by decide)).trans ((upd_ne (by decide)).trans ((kk 11 (by decide)).trans k11))) (i_nil ⟨KD, es, rfl, hKD11, esl, ?_⟩))))))))
    rw [hCn]
    refine ⟨_, _, rfl, rfl, i_t (by rw [beq_iff_eq]) ?_⟩
    refine i_andC (i_cmp (i_var (upd_same ..) (i_bin (i_var ((upd_ne (by decide)).trans ((upd_ne (by decide)).trans ((kk 10 (by decide)).trans k10))) (i_int (i_add ⟨_, _, rfl, rfl, i_t (by rw [beq_iff_eq]; omega) ?_⟩))))))
    refine i_andC (i_cmp (i_var ((upd_ne (by decide)).trans ((upd_ne (by decide)).trans g13)) (i_var (upd_same ..) ⟨_, _, rfl, rfl, i_t (by rw [beq_iff_eq]) ?_⟩)))
    exact i_andN (q _)
end Mini

namespace Mini
set_option maxRecDepth 100000 in
set_option maxHeartbeats 8000000 in
open_top hd for PySem.Challenge.rw_ec5002_03
end Mini
/-! L3Q -/
namespace Mini
open PySem.Challenge

noncomputable abbrev K3 (P : Params) : Frag := Mini.hd.heap_39 P
theorem in_bis (P : Params) : FnIn (K3 P) 23 (fdOf (K3 P) 23) (bodyAt pw_ec5002_03 1) (scopeAt pw_ec5002_03 1) := ⟨⟨_, _, _, rfl⟩, rfl, rfl, rfl, rfl, rfl, rfl⟩
theorem in_after (P : Params) : FnIn (K3 P) 30 (fdOf (K3 P) 30) (bodyAt pw_ec5002_03 3) (scopeAt pw_ec5002_03 3) := ⟨⟨_, _, _, rfl⟩, rfl, rfl, rfl, rfl, rfl, rfl⟩
theorem in_follows (P : Params) : FnIn (K3 P) 37 (fdOf (K3 P) 37) (bodyAt pw_ec5002_03 4) (scopeAt pw_ec5002_03 4) := ⟨⟨_, _, _, rfl⟩, rfl, rfl, rfl, rfl, rfl, rfl⟩
theorem in_left_over (P : Params) : FnIn (K3 P) 42 (fdOf (K3 P) 42) (bodyAt pw_ec5002_03 5) (scopeAt pw_ec5002_03 5) := ⟨⟨_, _, _, rfl⟩, rfl, rfl, rfl, rfl, rfl, rfl⟩
theorem in_longer (P : Params) : FnIn (K3 P) 47 (fdOf (K3 P) 47) (bodyAt pw_ec5002_03 6) (scopeAt pw_ec5002_03 6) := ⟨⟨_, _, _, rfl⟩, rfl, rfl, rfl, rfl, rfl, rfl⟩
theorem in_back (P : Params) : FnIn (K3 P) 52 (fdOf (K3 P) 52) (bodyAt pw_ec5002_03 7) (scopeAt pw_ec5002_03 7) := ⟨⟨_, _, _, rfl⟩, rfl, rfl, rfl, rfl, rfl, rfl⟩
theorem in_law (P : Params) : FnIn (K3 P) 57 (fdOf (K3 P) 57) (bodyAt pw_ec5002_03 8) (scopeAt pw_ec5002_03 8) := ⟨⟨_, _, _, rfl⟩, rfl, rfl, rfl, rfl, rfl, rfl⟩
theorem pk_bis (P : Params) (a b : Value) (S : Setting) : peek (K3 P) S (bindArgs (fdOf (K3 P) 23) ⟨[a, b], []⟩) = some (n_bis.zip [a, b, .int 0 189, .none, .none]) := rfl
theorem pk_after (P : Params) (a b c : Value) (S : Setting) : peek (K3 P) S (bindArgs (fdOf (K3 P) 30) ⟨[a, b, c], []⟩) = some (n_after.zip [a, b, c]) := rfl
theorem pk_follows (P : Params) (a b : Value) (S : Setting) : peek (K3 P) S (bindArgs (fdOf (K3 P) 37) ⟨[a, b], []⟩) = some (n_follows.zip [a, b]) := rfl
theorem pk_left_over (P : Params) (a : Value) (S : Setting) : peek (K3 P) S (bindArgs (fdOf (K3 P) 42) ⟨[a], []⟩) = some (n_left_over.zip [a]) := rfl
theorem pk_longer (P : Params) (a b : Value) (S : Setting) : peek (K3 P) S (bindArgs (fdOf (K3 P) 47) ⟨[a, b], []⟩) = some (n_longer.zip [a, b]) := rfl
theorem pk_back (P : Params) (a b c : Value) (S : Setting) : peek (K3 P) S (bindArgs (fdOf (K3 P) 52) ⟨[a, b, c], []⟩) = some (n_back.zip [a, b, c]) := rfl
theorem pk_law (P : Params) (a : Value) (S : Setting) : peek (K3 P) S (bindArgs (fdOf (K3 P) 57) ⟨[a], []⟩) = some (n_law.zip [a]) := rfl
end Mini

/-! L3R -/
namespace Mini
open PySem.Challenge

theorem k_names {sc : Scope} {names : List Str} (h : (names.all fun x => sc.names.lookup x == some .local || sc.names.lookup x == some .cell) = true) : ∀ x ∈ names, sc.names.lookup x = some .local ∨ sc.names.lookup x = some .cell := by
  intro x hx
  have h := List.all_eq_true.mp h x hx
  rcases Bool.or_eq_true_iff.mp h with h | h
  · exact .inl (beq_iff_eq.mp h)
  · exact .inr (beq_iff_eq.mp h)
theorem kn_bis : ∀ x ∈ n_bis, (scopeAt pw_ec5002_03 1).names.lookup x = some .local ∨ (scopeAt pw_ec5002_03 1).names.lookup x = some .cell := k_names (by decide +kernel)
theorem kn_law : ∀ x ∈ n_law, (scopeAt pw_ec5002_03 8).names.lookup x = some .local ∨ (scopeAt pw_ec5002_03 8).names.lookup x = some .cell := k_names (by decide +kernel)
theorem fo_n {W : Wd} (ok : WdOk W) {K : Frag} (X : K.In W.h₀) {n : Nat} {f : Addr} {fd : FuncData} {body : List Stmt} {sc : Scope} {v : List (Nat × Str)} {names : List Str} {t : ST} (F : FnIn K f fd body sc) (hb : BkOk W n sc (vmOf v) body t)
    (pk : ∀ vs : List Value, vs.length = names.length → ∀ S : Setting, peek K S (bindArgs fd ⟨vs, []⟩) = some (names.zip vs)) (hvm : (v.all fun p => match names[p.1]? with | some y => p.2 == y | none => true) = true) (hnd : names.Nodup)
    (hkind : (names.all fun x => sc.names.lookup x == some .local || sc.names.lookup x == some .cell) = true) (knd : sc.kind = .function) (cor : sc.isCoroutine = false) (gen : sc.isGenerator = false) :
    FOk W (n + 1) (.ref f) (fun avs h Q => avs.length = names.length ∧ fnT (fun avs => avs) t avs h Q) :=
  fn_ok ok (names := names) (vfill := fun vs => vs) (F.at X knd cor gen) (by rw [F.scp]; exact hb) (vm_names hvm) hnd (by rw [F.scp]; exact k_names hkind) (fun s vs hl k => binds_peek X (pk vs hl) s k) (fun vs h => h) (fun _ _ => rfl)

theorem plain_of_well {P : Params} {h : Heap} {a : Addr} {xs : List WData} (w : Well P h (.ref a) (.list xs)) {vs : List Value} (hl : h.IsList a vs.toArray) : h.PlainList a vs.toArray := by
  cases w with
  | list ho _ =>
    obtain ⟨o, h1, h2, n, h3⟩ := hl
    rw [ho] at h1; cases h1
    cases h3
    exact ⟨_, ho⟩

section
variable {w : World} {h₀ : Heap} {p : Program} {loose : List Str} {mean : ExcName → Option Value} {mg mb : Str → Option Value}

abbrev W3 (w : World) (h₀ : Heap) : Wd := ⟨pw_ec5002_03, w, h₀, h₀.objs.size⟩
theorem W3_ok (T : Top p loose mean mg mb h₀) : WdOk (W3 w h₀) := ⟨fun b o e => Heap.lt_size e, T.nolimit⟩

theorem l1 {α : Type} {P : List α → Prop} (h : ∀ a, P [a]) : ∀ vs : List α, vs.length = 1 → P vs | [a], _ => h a
theorem l2 {α : Type} {P : List α → Prop} (h : ∀ a b, P [a, b]) : ∀ vs : List α, vs.length = 2 → P vs | [a, b], _ => h a b
theorem l3 {α : Type} {P : List α → Prop} (h : ∀ a b c, P [a, b, c]) : ∀ vs : List α, vs.length = 3 → P vs | [a, b, c], _ => h a b c

theorem fo_bis (X : (K3 w.params).In h₀) (T : Top p loose mean mg mb h₀) (n : Nat) : FOk (W3 w h₀) (n + 1) (.ref 23) (f_bis2 (W3 w h₀).B) := by
  refine fn_ok (W3_ok T) (names := n_bis) (vfill := fun vs => vs ++ [.int 0 189, .none, .none]) (FnIn.at (in_bis w.params) X rfl rfl rfl) (bk_bis (W3_ok T) (n := n) (glob_blt X T (x := "len") rfl rfl (by decide))) (vm_names (by decide +kernel)) (by decide +kernel) kn_bis ?_ ?_ ?_
  · intro s vs hl k
    match vs, hl with
    | [a, b], _ => exact binds_peek X (pk_bis w.params a b) s k
  · intro vs hl; rw [List.length_append, hl]; rfl
  · intro vs hl; rw [List.map_append]; rfl
theorem fo_after (X : (K3 w.params).In h₀) (T : Top p loose mean mg mb h₀) (n : Nat) : FOk (W3 w h₀) (n + 2) (.ref 30) (f_after (W3 w h₀).B) :=
  fo_n (W3_ok T) (n := n + 1) (names := n_after) X (in_after w.params) (bk_after (W3_ok T) (d_bis := FnIn.def (in_bis w.params) X T rfl) (h_bis2 := fo_bis X T n) (g_len := glob_blt X T (x := "len") rfl rfl (by decide))) (l3 (fun a b c S => pk_after w.params a b c S)) (by decide +kernel) (by decide +kernel) (by decide +kernel) rfl rfl rfl
theorem fo_follows (X : (K3 w.params).In h₀) (T : Top p loose mean mg mb h₀) (n : Nat) : FOk (W3 w h₀) (n + 3) (.ref 37) (f_follows (W3 w h₀).B) :=
  fo_n (W3_ok T) (n := n + 2) (names := n_follows) X (in_follows w.params) (bk_follows (W3_ok T) (d_after := FnIn.def (in_after w.params) X T rfl) (h_after := fo_after X T n)) (l2 (fun a b S => pk_follows w.params a b S)) (by decide +kernel) (by decide +kernel) (by decide +kernel) rfl rfl rfl
theorem fo_left_over (X : (K3 w.params).In h₀) (T : Top p loose mean mg mb h₀) (n : Nat) : FOk (W3 w h₀) (n + 1) (.ref 42) (f_left_over (W3 w h₀).B) :=
  fo_n (W3_ok T) (n := n) (names := n_left_over) X (in_left_over w.params) (bk_left_over (W3_ok T) (sys_lt (W3_ok T) (glob_blt X T (x := "range") (v := .type "range") rfl rfl (by decide)))) (l1 (fun a S => pk_left_over w.params a S)) (by decide +kernel) (by decide +kernel) (by decide +kernel) rfl rfl rfl
theorem fo_longer (X : (K3 w.params).In h₀) (T : Top p loose mean mg mb h₀) (n : Nat) : FOk (W3 w h₀) (n + 1) (.ref 47) (f_longer (W3 w h₀).B) :=
  fo_n (W3_ok T) (n := n) (names := n_longer) X (in_longer w.params) (bk_longer (W3_ok T) (glob_blt X T (x := "range") rfl rfl (by decide))) (l2 (fun a b S => pk_longer w.params a b S)) (by decide +kernel) (by decide +kernel) (by decide +kernel) rfl rfl rfl
theorem fo_back (X : (K3 w.params).In h₀) (T : Top p loose mean mg mb h₀) (n : Nat) : FOk (W3 w h₀) (n + 3) (.ref 52) (f_back (W3 w h₀).B) :=
  fo_n (W3_ok T) (n := n + 2) (names := n_back) X (in_back w.params) (bk_back (W3_ok T) (g_range := glob_blt X T (x := "range") rfl rfl (by decide)) (g_min := glob_blt X T (x := "min") rfl rfl (by decide)) (d_after := FnIn.def (in_after w.params) X T rfl) (h_after := fo_after X T n) (g_sum := glob_blt X T (x := "sum") rfl rfl (by decide))) (l3 (fun a b c S => pk_back w.params a b c S)) (by decide +kernel) (by decide +kernel) (by decide +kernel) rfl rfl rfl

theorem law3_ok (X : (K3 w.params).In h₀) (T : Top p loose mean mg mb h₀) {a : Addr} {vs : List Value} {ns : List Int} {s : Shared} (hs : s.heap = h₀) (hl : h₀.PlainList a vs.toArray) (hv : vs.map er = ns.map AV.int) (hlen : ns.length ≤ 63)
    {R : Result → Shared → Prop} (q : ∀ s' : Shared, (∀ b o, s.heap.get? b = some o → s'.heap.get? b = some o) → s'.os = s.os → s'.gens = s.gens → R (.ok (.ret (.bool true))) s') :
    codeAny (model pw_ec5002_03 w) callerA (.call (.ref 57) ⟨[.ref a], []⟩) R s := by
  subst hs
  have ok := W3_ok (w := w) T
  have hb := bk_law ok (n := 8) (g_len := glob_blt X T (x := "len") rfl rfl (by decide)) (d_left_over := FnIn.def (in_left_over w.params) X T rfl) (h_left_over := fo_left_over X T 7) (g_range := glob_blt X T (x := "range") rfl rfl (by decide))
    (d_back := FnIn.def (in_back w.params) X T rfl) (h_back := fo_back X T 5) (g_abs := glob_blt X T (x := "abs") rfl rfl (by decide)) (d_after := FnIn.def (in_after w.params) X T rfl) (h_after := fo_after X T 6) (g_max := glob_blt X T (x := "max") rfl rfl (by decide))
    (d_longer := FnIn.def (in_longer w.params) X T rfl) (h_longer := fo_longer X T 7) (d_follows := FnIn.def (in_follows w.params) X T rfl) (h_follows := fo_follows X T 5) (g_min := glob_blt X T (x := "min") rfl rfl (by decide)) (g_tuple := glob_blt X T (x := "tuple") rfl rfl (by decide)) (g_list := glob_blt X T (x := "list") rfl rfl (by decide))
  have hcells : ∀ (b : Addr) c, upd (fun _ => none) a (.list (ns.map AV.int)) b = some c → CellAt (W3 w s.heap) s.heap b c := fun b c e => by
    by_cases hba : b = a
    · subst hba; rw [upd_same] at e; cases e
      exact ⟨_, hl, hv⟩
    · rw [upd_ne hba] at e; cases e
  refine codeAny_mono (fn_top ok (n := 8) (FnIn.at (in_law w.params) X rfl rfl rfl) (names := n_law) (vals := [.ref a]) (E := fun _ _ => False) hb (vm_names (by decide +kernel)) (by decide +kernel) kn_law ⟨rfl, by decide +kernel, by decide +kernel⟩ hcells (fun _ _ e => e) (Nat.le_refl _) (binds_peek X (pk_law w.params (.ref a))) rfl
    (Q := fun v _ => v = .bool true) (law_spec (Q := fun v _ => v = .bool true) (upd_same ..) hlen fun _ => rfl).2) ?_
  intro r s' g
  match r, g with
  | .ok (.ret v), ⟨h', hp, tk, e, S, hq⟩ =>
    subst e
    rw [er_bool hq]
    exact q _ (fun b o eb => S.keep b o eb (.inr (.inl (Heap.lt_size eb)))) rfl rfl
end
end Mini

/-! L3S -/
namespace Mini
theorem ofPy_list (xs : List PyData) : ofPy (.list xs) = .list (ofPys xs) := by simp only [ofPy]
theorem post_t (x : List WData) : PySem.Challenge.rw_ec5002_03.row.claim.post x (WData.bool true) x = true :=
  postW_of (X := true) (by simp [OpenLaw.row, WShape.has, WShape.arms]) ((w_eq_bool (k := true) (l := true) (w_res rfl) w_lit).trans rfl) rfl
end Mini
set_option maxRecDepth 100000 in
set_option maxHeartbeats 8000000 in
theorem PySem.Challenge.cw_ec5002_03_holds : PySem.Challenge.rw_ec5002_03.Holds := by
  refine Mini.hd ?_
  k_fill
  intro w s₀ s₁ mg mb G Y fa o pm cd doc dV kV ho hd hcd hD hmg hg args vals as hpre hlay hrd hwl hlo
  have KX := kIn_of Y
  refine Ground.open G ?_
  intro T B D TE TW
  wrow_args hpre hlay hrd hwl hlo
  refine enter_call ?_
  refine codeAny_mono ?_ (fun _ _ g => GoodW.toG g)
  rename_i ns hs1 hlay0 hL hr2 hl2 w4 w3 a vs w0 hList ra w1 r0 hI hr1 hc1 hc2
  have hfa : some (Value.ref 57) = some (Value.ref fa) := (mg_of KX T.g (n := "law") rfl).symm.trans hmg
  cases hfa
  rw [Mini.ofPy_list] at w1
  exact Mini.law3_ok KX T rfl (Mini.plain_of_well w1 hList) (Mini.er_intsA hI) (by omega) (fun s' k e1 e2 => ⟨.inl ⟨_, .bool true, [], rfl, fun _ => rfl, ReadsW.bool true, Mini.post_t _, fun _ => ⟨List.nodup_nil, fun a ha => absurd ha List.not_mem_nil⟩⟩, k, e1, e2.trans hg⟩)
