import PyProof.Rows.All
import Wide.All
import OpenK.AllK
import Wide.FinOn
import Lean
import PySem.Challenge.RW_ec5002_02
open PySem PySem.W PySem.Calls PyProof.Rows
set_option Elab.async false
set_option maxRecDepth 100000
set_option linter.unusedVariables false
set_option linter.unusedSectionVars false
/-! MiniA -/
namespace Mini

inductive AV where
  | none | bool (b : Bool) | int (i : Int) | ref (a : Addr) | other

def er : Value → AV
  | .none => .none
  | .bool b => .bool b
  | .int i _ => .int i
  | .ref a => .ref a
  | _ => .other

theorem er_int {v : Value} {i : Int} (h : er v = .int i) : ∃ t, v = .int i t := by
  cases v <;> simp [er] at h; exact ⟨_, by rw [h]⟩
theorem er_bool {v : Value} {b : Bool} (h : er v = .bool b) : v = .bool b := by
  cases v <;> simp [er] at h; rw [h]
theorem er_ref {v : Value} {a : Addr} (h : er v = .ref a) : v = .ref a := by
  cases v <;> simp [er] at h; rw [h]
theorem er_none {v : Value} (h : er v = .none) : v = .none := by
  cases v <;> simp [er] at h; rfl

inductive Cell where
  | list (xs : List AV)
  | tup (xs : List AV)
  | idict (es : List (Int × AV))
  | tdict (es : List (List Int × AV))

abbrev AH := Addr → Option Cell
abbrev Loc := Nat → Option AV

def upd {α : Type} (f : Nat → Option α) (i : Nat) (v : α) : Nat → Option α := fun j => if j = i then some v else f j
theorem upd_same {α : Type} (f : Nat → Option α) (i : Nat) (v : α) : upd f i v i = some v := if_pos rfl
theorem upd_ne {α : Type} {f : Nat → Option α} {i j : Nat} {v : α} (h : j ≠ i) : upd f i v j = f j := if_neg h

-- the world of one law
structure Wd where
  prog : Program
  w : World
  h₀ : Heap
  B : Addr

def IDictAt (W : Wd) (hp : Heap) (a : Addr) (es : List (Int × AV)) : Prop := False
def TDictAt (W : Wd) (hp : Heap) (a : Addr) (es : List (List Int × AV)) : Prop := False

def PlainTup (hp : Heap) (a : Addr) (vs : Array Value) : Prop := ∃ n, hp.get? a = some { cls := .type "tuple", data := .seq vs n }
theorem PlainTup.isTuple {hp : Heap} {a : Addr} {vs : Array Value} (x : PlainTup hp a vs) : hp.IsTuple a vs := let ⟨n, e⟩ := x; ⟨_, e, rfl, n, rfl⟩

def CellAt (W : Wd) (hp : Heap) (a : Addr) : Cell → Prop
  | .list xs => ∃ vs : Array Value, hp.PlainList a vs ∧ vs.toList.map er = xs
  | .tup xs => ∃ vs : Array Value, PlainTup hp a vs ∧ vs.toList.map er = xs
  | .idict es => IDictAt W hp a es
  | .tdict es => TDictAt W hp a es

def IsTupO (o : Obj) : Prop := o.cls = .type "tuple" ∧ ∃ xs n, o.data = .seq xs n
theorem ns_notTup {hp : Heap} {L : Addr} {m : Str → Option Value} (n : hp.Ns L m) : ∀ o, hp.get? L = some o → ¬ IsTupO o := by
  obtain ⟨o, es, ep, h1, h2, _⟩ := n
  rintro o' e ⟨_, xs, k, hd⟩
  rw [h1] at e; cases e; rw [h2] at hd; cases hd
theorem cell_notTup {hp : Heap} {c : Addr} {v : Option Value} (n : hp.IsCell c v) : ∀ o, hp.get? c = some o → ¬ IsTupO o := by
  obtain ⟨o, h1, h2⟩ := n
  rintro o' e ⟨_, xs, k, hd⟩
  rw [h1] at e; cases e; rw [h2] at hd; cases hd
theorem list_notTup {hp : Heap} {c : Addr} {vs : Array Value} (n : hp.PlainList c vs) : ∀ o, hp.get? c = some o → ¬ IsTupO o := by
  obtain ⟨o, h1, h2, _⟩ := n.isList
  rintro o' e ⟨hd, _⟩
  rw [h1] at e; cases e; rw [h2] at hd; exact absurd hd (by decide)

theorem CellAt.mono {W : Wd} {hp hp' : Heap} {a : Addr} {c : Cell} (x : CellAt W hp a c) (ha : ∀ o, hp.get? a = some o → hp'.get? a = some o)
    (ht : ∀ b o, hp.get? b = some o → IsTupO o → hp'.get? b = some o) : CellAt W hp' a c := by
  cases c with
  | list xs => obtain ⟨vs, ⟨n, ho⟩, e⟩ := x; exact ⟨vs, ⟨n, ha _ ho⟩, e⟩
  | tup xs => obtain ⟨vs, ⟨n, ho⟩, e⟩ := x; exact ⟨vs, ⟨n, ha _ ho⟩, e⟩
  | idict es => exact x.elim
  | tdict es => exact x.elim

structure Rel (W : Wd) (h : AH) (hp : Heap) : Prop where
  cells : ∀ a c, h a = some c → CellAt W hp a c
  base : ∀ b o, W.h₀.get? b = some o → hp.get? b = some o
  wit : ∃ b o, W.B ≤ b ∧ h b = none ∧ hp.get? b = some o

structure Step (W : Wd) (h : AH) (hp : Heap) (h' : AH) (hp' : Heap) : Prop where
  cells : ∀ a c, h' a = some c → CellAt W hp' a c
  keep : ∀ b o, hp.get? b = some o → (h b = none ∨ b < W.B ∨ IsTupO o) → hp'.get? b = some o
  fresh : ∀ b, h b = none → h' b ≠ none → hp.get? b = none ∧ W.B ≤ b
  dom : ∀ b, h' b = none → h b = none

structure WdOk (W : Wd) : Prop where
  size : ∀ b o, W.h₀.get? b = some o → b < W.B
  nolimit : W.h₀.NoLimit

theorem Step.rel {W : Wd} (ok : WdOk W) {h h' : AH} {hp hp' : Heap} (R : Rel W h hp) (S : Step W h hp h' hp') : Rel W h' hp' := by
  refine ⟨S.cells, fun b o e => S.keep b o (R.base b o e) (.inr (.inl (ok.size b o e))), ?_⟩
  obtain ⟨b, o, h1, h2, h3⟩ := R.wit
  refine ⟨b, o, h1, ?_, S.keep b o h3 (.inl h2)⟩
  cases q : h' b with
  | none => rfl
  | some c => have := (S.fresh b h2 (by rw [q]; exact nofun)).1; rw [h3] at this; cases this

theorem Step.stay {W : Wd} {h h' : AH} {hp hp' : Heap} (S : Step W h hp h' hp') {b : Addr} {o : Obj} (hb : hp.get? b = some o) (hn : h b = .none) : h' b = .none := by
  cases q : h' b with
  | none => rfl
  | some c => have := (S.fresh b hn (by rw [q]; exact nofun)).1; rw [hb] at this; cases this

theorem Step.refl {W : Wd} {h : AH} {hp : Heap} (R : Rel W h hp) : Step W h hp h hp :=
  ⟨R.cells, fun _ _ e _ => e, fun _ h1 h2 => absurd h1 h2, fun _ e => e⟩

theorem Step.trans {W : Wd} {h h' h'' : AH} {hp hp' hp'' : Heap} (S : Step W h hp h' hp') (T : Step W h' hp' h'' hp'') : Step W h hp h'' hp'' := by
  refine ⟨T.cells, fun b o e q => ?_, fun b h1 h2 => ?_, fun b e => S.dom b (T.dom b e)⟩
  · have e' := S.keep b o e q
    rcases q with q | q | q
    · exact T.keep b o e' (.inl (S.stay e q))
    · exact T.keep b o e' (.inr (.inl q))
    · exact T.keep b o e' (.inr (.inr q))
  · cases q : h' b with
    | some c => exact S.fresh b h1 (by rw [q]; exact nofun)
    | none =>
      obtain ⟨h3, h4⟩ := T.fresh b q h2
      refine ⟨?_, h4⟩
      cases q' : hp.get? b with
      | none => rfl
      | some o => have := S.keep b o q' (.inl h1); rw [h3] at this; cases this

-- a heap that has grown only (or changed at objects that are no cells and not kept)
theorem Step.keeps {W : Wd} {h : AH} {hp hp' : Heap} (R : Rel W h hp) (k : ∀ b o, hp.get? b = some o → hp'.get? b = some o) : Step W h hp h hp' :=
  ⟨fun a c e => (R.cells a c e).mono (fun o => k a o) (fun b o e _ => k b o e), fun b o e _ => k b o e, fun _ h1 h2 => absurd h1 h2, fun _ e => e⟩

-- the new cell
theorem Step.alloc {W : Wd} {h : AH} {hp hp' : Heap} {a : Addr} {c : Cell} (R : Rel W h hp) (ha : hp.get? a = Option.none) (hB : W.B ≤ a)
    (k : ∀ b o, hp.get? b = some o → hp'.get? b = some o) (hc : CellAt W hp' a c) : Step W h hp (upd h a c) hp' := by
  refine ⟨fun b c' e => ?_, fun b o e _ => k b o e, fun b h1 h2 => ?_, fun b e => ?_⟩
  · by_cases hb : b = a
    · subst hb; rw [upd_same] at e; cases e; exact hc
    · rw [upd_ne hb] at e
      exact (R.cells b c' e).mono (fun o => k b o) (fun b o e _ => k b o e)
  · by_cases hb : b = a
    · subst hb; exact ⟨ha, hB⟩
    · rw [upd_ne hb] at h2; exact absurd h1 h2
  · by_cases hb : b = a
    · subst hb; rw [upd_same] at e; cases e
    · rw [upd_ne hb] at e; exact e

theorem Rel.fresh {W : Wd} {h : AH} {hp : Heap} (R : Rel W h hp) {a : Addr} (ha : hp.get? a = Option.none) : h a = Option.none := by
  cases q : h a with
  | none => rfl
  | some c =>
    have := R.cells a c q
    cases c with
    | list xs => obtain ⟨vs, ⟨o, ho⟩, _⟩ := this; rw [ha] at ho; cases ho
    | tup xs => obtain ⟨vs, ⟨o, ho⟩, _⟩ := this; rw [ha] at ho; cases ho
    | idict es => exact this.elim
    | tdict es => exact this.elim

theorem Rel.size {W : Wd} {h : AH} {hp : Heap} (R : Rel W h hp) : W.B ≤ hp.objs.size := by
  obtain ⟨b, o, h1, _, h3⟩ := R.wit
  exact Nat.le_of_lt (Nat.lt_of_le_of_lt h1 (Heap.lt_size h3))

theorem get_size_none (hp : Heap) : hp.get? hp.objs.size = none := by
  cases q : hp.get? hp.objs.size with
  | none => rfl
  | some o => exact absurd (Heap.lt_size q) (Nat.lt_irrefl _)

theorem Step.push {W : Wd} {h : AH} {hp : Heap} {c : Cell} {o : Obj} (R : Rel W h hp) (hc : CellAt W (hp.push o) hp.objs.size c) :
    Step W h hp (upd h hp.objs.size c) (hp.push o) :=
  Step.alloc R (get_size_none hp) R.size (fun _ _ e => Heap.get?_push_of_some _ e) hc

-- a cell changed in place (no tuple)
theorem Step.set {W : Wd} {h : AH} {hp hp' : Heap} {a : Addr} {c c' : Cell} (R : Rel W h hp) (ha : h a = some c) (hB : W.B ≤ a) (hnt : ∀ o, hp.get? a = some o → ¬ IsTupO o)
    (hs : Heap.SameBut a hp hp') (hc : CellAt W hp' a c') : Step W h hp (upd h a c') hp' := by
  have hk : ∀ b o, b ≠ a → hp.get? b = some o → hp'.get? b = some o := fun b o hb e => (hs.2 b hb).trans e
  have ht : ∀ b o, hp.get? b = some o → IsTupO o → hp'.get? b = some o := fun b o e t => hk b o (fun q => hnt o (q ▸ e) t) e
  refine ⟨fun b d e => ?_, fun b o e q => ?_, fun b h1 h2 => ?_, fun b e => ?_⟩
  · by_cases hb : b = a
    · subst hb; rw [upd_same] at e; cases e; exact hc
    · rw [upd_ne hb] at e
      exact (R.cells b d e).mono (fun o => hk b o hb) ht
  · rcases q with q | q | q
    · exact hk b o (fun q' => by rw [q', ha] at q; cases q) e
    · exact hk b o (fun q' => by rw [q'] at q; exact absurd hB (Nat.not_le.mpr q)) e
    · exact ht b o e q
  · by_cases hb : b = a
    · rw [hb, ha] at h1; cases h1
    · rw [upd_ne hb] at h2; exact absurd h1 h2
  · by_cases hb : b = a
    · subst hb; rw [upd_same] at e; cases e
    · rw [upd_ne hb] at e; exact e

-- an object that is no cell and not of the base changed in place (an iterator)
theorem Step.other {W : Wd} {h : AH} {hp hp' : Heap} {a : Addr} (R : Rel W h hp) (hs : ∀ b o, b ≠ a → hp.get? b = some o → hp'.get? b = some o)
    (ha : h a = Option.none) : ∀ b c, h b = some c → b ≠ a := fun b c e q => by rw [q, ha] at e; cases e

/-! results -/
/-- a place that is free behind a step was free ahead of it -/
theorem Step.free {W : Wd} {h h' : AH} {hp hp' : Heap} (S : Step W h hp h' hp') {b : Addr} (hb : hp'.get? b = none) (hn : h' b = none) : hp.get? b = none := by
  cases q : hp.get? b with
  | none => rfl
  | some o => have := S.keep b o q (.inl (S.dom b hn)); rw [hb] at this; cases this

def Res (W : Wd) (h : AH) (s : Shared) (Q : AV → AH → Prop) : Value → Shared → Prop :=
  fun v s' => ∃ h' hp tk, s' = { s with heap := hp, toks := tk } ∧ Step W h s.heap h' hp ∧ Q (er v) h'
def ResB (W : Wd) (h : AH) (s : Shared) (Q : Bool → AH → Prop) : Bool → Shared → Prop :=
  fun v s' => ∃ h' hp tk, s' = { s with heap := hp, toks := tk } ∧ Step W h s.heap h' hp ∧ Q v h'

/-! frames -/
abbrev VM := Nat → Option Str

structure Frm (W : Wd) (env : Env) (vm : VM) (loc : Loc) (h : AH) (hp : Heap) : Prop where
  hk : env.scope.kind = .function
  hg : env.globals = mainGlobals
  hb : env.builtins = builtinsNs
  LB : W.B ≤ env.locals
  nL : h env.locals = none
  ns : ∃ m, hp.Ns env.locals m ∧ ∀ i x av, vm i = some x → env.kindOf x = some .local → loc i = some av → ∃ v, m x = some v ∧ er v = av
  cl : ∀ x c, env.cells.lookup x = some c → W.B ≤ c ∧ h c = none ∧ c ≠ env.locals ∧ ∃ v, hp.IsCell c v
  cv : ∀ i x av, vm i = some x → (env.kindOf x = some .cell ∨ env.kindOf x = some .free) → loc i = some av → ∃ c v, env.cells.lookup x = some c ∧ hp.IsCell c (some v) ∧ er v = av
  ap : ∀ x y c, env.cells.lookup x = some c → env.cells.lookup y = some c → x = y
  hc : ∀ x, env.kindOf x = some .cell → ∃ c, env.cells.lookup x = some c

theorem ns_some {hp : Heap} {L : Addr} {m : Str → Option Value} (n : hp.Ns L m) : ∃ o, hp.get? L = some o := let ⟨o, _, _, h, _⟩ := n; ⟨o, h⟩

theorem Frm.step {W : Wd} {env : Env} {vm : VM} {loc : Loc} {h h' : AH} {hp hp' : Heap} (F : Frm W env vm loc h hp) (S : Step W h hp h' hp') : Frm W env vm loc h' hp' := by
  obtain ⟨m, hm, hm2⟩ := F.ns
  obtain ⟨oL, hoL⟩ := ns_some hm
  have kL : ∀ o, hp.get? env.locals = some o → hp'.get? env.locals = some o := fun o e => S.keep _ o e (.inl F.nL)
  refine ⟨F.hk, F.hg, F.hb, F.LB, S.stay hoL F.nL, ⟨m, ?_, hm2⟩, fun x c e => ?_, fun i x av h1 h2 h3 => ?_, F.ap, F.hc⟩
  · obtain ⟨o, es, ep, ho, r⟩ := hm; exact ⟨o, es, ep, kL o ho, r⟩
  · obtain ⟨h1, h2, h3, v, o, ho, hv⟩ := F.cl x c e
    exact ⟨h1, S.stay ho h2, h3, v, o, S.keep c o ho (.inl h2), hv⟩
  · obtain ⟨c, v, e, ⟨o, ho, hv⟩, q⟩ := F.cv i x av h1 h2 h3
    exact ⟨c, v, e, ⟨o, S.keep c o ho (.inl (F.cl x c e).2.1), hv⟩, q⟩

/-! a statement's step: the frame's own objects may change -/
def Own (env : Env) (b : Addr) : Prop := b = env.locals ∨ ∃ x, env.cells.lookup x = some b

structure SStep (W : Wd) (env : Env) (h : AH) (hp : Heap) (h' : AH) (hp' : Heap) : Prop where
  cells : ∀ a c, h' a = some c → CellAt W hp' a c
  keep : ∀ b o, hp.get? b = some o → ¬ Own env b → (h b = none ∨ b < W.B ∨ IsTupO o) → hp'.get? b = some o
  fresh : ∀ b, h b = none → h' b ≠ none → hp.get? b = none ∧ W.B ≤ b
  dom : ∀ b, h' b = none → h b = none

theorem Step.s {W : Wd} {env : Env} {h h' : AH} {hp hp' : Heap} (S : Step W h hp h' hp') : SStep W env h hp h' hp' :=
  ⟨S.cells, fun b o e _ q => S.keep b o e q, S.fresh, S.dom⟩

theorem SStep.stay {W : Wd} {env : Env} {h h' : AH} {hp hp' : Heap} (S : SStep W env h hp h' hp') {b : Addr} {o : Obj} (hb : hp.get? b = some o) (hn : h b = .none) : h' b = .none := by
  cases q : h' b with
  | none => rfl
  | some c => have := (S.fresh b hn (by rw [q]; exact nofun)).1; rw [hb] at this; cases this

theorem SStep.rel {W : Wd} (ok : WdOk W) {env : Env} {vm : VM} {loc : Loc} {h h' : AH} {hp hp' : Heap} (R : Rel W h hp) (F : Frm W env vm loc h' hp') (hown : ∀ b o, W.h₀.get? b = some o → ¬ Own env b)
    (S : SStep W env h hp h' hp') : Rel W h' hp' := by
  obtain ⟨m, hm, _⟩ := F.ns
  obtain ⟨oL, hoL⟩ := ns_some hm
  exact ⟨S.cells, fun b o e => S.keep b o (R.base b o e) (hown b o e) (.inr (.inl (ok.size b o e))), ⟨_, oL, F.LB, F.nL, hoL⟩⟩

theorem Frm.own {W : Wd} (ok : WdOk W) {env : Env} {vm : VM} {loc : Loc} {h : AH} {hp : Heap} (F : Frm W env vm loc h hp) : ∀ b o, W.h₀.get? b = some o → ¬ Own env b := by
  rintro b o e (rfl | ⟨x, q⟩)
  · exact absurd (ok.size _ o e) (Nat.not_lt.mpr F.LB)
  · exact absurd (ok.size _ o e) (Nat.not_lt.mpr (F.cl x b q).1)

theorem SStep.trans {W : Wd} {env : Env} {h h' h'' : AH} {hp hp' hp'' : Heap} (S : SStep W env h hp h' hp') (T : SStep W env h' hp' h'' hp'')
    (how : ∀ b, Own env b → ∃ o, hp'.get? b = some o) : SStep W env h hp h'' hp'' := by
  refine ⟨T.cells, fun b o e n q => ?_, fun b h1 h2 => ?_, fun b e => S.dom b (T.dom b e)⟩
  · have e' := S.keep b o e n q
    rcases q with q | q | q
    · exact T.keep b o e' n (.inl (S.stay e q))
    · exact T.keep b o e' n (.inr (.inl q))
    · exact T.keep b o e' n (.inr (.inr q))
  · cases q : h' b with
    | some c => exact S.fresh b h1 (by rw [q]; exact nofun)
    | none =>
      obtain ⟨h3, h4⟩ := T.fresh b q h2
      refine ⟨?_, h4⟩
      cases q' : hp.get? b with
      | none => rfl
      | some o =>
        by_cases hn : Own env b
        · obtain ⟨o', e'⟩ := how b hn
          rw [h3] at e'; cases e'
        · have := S.keep b o q' hn (.inl h1); rw [h3] at this; cases this

theorem Frm.how {W : Wd} {env : Env} {vm : VM} {loc : Loc} {h : AH} {hp : Heap} (F : Frm W env vm loc h hp) : ∀ b, Own env b → ∃ o, hp.get? b = some o := by
  rintro b (rfl | ⟨x, q⟩)
  · obtain ⟨m, hm, _⟩ := F.ns; exact ns_some hm
  · obtain ⟨_, _, _, v, o, ho, _⟩ := F.cl x b q; exact ⟨o, ho⟩

/-! contexts, states, what is shown of a tree -/
structure Cx (n : Nat) (A : Around) : Prop where
  hd : A.handled = none
  dp : A.depth + n < recursionLimit
  un : A.units + 4 * n + 100 < cLine

theorem Cx.deeper {n : Nat} {A : Around} (c : Cx (n + 1) A) (env : Env) : Cx n (A.deeper env) :=
  ⟨c.hd, by have := c.dp; show A.depth + 1 + n < _; omega, by have := c.un; show A.units + 3 + 4 * n + 100 < _; omega⟩

structure St (W : Wd) (n : Nat) (sc : Scope) (vm : VM) (env : Env) (A : Around) (loc : Loc) (h : AH) (s : Shared) : Prop where
  sc : env.scope = sc
  cx : Cx n A
  fr : Frm W env vm loc h s.heap
  rel : Rel W h s.heap

section
variable {W : Wd} {n : Nat} {sc : Scope} {vm : VM} {env : Env} {A : Around} {loc : Loc} {h h' h'' : AH} {s : Shared} {hp hp' hp'' : Heap} {tk : Nat}

theorem St.step (ok : WdOk W) (x : St W n sc vm env A loc h s) (S : Step W h s.heap h' hp) : St W n sc vm env A loc h' { s with heap := hp, toks := tk } :=
  ⟨x.sc, x.cx, x.fr.step S, S.rel ok x.rel⟩

theorem Res.bind {Q : AV → AH → Prop} {v : Value} {s' : Shared} (S : Step W h s.heap h' hp) (r : Res W h' { s with heap := hp, toks := tk } Q v s') : Res W h s Q v s' := by
  obtain ⟨h2, hp2, tk2, rfl, S2, q⟩ := r
  exact ⟨h2, hp2, tk2, rfl, S.trans S2, q⟩
theorem ResB.bind {Q : Bool → AH → Prop} {v : Bool} {s' : Shared} (S : Step W h s.heap h' hp) (r : ResB W h' { s with heap := hp, toks := tk } Q v s') : ResB W h s Q v s' := by
  obtain ⟨h2, hp2, tk2, rfl, S2, q⟩ := r
  exact ⟨h2, hp2, tk2, rfl, S.trans S2, q⟩
end

abbrev ET := Loc → AH → (AV → AH → Prop) → Prop
abbrev TT := Loc → AH → (Bool → AH → Prop) → Prop
inductive Fl where
  | next | brk | cont
  | ret (v : AV)
abbrev ST := Loc → AH → (Fl → Loc → AH → Prop) → Prop
def erF : Flow → Fl
  | .next => .next
  | .brk => .brk
  | .cont => .cont
  | .ret v => .ret (er v)

def EvOk (W : Wd) (n : Nat) (sc : Scope) (vm : VM) (e : Expr) (t : ET) : Prop :=
  ∀ env A E s loc h Q, St W n sc vm env A loc h s → t loc h Q → wpAny (model W.prog W.w) A (eval e env) (Res W h s Q) E s
def TsOk (W : Wd) (n : Nat) (sc : Scope) (vm : VM) (e : Expr) (t : TT) : Prop :=
  ∀ env A E s loc h Q, St W n sc vm env A loc h s → t loc h Q → wpAny (model W.prog W.w) A (isTrue e env (eval e env)) (ResB W h s Q) E s
def OpOk (W : Wd) (n : Nat) (op : Operator) (p : AV → AV → AH → (AV → AH → Prop) → Prop) : Prop :=
  ∀ A E s va vb h Q, Cx n A → Rel W h s.heap → p (er va) (er vb) h Q → wpAny (model W.prog W.w) A (binaryOp op va vb) (Res W h s Q) E s
def CmpOk (W : Wd) (n : Nat) (op : CmpOp) (p : AV → AV → AH → (Bool → AH → Prop) → Prop) : Prop :=
  ∀ A E s va vb h Q, Cx n A → Rel W h s.heap → p (er va) (er vb) h Q → wpAny (model W.prog W.w) A (compareOp op va vb) (Res W h s fun v h' => ∃ b, v = .bool b ∧ Q b h') E s

def SRes (W : Wd) (env : Env) (vm : VM) (h : AH) (s : Shared) (Q : Fl → Loc → AH → Prop) : Flow → Shared → Prop :=
  fun f s' => ∃ loc' h' hp tk, s' = { s with heap := hp, toks := tk } ∧ SStep W env h s.heap h' hp ∧ Frm W env vm loc' h' hp ∧ Q (erF f) loc' h'
def ExOk (W : Wd) (n : Nat) (sc : Scope) (vm : VM) (st : Stmt) (t : ST) : Prop :=
  ∀ env A E s loc h Q, St W n sc vm env A loc h s → t loc h Q → wpAny (model W.prog W.w) A (exec st env) (SRes W env vm h s Q) E s
def BkOk (W : Wd) (n : Nat) (sc : Scope) (vm : VM) (st : List Stmt) (t : ST) : Prop :=
  ∀ env A E s loc h Q, St W n sc vm env A loc h s → t loc h Q → wpAny (model W.prog W.w) A (execs st env) (SRes W env vm h s Q) E s

section
variable {W : Wd} {n : Nat} {sc : Scope} {vm : VM} {env : Env} {A : Around} {loc : Loc} {h h' h'' : AH} {s : Shared} {hp hp' hp'' : Heap} {tk : Nat} {E : Value → Shared → Prop}

theorem EvOk.use (ok : WdOk W) {e : Expr} {t : ET} (he : EvOk W n sc vm e t) (st : St W n sc vm env A loc h s) {Q' : AV → AH → Prop} (ht : t loc h Q') {P : Value → Shared → Prop}
    (k : ∀ v h1 hp tk, Q' (er v) h1 → St W n sc vm env A loc h1 { s with heap := hp, toks := tk } → Step W h s.heap h1 hp → P v { s with heap := hp, toks := tk }) :
    wpAny (model W.prog W.w) A (eval e env) P E s :=
  wpAny_mono (he env A E s loc h Q' st ht) (by rintro v s' ⟨h1, hp, tk, rfl, S, q⟩; exact k v h1 hp tk q (st.step ok S) S) fun _ _ x => x
theorem TsOk.use (ok : WdOk W) {e : Expr} {t : TT} (he : TsOk W n sc vm e t) (st : St W n sc vm env A loc h s) {Q' : Bool → AH → Prop} (ht : t loc h Q') {P : Bool → Shared → Prop}
    (k : ∀ v h1 hp tk, Q' v h1 → St W n sc vm env A loc h1 { s with heap := hp, toks := tk } → Step W h s.heap h1 hp → P v { s with heap := hp, toks := tk }) :
    wpAny (model W.prog W.w) A (isTrue e env (eval e env)) P E s :=
  wpAny_mono (he env A E s loc h Q' st ht) (by rintro v s' ⟨h1, hp, tk, rfl, S, q⟩; exact k v h1 hp tk q (st.step ok S) S) fun _ _ x => x
end

namespace T
def var (i : Nat) : ET := fun loc h Q => ∃ v, loc i = some v ∧ Q v h
def int (k : Int) : ET := fun _ h Q => Q (.int k) h
def none : ET := fun _ h Q => Q .none h
def bool (b : Bool) : ET := fun _ h Q => Q (.bool b) h
def bin (p : AV → AV → AH → (AV → AH → Prop) → Prop) (l r : ET) : ET := fun loc h Q => l loc h fun a h1 => r loc h1 fun b h2 => p a b h2 Q
def cmp (p : AV → AV → AH → (Bool → AH → Prop) → Prop) (l r : ET) : TT := fun loc h Q => l loc h fun a h1 => r loc h1 fun b h2 => p a b h2 Q
def val (t : TT) : ET := fun loc h Q => t loc h fun b h1 => Q (.bool b) h1
end T

section
variable {W : Wd} (ok : WdOk W) {n : Nat} {sc : Scope} {vm : VM}
include ok

theorem ev_local {i : Nat} {x : Str} {pos : Pos} (hv : vm i = some x) (hl : sc.names.lookup x = some .local) (hd : (x == ("__debug__" : Str)) = false) :
    EvOk W n sc vm (.Name x pos) (T.var i) := by
  rintro env A E s loc h Q st ⟨v, hv', q⟩
  obtain ⟨m, hm, hm2⟩ := st.fr.ns
  have hk : env.kindOf x = some .local := by unfold Env.kindOf; rw [st.sc]; exact hl
  obtain ⟨v', h1, h2⟩ := hm2 i x v hv hk hv'
  refine wpAny_Name (wpAny_loadName_local st.fr.hk hk hm h1 ⟨h, s.heap, s.toks, rfl, Step.refl st.rel, ?_⟩) hd
  rw [h2]; exact q

theorem ev_cell {i : Nat} {x : Str} {pos : Pos} (hv : vm i = some x) (hl : sc.names.lookup x = some .cell) (hd : (x == ("__debug__" : Str)) = false) :
    EvOk W n sc vm (.Name x pos) (T.var i) := by
  rintro env A E s loc h Q st ⟨v, hv', q⟩
  have hk : env.kindOf x = some .cell := by unfold Env.kindOf; rw [st.sc]; exact hl
  obtain ⟨c, v', h1, h2, h3⟩ := st.fr.cv i x v hv (.inl hk) hv'
  refine wpAny_Name (wpAny_loadName_cell st.fr.hk hk h1 h2 ⟨h, s.heap, s.toks, rfl, Step.refl st.rel, ?_⟩) hd
  rw [h3]; exact q

theorem ev_free {i : Nat} {x : Str} {pos : Pos} (hv : vm i = some x) (hl : sc.names.lookup x = some .free) (hd : (x == ("__debug__" : Str)) = false) (hcd : (x == ("__classdict__" : Str)) = false) :
    EvOk W n sc vm (.Name x pos) (T.var i) := by
  rintro env A E s loc h Q st ⟨v, hv', q⟩
  have hk : env.kindOf x = some .free := by unfold Env.kindOf; rw [st.sc]; exact hl
  obtain ⟨c, v', h1, h2, h3⟩ := st.fr.cv i x v hv (.inr hk) hv'
  refine wpAny_Name (wpAny_loadName_free st.fr.hk hk h1 h2 ⟨h, s.heap, s.toks, rfl, Step.refl st.rel, ?_⟩ hcd) hd
  rw [h3]; exact q

theorem ev_int {k : Int} {kk : Nat} {pos : Pos} : EvOk W n sc vm (.Constant (.int k) kk pos) (T.int k) := by
  rintro env A E s loc h Q st q
  exact wpAny_Constant_int ⟨h, s.heap, s.toks + 1, rfl, Step.refl st.rel, q⟩
theorem ev_none {kk : Nat} {pos : Pos} : EvOk W n sc vm (.Constant .none kk pos) T.none := by
  rintro env A E s loc h Q st q
  exact wpAny_Constant_none ⟨h, s.heap, s.toks, rfl, Step.refl st.rel, q⟩
theorem ev_bool {b : Bool} {kk : Nat} {pos : Pos} : EvOk W n sc vm (.Constant (.bool b) kk pos) (T.bool b) := by
  rintro env A E s loc h Q st q
  exact wpAny_Constant_bool ⟨h, s.heap, s.toks, rfl, Step.refl st.rel, q⟩

theorem ev_bin {op : Operator} {p} {l r : Expr} {f g : ET} {pos : Pos} (hp : OpOk W n op p) (hl : EvOk W n sc vm l f) (hr : EvOk W n sc vm r g) :
    EvOk W n sc vm (.BinOp l op r pos) (T.bin p f g) := by
  intro env A E s loc h Q st q
  refine wpAny_BinOp (hl.use ok st q fun a h1 hp1 tk1 q1 st1 S1 => hr.use ok st1 q1 fun b h2 hp2 tk2 q2 st2 S2 => ?_)
  exact wpAny_mono (hp A E _ a b h2 Q st2.cx st2.rel q2) (fun v s' r => Res.bind S1 (Res.bind S2 r)) fun _ _ x => x

theorem ev_cmp {op : CmpOp} {p} {l r : Expr} {f g : ET} {pos : Pos} (hp : CmpOk W n op p) (hl : EvOk W n sc vm l f) (hr : EvOk W n sc vm r g) (hm : behindInMarks op r = false) :
    EvOk W n sc vm (.Compare l [op] [r] pos) (T.val (T.cmp p f g)) := by
  intro env A E s loc h Q st q
  refine wpAny_Compare1 (hl.use ok st q fun a h1 hp1 tk1 q1 st1 S1 => hr.use ok st1 q1 fun b h2 hp2 tk2 q2 st2 S2 => ?_) hm
  refine wpAny_mono (hp A E _ a b h2 _ st2.cx st2.rel q2) (fun v s' r => Res.bind (tk := tk1) S1 (Res.bind (tk := tk2) S2 ?_)) fun _ _ x => x
  obtain ⟨h3, hp3, tk3, e, S3, b, rfl', q3⟩ := r
  exact ⟨h3, hp3, tk3, e, S3, by rw [rfl']; exact q3⟩

theorem ts_cmp {op : CmpOp} {p} {l r : Expr} {f g : ET} {pos : Pos} (hp : CmpOk W n op p) (hl : EvOk W n sc vm l f) (hr : EvOk W n sc vm r g) (hm : behindInMarks op r = false) :
    TsOk W n sc vm (.Compare l [op] [r] pos) (T.cmp p f g) := by
  intro env A E s loc h Q st q
  refine wpAny_isTrue_Compare1 (hl.use ok st q fun a h1 hp1 tk1 q1 st1 S1 => hr.use ok st1 q1 fun b h2 hp2 tk2 q2 st2 S2 => ?_) hm
  refine wpAny_mono (hp A E _ a b h2 _ st2.cx st2.rel q2) (fun v s' r => ?_) fun _ _ x => x
  obtain ⟨h3, hp3, tk3, rfl, S3, b, hb, q3⟩ := r
  rw [er_bool hb]
  exact wpAny_truthy_bool (ResB.bind S1 (ResB.bind S2 ⟨h3, hp3, tk3, rfl, S3, q3⟩))
end
end Mini

/-! MiniB -/
namespace Mini

/-! primitive operators on ints -/
namespace P
abbrev Op := AV → AV → AH → (AV → AH → Prop) → Prop
abbrev Cm := AV → AV → AH → (Bool → AH → Prop) → Prop
def add : Op := fun a b h Q => ∃ x y, a = .int x ∧ b = .int y ∧ Q (.int (x + y)) h
def sub : Op := fun a b h Q => ∃ x y, a = .int x ∧ b = .int y ∧ Q (.int (x - y)) h
def mul : Op := fun a b h Q => ∃ x y, a = .int x ∧ b = .int y ∧ IntMulOk x y ∧ Q (.int (x * y)) h
def fdiv : Op := fun a b h Q => ∃ x y, a = .int x ∧ b = .int y ∧ y ≠ 0 ∧ Builtin.divisionGoesByPylong x y = false ∧ Q (.int (x.fdiv y)) h
def fmod : Op := fun a b h Q => ∃ x y, a = .int x ∧ b = .int y ∧ y ≠ 0 ∧ Q (.int (x.fmod y)) h
def shr : Op := fun a b h Q => ∃ x y, a = .int x ∧ b = .int y ∧ 0 ≤ y ∧ Q (.int (x.fdiv (2 ^ y.toNat))) h
def band : Op := fun a b h Q => ∃ x y, a = .int x ∧ b = .int y ∧ Q (.int (Builtin.bitAnd x y)) h
def pow : Op := fun a b h Q => ∃ x y, a = .int x ∧ b = .int y ∧ 0 ≤ y ∧ (Builtin.Int.intBits x : Int) * y ≤ 2 ^ 27 ∧ Q (.int (x ^ y.toNat)) h
def lt : Cm := fun a b h Q => ∃ x y, a = .int x ∧ b = .int y ∧ Q (decide (x < y)) h
def le : Cm := fun a b h Q => ∃ x y, a = .int x ∧ b = .int y ∧ Q (decide (x ≤ y)) h
def gt : Cm := fun a b h Q => ∃ x y, a = .int x ∧ b = .int y ∧ Q (decide (x > y)) h
def ge : Cm := fun a b h Q => ∃ x y, a = .int x ∧ b = .int y ∧ Q (decide (x ≥ y)) h
def eqI : Cm := fun a b h Q => ∃ x y, a = .int x ∧ b = .int y ∧ Q (x == y) h
def neI : Cm := fun a b h Q => ∃ x y, a = .int x ∧ b = .int y ∧ Q (x != y) h
def isNone (a : AV) : Bool := match a with | .none => true | _ => false
-- only where the right side is the written None
def isN : Cm := fun a b h Q => b = .none ∧ a ≠ .other ∧ Q (isNone a) h
def isNotN : Cm := fun a b h Q => b = .none ∧ a ≠ .other ∧ Q (!isNone a) h
end P

section
variable {W : Wd} {n : Nat}

theorem op_add : OpOk W n .Add P.add := by
  rintro A E s va vb h Q cx R ⟨x, y, ha, hb, q⟩
  obtain ⟨t, rfl⟩ := er_int ha; obtain ⟨u, rfl⟩ := er_int hb
  exact wpAny_add_int ⟨h, s.heap, s.toks + 1, rfl, Step.refl R, q⟩
theorem op_sub : OpOk W n .Sub P.sub := by
  rintro A E s va vb h Q cx R ⟨x, y, ha, hb, q⟩
  obtain ⟨t, rfl⟩ := er_int ha; obtain ⟨u, rfl⟩ := er_int hb
  exact PyProof.Rows.sub_int' ⟨h, s.heap, s.toks + 1, rfl, Step.refl R, q⟩
theorem op_mul : OpOk W n .Mult P.mul := by
  rintro A E s va vb h Q cx R ⟨x, y, ha, hb, hm, q⟩
  obtain ⟨t, rfl⟩ := er_int ha; obtain ⟨u, rfl⟩ := er_int hb
  exact PyProof.Rows.mul_int ⟨h, s.heap, s.toks + 1, rfl, Step.refl R, q⟩ hm
theorem op_fdiv : OpOk W n .FloorDiv P.fdiv := by
  rintro A E s va vb h Q cx R ⟨x, y, ha, hb, hy, hp, q⟩
  obtain ⟨t, rfl⟩ := er_int ha; obtain ⟨u, rfl⟩ := er_int hb
  exact PyProof.Rows.floordiv_int hy ⟨h, s.heap, s.toks + 1, rfl, Step.refl R, q⟩ (.inl hp)
theorem op_fmod : OpOk W n .Mod P.fmod := by
  rintro A E s va vb h Q cx R ⟨x, y, ha, hb, hy, q⟩
  obtain ⟨t, rfl⟩ := er_int ha; obtain ⟨u, rfl⟩ := er_int hb
  exact PyProof.Rows.mod_int' hy ⟨h, s.heap, s.toks + 1, rfl, Step.refl R, q⟩
theorem op_shr : OpOk W n .RShift P.shr := by
  rintro A E s va vb h Q cx R ⟨x, y, ha, hb, hy, q⟩
  obtain ⟨t, rfl⟩ := er_int ha; obtain ⟨u, rfl⟩ := er_int hb
  exact PyProof.Rows.rshift_int hy ⟨h, s.heap, s.toks + 1, rfl, Step.refl R, q⟩
theorem op_band : OpOk W n .BitAnd P.band := by
  rintro A E s va vb h Q cx R ⟨x, y, ha, hb, q⟩
  obtain ⟨t, rfl⟩ := er_int ha; obtain ⟨u, rfl⟩ := er_int hb
  exact PyProof.Rows.and_int ⟨h, s.heap, s.toks + 1, rfl, Step.refl R, q⟩
theorem op_pow : OpOk W n .Pow P.pow := by
  rintro A E s va vb h Q cx R ⟨x, y, ha, hb, hy, hm, q⟩
  obtain ⟨t, rfl⟩ := er_int ha; obtain ⟨u, rfl⟩ := er_int hb
  exact PyProof.Rows.pow_int hy hm ⟨h, s.heap, s.toks + 1, rfl, Step.refl R, q⟩

theorem cm_lt : CmpOk W n .Lt P.lt := by
  rintro A E s va vb h Q cx R ⟨x, y, ha, hb, q⟩
  obtain ⟨t, rfl⟩ := er_int ha; obtain ⟨u, rfl⟩ := er_int hb
  exact wpAny_lt_int ⟨h, s.heap, s.toks, rfl, Step.refl R, _, rfl, q⟩
theorem cm_le : CmpOk W n .LtE P.le := by
  rintro A E s va vb h Q cx R ⟨x, y, ha, hb, q⟩
  obtain ⟨t, rfl⟩ := er_int ha; obtain ⟨u, rfl⟩ := er_int hb
  exact PyProof.Rows.le_int ⟨h, s.heap, s.toks, rfl, Step.refl R, _, rfl, q⟩
theorem cm_gt : CmpOk W n .Gt P.gt := by
  rintro A E s va vb h Q cx R ⟨x, y, ha, hb, q⟩
  obtain ⟨t, rfl⟩ := er_int ha; obtain ⟨u, rfl⟩ := er_int hb
  exact PyProof.Rows.gt_int ⟨h, s.heap, s.toks, rfl, Step.refl R, _, rfl, q⟩
theorem cm_ge : CmpOk W n .GtE P.ge := by
  rintro A E s va vb h Q cx R ⟨x, y, ha, hb, q⟩
  obtain ⟨t, rfl⟩ := er_int ha; obtain ⟨u, rfl⟩ := er_int hb
  exact PyProof.Rows.ge_int ⟨h, s.heap, s.toks, rfl, Step.refl R, _, rfl, q⟩
theorem cm_eqI : CmpOk W n .Eq P.eqI := by
  rintro A E s va vb h Q cx R ⟨x, y, ha, hb, q⟩
  obtain ⟨t, rfl⟩ := er_int ha; obtain ⟨u, rfl⟩ := er_int hb
  exact PyProof.Rows.eq_int ⟨h, s.heap, s.toks, rfl, Step.refl R, _, rfl, q⟩
theorem cm_neI : CmpOk W n .NotEq P.neI := by
  rintro A E s va vb h Q cx R ⟨x, y, ha, hb, q⟩
  obtain ⟨t, rfl⟩ := er_int ha; obtain ⟨u, rfl⟩ := er_int hb
  exact PyProof.Rows.ne_int ⟨h, s.heap, s.toks, rfl, Step.refl R, _, rfl, q⟩
theorem cm_isN : CmpOk W n .Is P.isN := by
  rintro A E s va vb h Q cx R ⟨hb, ho, q⟩
  obtain rfl := er_none hb
  cases va with
  | none => exact wpAny_is_plain rfl ⟨h, s.heap, s.toks, rfl, Step.refl R, _, rfl, q⟩
  | bool b => exact wpAny_is_plain (by cases b <;> rfl) ⟨h, s.heap, s.toks, rfl, Step.refl R, _, rfl, q⟩
  | int i t => exact wpAny_is_plain rfl ⟨h, s.heap, s.toks, rfl, Step.refl R, _, rfl, q⟩
  | ref a => exact wpAny_is_plain rfl ⟨h, s.heap, s.toks, rfl, Step.refl R, _, rfl, q⟩
  | _ => exact absurd rfl ho
theorem cm_isNotN : CmpOk W n .IsNot P.isNotN := by
  rintro A E s va vb h Q cx R ⟨hb, ho, q⟩
  obtain rfl := er_none hb
  cases va with
  | none => exact wpAny_isNot_plain rfl ⟨h, s.heap, s.toks, rfl, Step.refl R, _, rfl, q⟩
  | bool b => exact wpAny_isNot_plain (by cases b <;> rfl) ⟨h, s.heap, s.toks, rfl, Step.refl R, _, rfl, q⟩
  | int i t => exact wpAny_isNot_plain rfl ⟨h, s.heap, s.toks, rfl, Step.refl R, _, rfl, q⟩
  | ref a => exact wpAny_isNot_plain rfl ⟨h, s.heap, s.toks, rfl, Step.refl R, _, rfl, q⟩
  | _ => exact absurd rfl ho
end

/-! tests, branches -/
namespace T
def not (t : TT) : TT := fun loc h Q => t loc h fun b h1 => Q (!b) h1
def and (t u : TT) : TT := fun loc h Q => t loc h fun b h1 => if b then u loc h1 Q else Q false h1
def or (t u : TT) : TT := fun loc h Q => t loc h fun b h1 => if b then Q true h1 else u loc h1 Q
def ifx (t : TT) (a b : ET) : ET := fun loc h Q => t loc h fun c h1 => if c then a loc h1 Q else b loc h1 Q
-- truth of a value
def truB (e : ET) : TT := fun loc h Q => e loc h fun v h1 => ∃ b, v = .bool b ∧ Q b h1
def truL (e : ET) : TT := fun loc h Q => e loc h fun v h1 => ∃ a xs, v = .ref a ∧ h1 a = some (.list xs) ∧ xs.length < 2 ^ 24 ∧ Q (!xs.isEmpty) h1
end T

section
variable {W : Wd} (ok : WdOk W) {n : Nat} {sc : Scope} {vm : VM}
include ok

theorem ts_not {e : Expr} {t : TT} {pos : Pos} (he : TsOk W n sc vm e t) : TsOk W n sc vm (.UnaryOp .Not e pos) (T.not t) := by
  intro env A E s loc h Q st q
  refine wpAny_isTrue_Not (he.use ok st q fun b h1 hp1 tk1 q1 st1 S1 => ⟨h1, hp1, tk1, rfl, S1, q1⟩)

theorem ts_and2 {a b : Expr} {t u : TT} {pos : Pos} (ha : TsOk W n sc vm a t) (hb : TsOk W n sc vm b u) : TsOk W n sc vm (.BoolOp .And [a, b] pos) (T.and t u) := by
  intro env A E s loc h Q st q
  refine wpAny_isTrue_BoolOp (wpAny_allTrue_And_cons (ha.use ok st q fun c h1 hp1 tk1 q1 st1 S1 => ?_))
  cases c with
  | false => exact ⟨h1, hp1, tk1, rfl, S1, q1⟩
  | true =>
    refine wpAny_allTrue_And_cons (hb.use ok st1 q1 fun d h2 hp2 tk2 q2 st2 S2 => ?_)
    cases d with
    | false => exact ⟨h2, hp2, tk2, rfl, S1.trans S2, q2⟩
    | true => exact wpAny_allTrue_And_nil ⟨h2, hp2, tk2, rfl, S1.trans S2, q2⟩
theorem ts_or2 {a b : Expr} {t u : TT} {pos : Pos} (ha : TsOk W n sc vm a t) (hb : TsOk W n sc vm b u) : TsOk W n sc vm (.BoolOp .Or [a, b] pos) (T.or t u) := by
  intro env A E s loc h Q st q
  refine wpAny_isTrue_BoolOp (wpAny_allTrue_Or_cons (ha.use ok st q fun c h1 hp1 tk1 q1 st1 S1 => ?_))
  cases c with
  | true => exact ⟨h1, hp1, tk1, rfl, S1, q1⟩
  | false =>
    refine wpAny_allTrue_Or_cons (hb.use ok st1 q1 fun d h2 hp2 tk2 q2 st2 S2 => ?_)
    cases d with
    | true => exact ⟨h2, hp2, tk2, rfl, S1.trans S2, q2⟩
    | false => exact wpAny_allTrue_Or_nil ⟨h2, hp2, tk2, rfl, S1.trans S2, q2⟩

theorem ev_ifx {t a b : Expr} {c : TT} {f g : ET} {pos : Pos} (ht : TsOk W n sc vm t c) (ha : EvOk W n sc vm a f) (hb : EvOk W n sc vm b g) :
    EvOk W n sc vm (.IfExp t a b pos) (T.ifx c f g) := by
  intro env A E s loc h Q st q
  refine wpAny_IfExp (ht.use ok st q fun d h1 hp1 tk1 q1 st1 S1 => ?_)
  cases d with
  | true => exact wpAny_mono (ha env A E _ loc h1 Q st1 q1) (fun v s' r => Res.bind (tk := tk1) S1 r) fun _ _ x => x
  | false => exact wpAny_mono (hb env A E _ loc h1 Q st1 q1) (fun v s' r => Res.bind (tk := tk1) S1 r) fun _ _ x => x

theorem ts_bool {e : Expr} {t : ET} (he : EvOk W n sc vm e t) (hw : ∀ env, isTrue e env (eval e env) = (do let v ← eval e env; standAt e.pos; holding [v] (truthy v))) :
    TsOk W n sc vm e (T.truB t) := by
  intro env A E s loc h Q st q
  refine wpAny_isTrue_value (he.use ok st q fun v h1 hp1 tk1 q1 st1 S1 => ?_) (hw env)
  obtain ⟨b, hb, q2⟩ := q1
  rw [er_bool hb]
  exact wpAny_truthy_bool ⟨h1, hp1, tk1, rfl, S1, q2⟩
theorem ts_list {e : Expr} {t : ET} (he : EvOk W n sc vm e t) (hw : ∀ env, isTrue e env (eval e env) = (do let v ← eval e env; standAt e.pos; holding [v] (truthy v))) :
    TsOk W n sc vm e (T.truL t) := by
  intro env A E s loc h Q st q
  refine wpAny_isTrue_value (he.use ok st q fun v h1 hp1 tk1 q1 st1 S1 => ?_) (hw env)
  obtain ⟨a, xs, hv, ha, hl, q2⟩ := q1
  obtain rfl := er_ref hv
  obtain ⟨vs, hvs, hx⟩ := st1.rel.cells a _ ha
  have hlen : vs.size = xs.length := by rw [← hx, List.length_map, Array.length_toList]
  refine wpAny_truthy_list hvs.isList (by rw [hlen]; omega) ⟨h1, hp1, tk1 + 1 + 1, rfl, S1, ?_⟩
  have : vs.isEmpty = xs.isEmpty := by
    rw [← hx]; cases vs with | mk l => cases l <;> rfl
  rw [this]; exact q2
end

/-! statements -/
namespace T
def seq (a b : ST) : ST := fun loc h Q => a loc h fun f loc1 h1 => match f with | .next => b loc1 h1 Q | f => Q f loc1 h1
def skip : ST := fun loc h Q => Q .next loc h
def asg (i : Nat) (e : ET) : ST := fun loc h Q => e loc h fun v h1 => Q .next (upd loc i v) h1
def ife (t : TT) (a b : ST) : ST := fun loc h Q => t loc h fun c h1 => if c then a loc h1 Q else b loc h1 Q
def ret (e : ET) : ST := fun loc h Q => e loc h fun v h1 => Q (.ret v) loc h1
def expr (e : ET) : ST := fun loc h Q => e loc h fun v h1 => Q .next loc h1
def raise : ST := fun _ _ _ => False
def while_ (t : TT) (b : ST) : ST := fun loc h Q => ∃ (I : Nat → Loc → AH → Prop) (k : Nat), I k loc h ∧ ∀ k loc h, I k loc h →
  t loc h fun c h1 => if c then b loc h1 fun f loc2 h2 => match f with
      | .next | .cont => ∃ m, m < k ∧ I m loc2 h2
      | .brk => Q .next loc2 h2
      | .ret v => Q (.ret v) loc2 h2
    else Q .next loc h1
end T

section
variable {W : Wd} (ok : WdOk W) {n : Nat} {sc : Scope} {vm : VM}

/-- a state behind a statement -/
theorem St.after (ok : WdOk W) {env : Env} {A : Around} {loc loc' : Loc} {h h' : AH} {s : Shared} {hp : Heap} {tk : Nat} (st : St W n sc vm env A loc h s)
    (S : SStep W env h s.heap h' hp) (F : Frm W env vm loc' h' hp) : St W n sc vm env A loc' h' { s with heap := hp, toks := tk } :=
  ⟨st.sc, st.cx, F, S.rel ok st.rel F (F.own ok)⟩

include ok
theorem bk_nil : BkOk W n sc vm [] T.skip := by
  intro env A E s loc h Q st q
  exact wpAny_execs_nil ⟨loc, h, s.heap, s.toks, rfl, (Step.refl st.rel).s, st.fr, q⟩

theorem bk_cons {a : Stmt} {r : List Stmt} {f g : ST} (ha : ExOk W n sc vm a f) (hr : BkOk W n sc vm r g) : BkOk W n sc vm (a :: r) (T.seq f g) := by
  intro env A E s loc h Q st q
  refine wpAny_execs_cons (wpAny_mono (ha env A E s loc h _ st q) ?_ fun _ _ x => x)
  rintro fl s' ⟨loc1, h1, hp1, tk1, rfl, S1, F1, q1⟩
  cases fl with
  | next =>
    have st1 := st.after ok (tk := tk1) S1 F1
    refine wpAny_mono (hr env A E _ loc1 h1 Q st1 q1) ?_ fun _ _ x => x
    rintro f2 s2 ⟨loc2, h2, hp2, tk2, rfl, S2, F2, q2⟩
    exact ⟨loc2, h2, hp2, tk2, rfl, S1.trans S2 F1.how, F2, q2⟩
  | brk => exact ⟨loc1, h1, hp1, tk1, rfl, S1, F1, q1⟩
  | cont => exact ⟨loc1, h1, hp1, tk1, rfl, S1, F1, q1⟩
  | ret v => exact ⟨loc1, h1, hp1, tk1, rfl, S1, F1, q1⟩

theorem bk_one {a : Stmt} {f : ST} (ha : ExOk W n sc vm a f) : BkOk W n sc vm [a] f := by
  intro env A E s loc h Q st q
  refine wpAny_execs_cons (wpAny_mono (ha env A E s loc h _ st q) ?_ fun _ _ x => x)
  rintro fl s' ⟨loc1, h1, hp1, tk1, rfl, S1, F1, q1⟩
  cases fl with
  | next => exact wpAny_execs_nil ⟨loc1, h1, hp1, tk1, rfl, S1, F1, q1⟩
  | brk => exact ⟨loc1, h1, hp1, tk1, rfl, S1, F1, q1⟩
  | cont => exact ⟨loc1, h1, hp1, tk1, rfl, S1, F1, q1⟩
  | ret v => exact ⟨loc1, h1, hp1, tk1, rfl, S1, F1, q1⟩

theorem ex_if {t : Expr} {a b : List Stmt} {c : TT} {f g : ST} {pos : Pos} (ht : TsOk W n sc vm t c) (ha : BkOk W n sc vm a f) (hb : BkOk W n sc vm b g) :
    ExOk W n sc vm (.If t a b pos) (T.ife c f g) := by
  intro env A E s loc h Q st q
  refine wpAny_If (ht.use ok st q fun d h1 hp1 tk1 q1 st1 S1 => ?_)
  have key : ∀ {l : List Stmt} {k : ST}, BkOk W n sc vm l k → k loc h1 Q → wpAny (model W.prog W.w) A (execs l env) (SRes W env vm h s Q) E { s with heap := hp1, toks := tk1 } := by
    intro l k hl q1
    refine wpAny_mono (hl env A E _ loc h1 Q st1 q1) ?_ fun _ _ x => x
    rintro f2 s2 ⟨loc2, h2, hp2, tk2, rfl, S2, F2, q2⟩
    exact ⟨loc2, h2, hp2, tk2, rfl, S1.s.trans S2 st1.fr.how, F2, q2⟩
  cases d with
  | true => exact key ha q1
  | false => exact key hb q1

theorem ex_return {e : Expr} {f : ET} {pos : Pos} (he : EvOk W n sc vm e f) : ExOk W n sc vm (.Return (some e) pos) (T.ret f) := by
  intro env A E s loc h Q st q
  refine wpAny_Return_some (he.use ok st q fun v h1 hp1 tk1 q1 st1 S1 => ?_)
  exact ⟨loc, h1, hp1, tk1, rfl, S1.s, st1.fr, q1⟩

theorem ex_expr {e : Expr} {f : ET} {pos : Pos} (he : EvOk W n sc vm e f) (hs : ∀ env, swapsWith e none pos.line env = pure false) :
    ExOk W n sc vm (.Expr e pos) (T.expr f) := by
  intro env A E s loc h Q st q
  refine wpAny_Expr_any (he.use ok st q fun v h1 hp1 tk1 q1 st1 S1 => ?_) (by unfold interactive; rw [st.fr.hk]; rfl) (hs env)
  exact ⟨loc, h1, hp1, tk1, rfl, S1.s, st1.fr, q1⟩

def VInj (vm : VM) : Prop := ∀ i j x, vm i = some x → vm j = some x → i = j

omit ok in
/-- a store into the frame, as a tree: one object of the frame's own changes -/
theorem store_core (hj : VInj vm) {env : Env} {A : Around} {E : Value → Shared → Prop} {loc : Loc} {h : AH} {s : Shared} {i : Nat} {x : Str} {v : Value} {P : Unit → Shared → Prop}
    (F : Frm W env vm loc h s.heap) (hv : vm i = some x) (hl : env.kindOf x = some .local ∨ env.kindOf x = some .cell)
    (k : ∀ a hp tk, (a = env.locals ∨ (env.kindOf x = some .cell ∧ env.cells.lookup x = some a)) → (∀ o, s.heap.get? a = some o → ¬ IsTupO o) → h a = none → W.B ≤ a → Heap.SameBut a s.heap hp → Frm W env vm (upd loc i (er v)) h hp → P () { s with heap := hp, toks := tk }) :
    wpAny (model W.prog W.w) A (storeName env x v) P E s := by
  obtain ⟨m, hm, hm2⟩ := F.ns
  rcases hl with hl | hl
  · refine wpAny_storeName_local hl hm (fun h' hn hs => k env.locals h' _ (.inl rfl) (ns_notTup hm) F.nL F.LB hs ?_) (by rw [F.hk]; rfl)
    have hcell : ∀ {c : Addr} {v : Option Value} {y : Str}, env.cells.lookup y = some c → s.heap.IsCell c v → h'.IsCell c v := fun e hc => hc.sameBut hs (F.cl _ _ e).2.2.1
    refine ⟨F.hk, F.hg, F.hb, F.LB, F.nL, ⟨_, hn, fun j y av h1 h2 h3 => ?_⟩, fun y c e => ?_, fun j y av h1 h2 h3 => ?_, F.ap, F.hc⟩
    · by_cases hji : j = i
      · subst hji
        rw [upd_same] at h3; cases h3
        obtain rfl : y = x := Option.some.inj (h1.symm.trans hv)
        exact ⟨v, if_pos rfl, rfl⟩
      · rw [upd_ne hji] at h3
        obtain ⟨w, hw1, hw2⟩ := hm2 j y av h1 h2 h3
        exact ⟨w, by rw [if_neg (fun q : y = x => hji (hj j i x (q ▸ h1) hv))]; exact hw1, hw2⟩
    · obtain ⟨a1, a2, a3, w, hw⟩ := F.cl y c e
      exact ⟨a1, a2, a3, w, hcell e hw⟩
    · have hji : j ≠ i := fun q => by
        subst q
        obtain rfl : y = x := Option.some.inj (h1.symm.trans hv)
        rw [hl] at h2; rcases h2 with h2 | h2 <;> cases h2
      rw [upd_ne hji] at h3
      obtain ⟨c, w, hc, hw1, hw2⟩ := F.cv j y av h1 h2 h3
      exact ⟨c, w, hc, hcell hc hw1, hw2⟩
  · obtain ⟨c, hc⟩ := F.hc x hl
    obtain ⟨b1, b2, b3, v0, hv0⟩ := F.cl x c hc
    refine wpAny_storeName_cell F.hk hl hc hv0 (fun h' hv' hs => k c h' s.toks (.inr ⟨hl, hc⟩) (cell_notTup hv0) b2 b1 hs ?_)
    refine ⟨F.hk, F.hg, F.hb, F.LB, F.nL, ⟨m, hm.sameBut hs (Ne.symm b3), fun j y av h1 h2 h3 => ?_⟩, fun y d e => ?_, fun j y av h1 h2 h3 => ?_, F.ap, F.hc⟩
    · have hji : j ≠ i := fun q => by
        subst q
        obtain rfl : y = x := Option.some.inj (h1.symm.trans hv)
        rw [hl] at h2; cases h2
      rw [upd_ne hji] at h3
      exact hm2 j y av h1 h2 h3
    · obtain ⟨a1, a2, a3, w, hw⟩ := F.cl y d e
      refine ⟨a1, a2, a3, ?_⟩
      by_cases hd : d = c
      · subst hd; exact ⟨_, hv'⟩
      · exact ⟨w, hw.sameBut hs hd⟩
    · by_cases hji : j = i
      · subst hji
        rw [upd_same] at h3; cases h3
        obtain rfl : y = x := Option.some.inj (h1.symm.trans hv)
        exact ⟨c, v, hc, hv', rfl⟩
      · rw [upd_ne hji] at h3
        obtain ⟨d, w, hd, hw1, hw2⟩ := F.cv j y av h1 h2 h3
        refine ⟨d, w, hd, hw1.sameBut hs (fun q => ?_), hw2⟩
        subst q
        obtain rfl := F.ap y x d hd hc
        exact hji (hj j i y h1 hv)

omit ok in
theorem store_ok (hj : VInj vm) {env : Env} {A : Around} {E : Value → Shared → Prop} {loc : Loc} {h : AH} {s : Shared} {i : Nat} {x : Str} {v : Value} {P : Unit → Shared → Prop}
    (F : Frm W env vm loc h s.heap) (R : Rel W h s.heap) (hv : vm i = some x) (hl : env.kindOf x = some .local ∨ env.kindOf x = some .cell)
    (k : ∀ hp tk, SStep W env h s.heap h hp → Frm W env vm (upd loc i (er v)) h hp → P () { s with heap := hp, toks := tk }) :
    wpAny (model W.prog W.w) A (storeName env x v) P E s := by
  refine store_core hj F hv hl fun a hp tk ha hnt hn hB hs F' => k hp tk ?_ F'
  have ho : Own env a := ha.imp id fun q => ⟨x, q.2⟩
  have hk : ∀ b o, b ≠ a → s.heap.get? b = some o → hp.get? b = some o := fun b o hb e => (hs.2 b hb).trans e
  refine ⟨fun b c e => ?_, fun b o e n _ => hk b o (fun q => n (q ▸ ho)) e, fun b h1 h2 => absurd h1 h2, fun _ e => e⟩
  have hb : b ≠ a := fun q => by rw [q, hn] at e; cases e
  exact (R.cells b c e).mono (fun o => hk b o hb) (fun b' o' e' t' => hk b' o' (fun q => hnt o' (q ▸ e') t') e')

theorem ex_asg (hj : VInj vm) {i : Nat} {x : Str} {e : Expr} {f : ET} {p pos : Pos} (he : EvOk W n sc vm e f) (hv : vm i = some x)
    (hl : sc.names.lookup x = some .local ∨ sc.names.lookup x = some .cell) (hs : ∀ env : Env, env.scope = sc → swapsWith e (some (.Name x p)) pos.line env = pure false) :
    ExOk W n sc vm (.Assign [.Name x p] e pos) (T.asg i f) := by
  intro env A E s loc h Q st q
  refine wpAny_Assign_Name (he.use ok st q fun v h1 hp1 tk1 q1 st1 S1 => ?_) (hs env st.sc)
  refine store_ok hj st1.fr st1.rel hv (by unfold Env.kindOf; rw [st.sc]; exact hl) fun hp tk S2 F2 => ?_
  exact ⟨_, h1, hp, tk, rfl, S1.s.trans S2 st1.fr.how, F2, q1⟩

omit ok in
theorem noted_false {M : Model} {A : Around} {env : Env} {v : Value} {s : Shared} (h : (fun _ _ => False : Value → Shared → Prop) v s) {P : Value → Shared → Prop} : P v s := h.elim

theorem ex_while {t : Expr} {b : List Stmt} {c : TT} {f : ST} {pos : Pos} (ht : TsOk W n sc vm t c) (hb : BkOk W n sc vm b f) : ExOk W n sc vm (.While t b [] pos) (T.while_ c f) := by
  rintro env A E s loc h Q st ⟨I, k, hI, turn⟩
  refine wpAny_While ?_
  refine codeAny_whileLoop (prog := W.prog) (w := W.w) (fun k s' => ∃ loc' h' hp tk, s' = { s with heap := hp, toks := tk } ∧ SStep W env h s.heap h' hp ∧ Frm W env vm loc' h' hp ∧ I k loc' h') ?_ k
    ⟨loc, h, s.heap, s.toks, rfl, (Step.refl st.rel).s, st.fr, hI⟩
  rintro k _ ⟨loc1, h1, hp1, tk1, rfl, S1, F1, hI1⟩
  have st1 := st.after ok (tk := tk1) S1 F1
  refine ht.use ok st1 (turn k loc1 h1 hI1) fun d h2 hp2 tk2 q2 st2 S2 => ?_
  cases d with
  | true =>
    refine wpAny_mono (hb env A (fun _ _ => False) _ loc1 h2 _ st2 q2) ?_ fun _ _ x => x.elim
    rintro f2 s2 ⟨loc3, h3, hp3, tk3, rfl, S3, F3, q3⟩
    have S := (S1.trans S2.s F1.how).trans S3 st2.fr.how
    cases f2 with
    | next => obtain ⟨m, hm, q3⟩ := q3; exact ⟨m, hm, loc3, h3, hp3, tk3, rfl, S, F3, q3⟩
    | cont => obtain ⟨m, hm, q3⟩ := q3; exact ⟨m, hm, loc3, h3, hp3, tk3, rfl, S, F3, q3⟩
    | brk => exact ⟨loc3, h3, hp3, tk3, rfl, S, F3, q3⟩
    | ret v => exact ⟨loc3, h3, hp3, tk3, rfl, S, F3, q3⟩
  | false => exact wpAny_execs_nil ⟨loc1, h2, hp2, tk2, rfl, S1.trans S2.s F1.how, st2.fr, q2⟩
end
end Mini

/-! MiniC -/
namespace Mini

/-! globals -/
def GlobAt (W : Wd) (x : Str) (v : Value) : Prop :=
  ∀ hp : Heap, (∀ b o, W.h₀.get? b = some o → hp.get? b = some o) → ∃ mg mb, hp.Ns mainGlobals mg ∧ hp.Ns builtinsNs mb ∧ (mg x = some v ∨ (mg x = none ∧ mb x = some v))

theorem glob_name {W : Wd} {n : Nat} {sc : Scope} {vm : VM} {env : Env} {A : Around} {loc : Loc} {h : AH} {s : Shared} {E : Value → Shared → Prop} {x : Str} {pos : Pos} {v : Value} {P : Value → Shared → Prop}
    (g : GlobAt W x v) (st : St W n sc vm env A loc h s) (hx : sc.names.lookup x = some .globalImplicit) (hd : (x == ("__debug__" : Str)) = false) (k : P v s) :
    wpAny (model W.prog W.w) A (eval (.Name x pos) env) P E s := by
  obtain ⟨mg, mb, h1, h2, h3⟩ := g s.heap st.rel.base
  have hk : env.kindOf x = some .globalImplicit := by unfold Env.kindOf; rw [st.sc]; exact hx
  rw [← st.fr.hg] at h1
  rw [← st.fr.hb] at h2
  rcases h3 with h3 | ⟨h3, h4⟩
  · exact Name_function_global st.fr.hk hk (loadGlobal_global h1 h3 k) hd
  · exact Name_function_global st.fr.hk hk (loadGlobal_builtin h1 h3 h2 h4 k) hd

namespace T
def glob (v : AV) : ET := fun _ h Q => Q v h
end T

/-- what is to hold whatever the new cell's place -/
def New (B : Addr) (h : AH) (c : Cell) (Q : AV → AH → Prop) : Prop := ∀ a, B ≤ a → h a = none → Q (.ref a) (upd h a c)

abbrev EsT := Loc → AH → (List AV → AH → Prop) → Prop
namespace T
def enil : EsT := fun _ h Q => Q [] h
def econs (f : ET) (g : EsT) : EsT := fun loc h Q => f loc h fun v h1 => g loc h1 fun vs h2 => Q (v :: vs) h2
def call (t : EsT) (p : List AV → AH → (AV → AH → Prop) → Prop) : ET := fun loc h Q => t loc h fun vs h1 => p vs h1 Q
def callv (i : Nat) (f : Addr) (t : EsT) (p : List AV → AH → (AV → AH → Prop) → Prop) : ET := fun loc h Q => loc i = some (.ref f) ∧ t loc h fun vs h1 => p vs h1 Q
def list (B : Addr) (t : EsT) : ET := fun loc h Q => t loc h fun vs h1 => vs.length ≤ 2 ^ 20 ∧ New B h1 (.list vs) Q
def tup (B : Addr) (t : EsT) : ET := fun loc h Q => t loc h fun vs h1 => vs.length ≤ 2 ^ 20 ∧ New B h1 (.tup vs) Q
end T

def ResL (W : Wd) (h : AH) (s : Shared) (Q : List AV → AH → Prop) : List Value → Shared → Prop :=
  fun v s' => ∃ h' hp tk, s' = { s with heap := hp, toks := tk } ∧ Step W h s.heap h' hp ∧ Q (v.map er) h'

def EsOk (W : Wd) (n : Nat) (sc : Scope) (vm : VM) (es : List Expr) (t : EsT) : Prop :=
  ∀ env A E s loc h Q pos, St W n sc vm env A loc h s → t loc h Q → wpAny (model W.prog W.w) A (spliced (backTo pos (starEach es env))) (ResL W h s Q) E s

def FOk (W : Wd) (n : Nat) (f : Value) (p : List AV → AH → (AV → AH → Prop) → Prop) : Prop :=
  ∀ A E s vs h Q, Cx n A → Rel W h s.heap → p (vs.map er) h Q → wpAny (model W.prog W.w) A (call f vs) (Res W h s Q) E s
def FkOk (W : Wd) (n : Nat) (f : Value) (kn : Str) (p : List AV → AH → (AV → AH → Prop) → Prop) : Prop :=
  ∀ A E s vs kv h Q, Cx n A → Rel W h s.heap → p ((vs ++ [kv]).map er) h Q → wpAny (model W.prog W.w) A (call f vs [(kn, kv)]) (Res W h s Q) E s

theorem Cx.le {m n : Nat} {A : Around} (h : m ≤ n) (c : Cx n A) : Cx m A := ⟨c.hd, by have := c.dp; omega, by have := c.un; omega⟩
theorem FOk.le {W : Wd} {m n : Nat} {f : Value} {p} (h : m ≤ n) (x : FOk W m f p) : FOk W n f p := fun A E s vs hh Q cx => x A E s vs hh Q (cx.le h)
theorem FkOk.le {W : Wd} {m n : Nat} {f : Value} {kn : Str} {p} (h : m ≤ n) (x : FkOk W m f kn p) : FkOk W n f kn p := fun A E s vs kv hh Q cx => x A E s vs kv hh Q (cx.le h)

section
variable {W : Wd} (ok : WdOk W) {n : Nat} {sc : Scope} {vm : VM}
include ok

theorem ev_glob {x : Str} {v : Value} {pos : Pos} (g : GlobAt W x v) (hx : sc.names.lookup x = some .globalImplicit) (hd : (x == ("__debug__" : Str)) = false) :
    EvOk W n sc vm (.Name x pos) (T.glob (er v)) := by
  intro env A E s loc h Q st q
  exact glob_name g st hx hd ⟨h, s.heap, s.toks, rfl, Step.refl st.rel, q⟩

theorem es_nil : EsOk W n sc vm [] T.enil := by
  intro env A E s loc h Q pos st q
  exact Calls.spliced_nil ⟨h, s.heap, s.toks, rfl, Step.refl st.rel, q⟩

theorem es_cons {e : Expr} {es : List Expr} {f : ET} {g : EsT} (he : EvOk W n sc vm e f) (hes : EsOk W n sc vm es g)
    (hs : ∀ env, starEach (e :: es) env = (false, eval e env) :: starEach es env) : EsOk W n sc vm (e :: es) (T.econs f g) := by
  intro env A E s loc h Q pos st q
  rw [hs]
  refine Calls.spliced_cons (he.use ok st q fun v h1 hp1 tk1 q1 st1 S1 => ?_)
  refine wpAny_mono (hes env A E _ loc h1 _ pos st1 q1) ?_ fun _ _ x => x
  rintro vs s' ⟨h2, hp2, tk2, rfl, S2, q2⟩
  exact ⟨h2, hp2, tk2, rfl, S1.trans S2, q2⟩

theorem ev_list {es : List Expr} {t : EsT} {pos : Pos} (hes : EsOk W n sc vm es t) : EvOk W n sc vm (.List es pos) (T.list W.B t) := by
  intro env A E s loc h Q st q
  refine wpAny_List_spliced (wpAny_mono (hes env A E s loc h _ pos st q) ?_ fun _ _ x => x)
  rintro vs s' ⟨h1, hp1, tk1, rfl, S1, hlen, q1⟩
  rw [List.length_map] at hlen
  refine ⟨by rw [sizeLine_eq]; omega, ?_⟩
  have R1 := S1.rel ok st.rel
  refine ⟨_, _, tk1, rfl, S1.trans (Step.push (c := .list (vs.map er)) R1 ⟨_, ⟨0, Heap.get?_push_size _ rfl⟩, by simp⟩), q1 _ R1.size (R1.fresh (get_size_none _))⟩

theorem ev_tup {es : List Expr} {t : EsT} {kk : Nat} {pos : Pos} (hes : EsOk W n sc vm es t) : EvOk W n sc vm (.Tuple es kk pos) (T.tup W.B t) := by
  intro env A E s loc h Q st q
  refine wpAny_Tuple_spliced (wpAny_mono (hes env A E s loc h _ pos st q) ?_ fun _ _ x => x)
  rintro vs s' ⟨h1, hp1, tk1, rfl, S1, hlen, q1⟩
  rw [List.length_map] at hlen
  refine ⟨by rw [sizeLine_eq]; omega, ?_⟩
  have R1 := S1.rel ok st.rel
  refine ⟨_, _, tk1, rfl, S1.trans (Step.push (c := .tup (vs.map er)) R1 ⟨_, ⟨0, Heap.get?_push_size _ rfl⟩, by simp⟩), q1 _ R1.size (R1.fresh (get_size_none _))⟩

/-- a call of a built-in function or type by its global name -/
theorem ev_callB {x : Str} {f : Value} {np pos : Pos} {e : Expr} {es : List Expr} {t : EsT} {p} (hf : (∃ id, f = .builtin id) ∨ ∃ T, f = .type T) (g : GlobAt W x f) (hx : sc.names.lookup x = some .globalImplicit)
    (hd : (x == ("__debug__" : Str)) = false) (hes : EsOk W n sc vm (e :: es) t) (hp : FOk W n f p)
    (hs : ∀ env, starEach (e :: es) env = (false, eval e env) :: starEach es env) (hpl : ∀ env pos, (backTo pos (starEach es env)).any (·.1) = false) :
    EvOk W n sc vm (.Call (.Name x np) (e :: es) [] pos) (T.call t p) := by
  intro env A E s loc h Q st q
  refine wpAny_Call_NameR (glob_name g st hx hd ?_)
  have key : wpAny (model W.prog W.w) A (spliced (backTo pos (starEach (e :: es) env))) (fun vs s₁ => wpAny (model W.prog W.w) A (call f vs) (Res W h s Q) E s₁) E s := by
    refine wpAny_mono (hes env A E s loc h _ pos st q) ?_ fun _ _ x => x
    rintro vs s' ⟨h1, hp1, tk1, rfl, S1, q1⟩
    exact wpAny_mono (hp A E _ vs h1 Q st.cx (S1.rel ok st.rel) q1) (fun v s' r => Res.bind (tk := tk1) S1 r) fun _ _ x => x
  have hany : (backTo pos (starEach (e :: es) env)).any (·.1) = false := by
    rw [hs]
    show (false || (backTo pos (starEach es env)).any (·.1)) = false
    rw [hpl]; rfl
  rcases hf with ⟨id, rfl⟩ | ⟨T, rfl⟩
  · refine Calls.callWith_builtin hany ?_
    rw [hs] at key ⊢
    exact Calls.evalArgs_plain key
  · refine PyProof.Rows.callWith_type hany ?_
    rw [hs] at key ⊢
    exact Calls.evalArgs_plain key

/-- a call of a def by its global name -/
theorem ev_callF {x : Str} {f : Addr} {o : Obj} {fd : FuncData} {np pos : Pos} {e : Expr} {es : List Expr} {t : EsT} {p} (g : GlobAt W x (.ref f)) (hx : sc.names.lookup x = some .globalImplicit)
    (hd : (x == ("__debug__" : Str)) = false) (ho : W.h₀.get? f = some o) (hod : o.data = .func fd) (hes : EsOk W n sc vm (e :: es) t) (hp : FOk W n (.ref f) p)
    (hs : ∀ env, starEach (e :: es) env = (false, eval e env) :: starEach es env) :
    EvOk W n sc vm (.Call (.Name x np) (e :: es) [] pos) (T.call t p) := by
  intro env A E s loc h Q st q
  refine wpAny_Call_NameR (glob_name g st hx hd ?_)
  refine Calls.callWith_function (o := o) (fd := fd) ?_
  have key : wpAny (model W.prog W.w) A (spliced (backTo pos (starEach (e :: es) env))) (fun vs s₁ => (s₁.heap.get? f = some o ∧ o.data = .func fd) ∧ wpAny (model W.prog W.w) A (call (.ref f) vs) (Res W h s Q) E s₁) E s := by
    refine wpAny_mono (hes env A E s loc h _ pos st q) ?_ fun _ _ x => x
    rintro vs s' ⟨h1, hp1, tk1, rfl, S1, q1⟩
    have R1 := S1.rel ok st.rel
    exact ⟨⟨R1.base _ _ ho, hod⟩, wpAny_mono (hp A E _ vs h1 Q st.cx R1 q1) (fun v s' r => Res.bind (tk := tk1) S1 r) fun _ _ x => x⟩
  rw [hs] at key ⊢
  exact Calls.evalArgs_plain key

/-- a call of a def by its global name with one keyword -/
theorem ev_callK {x : Str} {f : Addr} {o : Obj} {fd : FuncData} {np pos kp : Pos} {e ke : Expr} {es : List Expr} {kn : Str} {t : EsT} {kt : ET} {p} (g : GlobAt W x (.ref f)) (hx : sc.names.lookup x = some .globalImplicit)
    (hd : (x == ("__debug__" : Str)) = false) (ho : W.h₀.get? f = some o) (hod : o.data = .func fd) (hes : EsOk W n sc vm (e :: es) t) (hk : EvOk W n sc vm ke kt) (hp : FkOk W n (.ref f) kn p)
    (hs : ∀ env, starEach (e :: es) env = (false, eval e env) :: starEach es env) :
    EvOk W n sc vm (.Call (.Name x np) (e :: es) [⟨some kn, ke, kp⟩] pos) (T.call (fun loc h Q => t loc h fun vs h1 => kt loc h1 fun v h2 => Q (vs ++ [v]) h2) p) := by
  intro env A E s loc h Q st q
  refine wpAny_Call_Name_kw (glob_name g st hx hd ?_)
  refine callWith_function_kw (o := o) (fd := fd) ?_
  have key : wpAny (model W.prog W.w) A (spliced (backTo pos (starEach (e :: es) env))) (fun vs s₁ => wpAny (model W.prog W.w) A (evalAll ((backToKw pos (keywordEach [⟨some kn, ke, kp⟩] env)).map (·.2)))
      (fun ks s₂ => (s₂.heap.get? f = some o ∧ o.data = .func fd) ∧ wpAny (model W.prog W.w) A (call (.ref f) ([] ++ vs) (((backToKw pos (keywordEach [⟨some kn, ke, kp⟩] env)).filterMap (·.1)).zip ks)) (Res W h s Q) E s₂) E s₁) E s := by
    refine wpAny_mono (hes env A E s loc h _ pos st q) ?_ fun _ _ x => x
    rintro vs s' ⟨h1, hp1, tk1, rfl, S1, q1⟩
    have st1 : St W n sc vm env A loc h1 { s with heap := hp1, toks := tk1 } := st.step ok S1
    show wpAny _ A (evalAll [(do let v ← eval ke env; standAt pos; pure v)]) _ _ _
    refine wpAny_evalAll_cons (wpAny_bind (hk.use ok st1 q1 fun kv h2 hp2 tk2 q2 st2 S2 => wpAny_bind (wpAny_standAt (wpAny_pure (wpAny_evalAll_nil ?_)))))
    refine ⟨⟨st2.rel.base _ _ ho, hod⟩, ?_⟩
    show wpAny _ A (call (.ref f) vs [(kn, kv)]) _ _ _
    refine wpAny_mono (hp A E _ vs kv h2 Q st.cx st2.rel ?_) (fun v s' r => Res.bind (tk := tk1) S1 (Res.bind (tk := tk2) S2 r)) fun _ _ x => x
    rw [List.map_append]; exact q2
  rw [hs] at key ⊢
  exact evalArgs_kw rfl key

/-- a call of a def that a local name holds -/
theorem ev_callV {i : Nat} {x : Str} {f : Addr} {o : Obj} {fd : FuncData} {np pos : Pos} {e : Expr} {es : List Expr} {t : EsT} {p} (hv : EvOk W n sc vm (.Name x np) (T.var i))
    (ho : W.h₀.get? f = some o) (hod : o.data = .func fd) (hes : EsOk W n sc vm (e :: es) t) (hp : FOk W n (.ref f) p)
    (hs : ∀ env, starEach (e :: es) env = (false, eval e env) :: starEach es env) :
    EvOk W n sc vm (.Call (.Name x np) (e :: es) [] pos) (T.callv i f t p) := by
  rintro env A E s loc h Q st ⟨hi, q⟩
  refine wpAny_Call_NameR (hv.use ok st (Q' := fun v h1 => v = .ref f ∧ t loc h1 fun vs h1 => p vs h1 Q) ⟨_, hi, rfl, q⟩ fun v h0 hp0 tk0 q0 st0 S0 => ?_)
  obtain ⟨hv0, q0⟩ := q0
  obtain rfl := er_ref hv0
  refine Calls.callWith_function (o := o) (fd := fd) ?_
  have key : wpAny (model W.prog W.w) A (spliced (backTo pos (starEach (e :: es) env))) (fun vs s₁ => (s₁.heap.get? f = some o ∧ o.data = .func fd) ∧ wpAny (model W.prog W.w) A (call (.ref f) vs) (Res W h s Q) E s₁) E { s with heap := hp0, toks := tk0 } := by
    refine wpAny_mono (hes env A E _ loc h0 _ pos st0 q0) ?_ fun _ _ x => x
    rintro vs s' ⟨h1, hp1, tk1, rfl, S1, q1⟩
    have R1 := S1.rel ok st0.rel
    exact ⟨⟨R1.base _ _ ho, hod⟩, wpAny_mono (hp A E _ vs h1 Q st.cx R1 q1) (fun v s' r => Res.bind (tk := tk0) S0 (Res.bind (tk := tk1) S1 r)) fun _ _ x => x⟩
  rw [hs] at key ⊢
  exact Calls.evalArgs_plain key
end

/-! the call of a def: its frame, its body -/
theorem bindL_out {k : Str → Option NameKind} {x : Str} : ∀ {binds : List (Str × Value)} {m : Str → Option Value}, x ∉ binds.map (·.1) → bindL k binds m x = m x
  | [], _, _ => rfl
  | (y, v) :: r, m, h => by
    simp only [List.map_cons, List.mem_cons, not_or] at h
    unfold bindL
    rw [bindL_out h.2]
    split
    · exact if_neg h.1
    · rfl
theorem bindC_out {k : Str → Option NameKind} {x : Str} : ∀ {binds : List (Str × Value)} {m : Str → Option Value}, x ∉ binds.map (·.1) → bindC k binds m x = m x
  | [], _, _ => rfl
  | (y, v) :: r, m, h => by
    simp only [List.map_cons, List.mem_cons, not_or] at h
    unfold bindC
    rw [bindC_out h.2]
    split
    · rfl
    · exact if_neg h.1
theorem bindL_mem {k : Str → Option NameKind} {x : Str} {v : Value} (hk : k x = some .local) : ∀ {binds : List (Str × Value)} {m : Str → Option Value}, (binds.map (·.1)).Nodup → (x, v) ∈ binds → bindL k binds m x = some v
  | (y, u) :: r, m, hn, h => by
    simp only [List.map_cons, List.nodup_cons] at hn
    unfold bindL
    rcases List.mem_cons.mp h with e | h
    · cases e
      rw [bindL_out hn.1, if_pos hk, if_pos rfl]
    · exact bindL_mem hk hn.2 h
theorem bindC_mem {k : Str → Option NameKind} {x : Str} {v : Value} (hk : k x = some .cell) : ∀ {binds : List (Str × Value)} {m : Str → Option Value}, (binds.map (·.1)).Nodup → (x, v) ∈ binds → bindC k binds m x = some v
  | (y, u) :: r, m, hn, h => by
    simp only [List.map_cons, List.nodup_cons] at hn
    unfold bindC
    rcases List.mem_cons.mp h with e | h
    · cases e
      rw [bindC_out hn.1, if_neg (by rw [hk]; decide), if_pos rfl]
    · exact bindC_mem hk hn.2 h

structure FnAt (W : Wd) (f : Addr) (fd : FuncData) (body : List Stmt) : Prop where
  obj : ∃ o, W.h₀.get? f = some o ∧ o.data = .func fd
  code : W.h₀.CodeRec fd.code fd.qualname
  clo : fd.closure = []
  glo : fd.globals = mainGlobals
  blt : fd.builtins = builtinsNs
  bdy : fd.body = .stmts body
  knd : fd.scope.kind = .function
  cor : fd.scope.isCoroutine = false
  gen : fd.scope.isGenerator = false

def FnRet (Q : AV → AH → Prop) : Fl → Loc → AH → Prop := fun f _ h => match f with | .ret v => Q v h | _ => Q .none h

/-- the body's tree, run in a new frame -/
def fnT (fill : List AV → List AV) (t : ST) : List AV → AH → (AV → AH → Prop) → Prop := fun avs h Q => t (fun i => (fill avs)[i]?) h (FnRet Q)

theorem fn_core {W : Wd} (ok : WdOk W) {n : Nat} {f : Addr} {fd : FuncData} {body : List Stmt} {vm : VM} {t : ST} {names : List Str} (FA : FnAt W f fd body) (hb : BkOk W n fd.scope vm body t)
    (hvm : ∀ i x, vm i = some x → ∀ y, names[i]? = some y → x = y) (hnd : names.Nodup) (hkind : ∀ x ∈ names, fd.scope.names.lookup x = some .local ∨ fd.scope.names.lookup x = some .cell)
    {A : Around} {E : Value → Shared → Prop} {s : Shared} {args : Args} {vals : List Value} {h : AH} {Q : AV → AH → Prop} (cx : Cx (n + 1) A) (R : Rel W h s.heap)
    (hbind : ∀ s' : Shared, (∀ b o, W.h₀.get? b = some o → s'.heap.get? b = some o) → BindsTo s' fd args (names.zip vals)) (hlen : vals.length = names.length)
    (q : t (fun i => (vals.map er)[i]?) h (FnRet Q)) : codeAny (model W.prog W.w) A (.call (.ref f) args) (fun r s' => match r with | .ok (.ret v) => Res W h s Q v s' | .ok _ => False | .error e => E e s') s := by
  obtain ⟨o, ho, hd⟩ := FA.obj
  refine codeAny_call_function (by have := cx.dp; omega) (R.base _ _ ho) hd FA.cor FA.gen FA.bdy (FA.code.keeps R.base) (hbind s R.base _ _ _ _ ?_)
  have hfst : (names.zip vals).map (·.1) = names := List.map_fst_zip (by omega)
  rw [FA.clo, FA.glo, FA.blt]
  refine wpAny_newFunctionEnv_cells FA.knd (fun x hx => ?_) (fun env henv s' X => ?_)
  · have hm : x.1 ∈ names := by rw [← hfst]; exact List.mem_map_of_mem hx
    rcases hkind x.1 hm with e | e
    · exact .inl e
    · exact .inr ⟨e, cellsFrom_some _ _ _ (.inl e)⟩
  have keep := X.toInCall.keep
  refine ⟨(ok.nolimit.keeps R.base).keeps keep, codeAny_func ?_⟩
  obtain ⟨h1, tk1, rfl, -⟩ := X.done
  have R1 : Rel W h h1 := (Step.keeps R keep).rel ok R
  have hscope : env.scope = fd.scope := by rw [henv]; rfl
  have hloc : env.locals = s.heap.objs.size := by rw [henv]; rfl
  have hcells : env.cells = cellsFrom (s.heap.objs.size + 1) fd.scope.names [] := by rw [henv]; rfl
  have above : ∀ x c, env.cells.lookup x = some c → s.heap.objs.size < c := fun x c e => hloc ▸ X.above x c (mem_of_lookup e)
  have hnone : ∀ b, s.heap.objs.size ≤ b → h b = none := fun b hb' => by
    refine R.fresh ?_
    cases q : s.heap.get? b with
    | none => rfl
    | some o => exact absurd (Heap.lt_size q) (Nat.not_lt.mpr hb')
  have inb : ∀ i x av, vm i = some x → (vals.map er)[i]? = some av → ∃ v, (x, v) ∈ names.zip vals ∧ er v = av := by
    intro i x av h1 h2
    rw [List.getElem?_map] at h2
    obtain ⟨v, hv, rfl⟩ := Option.map_eq_some_iff.mp h2
    have hi : i < vals.length := by
      rcases Nat.lt_or_ge i vals.length with q | q
      · exact q
      · rw [List.getElem?_eq_none q] at hv; cases hv
    have hn : names[i]? = some names[i] := List.getElem?_eq_getElem (by omega)
    have := hvm i x h1 _ hn
    refine ⟨v, ?_, rfl⟩
    have hz : (names.zip vals)[i]? = some (names[i], v) := by
      rw [List.getElem?_zip_eq_some]; exact ⟨hn, hv⟩
    rw [this]; exact List.mem_of_getElem? hz
  have F : Frm W env vm (fun i => (vals.map er)[i]?) h h1 := by
    refine ⟨by rw [hscope]; exact FA.knd, by rw [henv]; rfl, by rw [henv]; rfl, by rw [hloc]; exact R.size, by rw [hloc]; exact hnone _ (Nat.le_refl _), ⟨_, X.toInCall.ns, fun i x av e1 e2 e3 => ?_⟩, fun x c e => ?_, fun i x av e1 e2 e3 => ?_, fun x y c e1 e2 => ?_, fun x e => ?_⟩
    · obtain ⟨v, hv, hev⟩ := inb i x av e1 e3
      exact ⟨v, bindL_mem e2 (by rw [hfst]; exact hnd) hv, hev⟩
    · have := above x c e
      exact ⟨Nat.le_trans R.size (Nat.le_of_lt this), hnone c (Nat.le_of_lt this), by rw [hloc]; exact Nat.ne_of_gt this, _, X.cell x c e⟩
    · obtain ⟨v, hv, hev⟩ := inb i x av e1 e3
      have hc : env.kindOf x = some .cell := by
        rcases e2 with e2 | e2
        · exact e2
        · have hm : x ∈ names := by rw [← hfst]; exact List.mem_map_of_mem hv
          unfold Env.kindOf at e2
          rw [hscope] at e2
          rcases hkind x hm with e | e <;> rw [e] at e2 <;> cases e2
      have hs : (env.cells.lookup x).isSome = true := by
        rw [hcells]; exact cellsFrom_some _ _ _ (.inl (by unfold Env.kindOf at hc; rw [hscope] at hc; exact hc))
      obtain ⟨c, hc'⟩ := Option.isSome_iff_exists.mp hs
      refine ⟨c, v, hc', ?_, hev⟩
      have := X.cell x c hc'
      rw [bindC_mem hc (by rw [hfst]; exact hnd) hv] at this
      exact this
    · exact name_of_addr X.apart (mem_of_lookup e1) (mem_of_lookup e2)
    · have hs : (env.cells.lookup x).isSome = true := by
        rw [hcells]; exact cellsFrom_some _ _ _ (.inl (by unfold Env.kindOf at e; rw [hscope] at e; exact e))
      exact Option.isSome_iff_exists.mp hs
  have st : St W n fd.scope vm env (A.deeper env) (fun i => (vals.map er)[i]?) h { s with heap := h1, toks := tk1 } := ⟨hscope, cx.deeper env, F, R1⟩
  refine wpAny_mono (hb env (A.deeper env) (fun _ _ => False) _ _ h _ st q) ?_ fun _ _ x => x.elim
  rintro fl s2 ⟨loc2, h2, hp2, tk2, rfl, S2, F2, q2⟩
  have hS : Step W h s.heap h2 hp2 := by
    refine ⟨S2.cells, fun b o e c => ?_, fun b e1 e2 => ?_, S2.dom⟩
    · refine S2.keep b o (keep b o e) ?_ c
      have hlt := Heap.lt_size e
      rintro (q | ⟨x, q⟩)
      · rw [q, hloc] at hlt; exact Nat.lt_irrefl _ hlt
      · exact Nat.lt_irrefl _ (Nat.lt_trans (above x b q) hlt)
    · obtain ⟨e3, e4⟩ := S2.fresh b e1 e2
      refine ⟨?_, e4⟩
      cases q : s.heap.get? b with
      | none => rfl
      | some o => have := keep b o q; rw [e3] at this; cases this
  cases fl with
  | ret v => exact ⟨h2, hp2, tk2, rfl, hS, q2⟩
  | next => exact ⟨h2, hp2, tk2, rfl, hS, q2⟩
  | brk => exact ⟨h2, hp2, tk2, rfl, hS, q2⟩
  | cont => exact ⟨h2, hp2, tk2, rfl, hS, q2⟩

/-- positional arguments that fill the parameters -/
theorem fn_ok {W : Wd} (ok : WdOk W) {n : Nat} {f : Addr} {fd : FuncData} {body : List Stmt} {vm : VM} {t : ST} {names : List Str} (FA : FnAt W f fd body) (hb : BkOk W n fd.scope vm body t)
    (hvm : ∀ i x, vm i = some x → ∀ y, names[i]? = some y → x = y) (hnd : names.Nodup) (hkind : ∀ x ∈ names, fd.scope.names.lookup x = some .local ∨ fd.scope.names.lookup x = some .cell)
    {fill : List AV → List AV} {vfill : List Value → List Value} {k : Nat}
    (hbind : ∀ (s : Shared) vs, vs.length = k → (∀ b o, W.h₀.get? b = some o → s.heap.get? b = some o) → BindsTo s fd ⟨vs, []⟩ (names.zip (vfill vs)))
    (hlen : ∀ vs, vs.length = k → (vfill vs).length = names.length) (her : ∀ vs, vs.length = k → (vfill vs).map er = fill (vs.map er)) :
    FOk W (n + 1) (.ref f) (fun avs h Q => avs.length = k ∧ fnT fill t avs h Q) := by
  rintro A E s vs h Q cx R ⟨hk, q⟩
  rw [List.length_map] at hk
  refine wpAny_call (fn_core ok FA hb hvm hnd hkind cx R (fun s' hs => hbind s' vs hk hs) (hlen vs hk) ?_)
  rw [her vs hk]; exact q

theorem fk_ok {W : Wd} (ok : WdOk W) {n : Nat} {f : Addr} {fd : FuncData} {body : List Stmt} {vm : VM} {t : ST} {names : List Str} {kn : Str} (FA : FnAt W f fd body) (hb : BkOk W n fd.scope vm body t)
    (hvm : ∀ i x, vm i = some x → ∀ y, names[i]? = some y → x = y) (hnd : names.Nodup) (hkind : ∀ x ∈ names, fd.scope.names.lookup x = some .local ∨ fd.scope.names.lookup x = some .cell)
    {fill : List AV → List AV} {vfill : List Value → List Value} {k : Nat}
    (hbind : ∀ (s : Shared) vs v, vs.length = k → (∀ b o, W.h₀.get? b = some o → s.heap.get? b = some o) → BindsTo s fd ⟨vs, [(kn, v)]⟩ (names.zip (vfill (vs ++ [v]))))
    (hlen : ∀ vs, vs.length = k + 1 → (vfill vs).length = names.length) (her : ∀ vs, vs.length = k + 1 → (vfill vs).map er = fill (vs.map er)) :
    FkOk W (n + 1) (.ref f) kn (fun avs h Q => avs.length = k + 1 ∧ fnT fill t avs h Q) := by
  rintro A E s vs v h Q cx R ⟨hk, q⟩
  rw [List.length_map] at hk
  have hk' : vs.length = k := by rw [List.length_append, List.length_singleton] at hk; omega
  refine wpAny_call (fn_core ok FA hb hvm hnd hkind cx R (fun s' hs => hbind s' vs v hk' hs) (hlen _ hk) ?_)
  rw [her _ hk]; exact q
end Mini

/-! MiniD -/
namespace Mini

theorem map_get? {vs : Array Value} {xs : List AV} (h : vs.toList.map er = xs) {i : Nat} {v : AV} (hx : xs[i]? = some v) : ∃ x, vs[i]? = some x ∧ er x = v := by
  rw [← h, List.getElem?_map] at hx
  obtain ⟨x, h1, h2⟩ := Option.map_eq_some_iff.mp hx
  exact ⟨x, by rw [← Array.getElem?_toList]; exact h1, h2⟩
theorem map_len {vs : Array Value} {xs : List AV} (h : vs.toList.map er = xs) : vs.size = xs.length := by rw [← h, List.length_map, Array.length_toList]

def sliceA (xs : List AV) : Option Int → Option Int → List AV
  | none, none => xs
  | some a, none => xs.drop a.toNat
  | none, some b => xs.take b.toNat
  | some a, some b => (xs.take b.toNat).drop a.toNat
def ge0 : Option Int → Prop
  | none => True
  | some a => 0 ≤ a

theorem slicePick_er {vs : Array Value} {xs : List AV} (h : vs.toList.map er = xs) {lo hi : Option Int} (h1 : ge0 lo) (h2 : ge0 hi) : (slicePick vs lo hi none).toList.map er = sliceA xs lo hi := by
  subst h
  cases lo with
  | none => cases hi with
    | none => rw [slicePick_all]; rfl
    | some b =>
      obtain ⟨k, rfl⟩ := Int.eq_ofNat_of_zero_le h2
      rw [show (some (k : Int) : Option Int) = some ((k : Nat) : Int) from rfl, slicePick_upto']
      simp [sliceA, List.map_take]
  | some a =>
    obtain ⟨j, rfl⟩ := Int.eq_ofNat_of_zero_le h1
    cases hi with
    | none => rw [slicePick_from']; simp [sliceA, List.map_drop]
    | some b =>
      obtain ⟨k, rfl⟩ := Int.eq_ofNat_of_zero_le h2
      rw [slicePick_plain]
      simp only [Option.elim, clipAt_nat, sliceA, Int.toNat_natCast]
      rw [List.map_take, List.map_drop]
      generalize hys : vs.toList.map er = ys
      have hsz : vs.size = ys.length := by rw [← hys, List.length_map, Array.length_toList]
      rw [hsz]
      apply List.ext_getElem?
      intro i
      rw [List.getElem?_take, List.getElem?_drop, List.getElem?_drop, List.getElem?_take]
      by_cases h3 : i < min k ys.length - min j ys.length
      · rw [if_pos h3, if_pos (by omega)]
        congr 1; omega
      · rw [if_neg h3]
        by_cases h4 : j + i < k
        · rw [if_pos h4, List.getElem?_eq_none (by omega)]
        · rw [if_neg h4]

namespace T
def idx (o i : ET) : ET := fun loc h Q => o loc h fun a h1 => i loc h1 fun k h2 => ∃ l xs x v, a = .ref l ∧ k = .int x ∧ h2 l = some (.list xs) ∧ 0 ≤ x ∧ x < 2 ^ 62 ∧ xs[x.toNat]? = some v ∧ Q v h2
def sliceF (B : Addr) (a : AV) (Q : AV → AH → Prop) (lo hi : Option Int) (h3 : AH) : Prop :=
  ∃ l xs, a = .ref l ∧ h3 l = some (.list xs) ∧ xs.length ≤ 2 ^ 20 ∧ ge0 lo ∧ ge0 hi ∧ New B h3 (.list (sliceA xs lo hi)) Q
def part (f : Option ET) (loc : Loc) (h : AH) (k : Option Int → AH → Prop) : Prop := match f with
  | Option.none => k Option.none h
  | some f => f loc h fun v h1 => ∃ x, v = .int x ∧ k (some x) h1
def slice (B : Addr) (o : ET) (lo hi : Option ET) : ET := fun loc h Q => o loc h fun a h1 => part lo loc h1 fun x h2 => part hi loc h2 fun y h3 => sliceF B a Q x y h3
-- a list in its place: l[i] = v
def setP (B : Addr) (a k v : AV) (h : AH) (Q : AH → Prop) : Prop :=
  ∃ l xs x, a = .ref l ∧ k = .int x ∧ h l = some (.list xs) ∧ B ≤ l ∧ 0 ≤ x ∧ x < xs.length ∧ xs.length ≤ 2 ^ 20 ∧ Q (upd h l (.list (xs.set x.toNat v)))
def setidx (B : Addr) (o i e : ET) : ST := fun loc h Q => e loc h fun v h1 => o loc h1 fun a h2 => i loc h2 fun k h3 => setP B a k v h3 fun h4 => Q .next loc h4
def augidx (B : Addr) (o i e : ET) : ST := fun loc h Q => o loc h fun a h1 => i loc h1 fun k h2 => ∃ l xs x y, a = .ref l ∧ k = .int x ∧ h2 l = some (.list xs) ∧ 0 ≤ x ∧ x < 2 ^ 62 ∧ xs[x.toNat]? = some (.int y) ∧
  e loc h2 fun v h3 => ∃ z, v = .int z ∧ setP B a k (.int (y + z)) h3 fun h4 => Q .next loc h4
end T

section
variable {W : Wd} (ok : WdOk W) {n : Nat} {sc : Scope} {vm : VM}

theorem sub_any {A : Around} {E : Value → Shared → Prop} {s : Shared} {P : Value → Shared → Prop} {value slice : Expr} {o i : Value} {T id : String} (hT : s.TypeIs o T)
    (hl : typeLookup (.type T) "__getitem__" = pure (some (.builtin id))) (hs : subscripted slice false o i = operate [o, i] (getItem o i) ∨ subscripted slice false o i = operate [i, o] (getItem o i))
    (h : wpAny (model W.prog W.w) A (getItem o i) P E s) :
    wpAny (model W.prog W.w) A (getitemInPython o >>= fun b => subscripted slice b o i >>= fun r => letTemporaryGo value o r >>= fun _ => pure r) P E s := by
  rw [getitemInPython_of_ne hT.not_modules]
  refine wpAny_bind (wpAny_bind (wpAny_specialOf hT hl (wpAny_pure ?_)))
  have h' : wpAny (model W.prog W.w) A (subscripted slice false o i) P E s := by
    rcases hs with e | e <;> rw [e] <;> exact wpAny_operating h
  exact wpAny_bind (wpAny_mono h' (fun r s' hr => wpAny_bind (wpAny_letTemporaryGo (wpAny_pure hr))) fun _ _ x => x)

theorem getItem_ok {A : Around} {E : Value → Shared → Prop} {s : Shared} {h : AH} {l : Addr} {xs : List AV} {x : Int} {t : Tok} {v : AV} {P : Value → Shared → Prop} (R : Rel W h s.heap)
    (hc : h l = some (.list xs)) (h0 : 0 ≤ x) (h1 : x < 2 ^ 62) (hx : xs[x.toNat]? = some v) (k : ∀ u, er u = v → P u s) :
    wpAny (model W.prog W.w) A (getItem (.ref l) (.int x t)) P E s := by
  obtain ⟨vs, hp, hm⟩ := R.cells l _ hc
  obtain ⟨u, hu, he⟩ := map_get? hm hx
  exact wpAny_getItem_list hp.isList h0 (Int.lt_trans h1 (by decide)) hu (k u he)

/-- a store into a plain list, by its index -/
theorem setItem_ok {A : Around} {E : Value → Shared → Prop} {s : Shared} {h : AH} {l : Addr} {xs : List AV} {x : Int} {t : Tok} {v : Value} {P : Unit → Shared → Prop} (R : Rel W h s.heap)
    (hc : h l = some (.list xs)) (hB : W.B ≤ l) (h0 : 0 ≤ x) (h1 : x < xs.length) (h2 : xs.length ≤ 2 ^ 20) (k : ∀ hp, Step W h s.heap (upd h l (.list (xs.set x.toNat (er v)))) hp → P () { s with heap := hp }) :
    wpAny (model W.prog W.w) A (setItem (.ref l) (.int x t) v) P E s := by
  obtain ⟨vs, hp, hm⟩ := R.cells l _ hc
  obtain ⟨m, ho⟩ := id hp
  have hsz := map_len hm
  have hT : s.TypeIs (.ref l) "list" := ⟨_, ho, rfl⟩
  have hfit : Builtin.List.listFitsIndex x = true := fitsIndex_of h0 (by omega)
  unfold setItem
  try with_reducible refine wpAny_holding ?_
  first | refine wpAny_bind (wpAny_pure ?_) | skip
  refine wpAny_bind (wpAny_sequenceKey hT (by decide) ?_)
  refine wpAny_bind (wpAny_callSpecial?_slot (name := Str.ofString "__setitem__") hT slot_list_setitem (wpAny_call_entry slot_list_setitem hT entry_list_setitem ?_ (args_list_setitem _ _ _)))
  show wpAny _ _ (Builtin.List.listSubscript? (.int x t) >>= _) _ _ s
  refine wpAny_bind (wpAny_listSubscript_int hfit ?_)
  clear hfit
  obtain ⟨j, rfl⟩ := Int.eq_ofNat_of_zero_le h0
  have hj : j < vs.size := by omega
  show wpAny _ _ ((seqItemAt l j >>= fun r => pure (r.map (j, ·))) >>= _) _ _ s
  refine wpAny_bind (wpAny_bind (wpAny_seqItemAt ho rfl (wpAny_pure ?_)))
  rw [Array.getElem?_eq_getElem hj]
  show wpAny _ _ (setSeqItemAt l j v >>= _) _ _ s
  refine wpAny_bind (wpAny_setSeqItemAt ho rfl ?_)
  have hnew : (s.heap.update l (Obj.mapSeq (·.setIfInBounds j v))).PlainList l (vs.setIfInBounds j v) := by
    refine ⟨m, ?_⟩
    rw [Heap.get?_update_self _ ho (by simp [Obj.mapSeq]; rfl)]
    simp [Obj.mapSeq]
  have hS : Step W h s.heap (upd h l (.list (xs.set j (er v)))) (s.heap.update l (Obj.mapSeq (·.setIfInBounds j v))) :=
    Step.set R hc hB (list_notTup hp) (Heap.SameBut.update ..) ⟨_, hnew, by rw [Array.toList_setIfInBounds, List.map_set, hm]⟩
  first
    | exact wpAny_bind (wpAny_pure (wpAny_pure ⟨.none, rfl, wpAny_pure (k _ hS)⟩))
    | exact wpAny_pure ⟨.none, rfl, wpAny_pure (k _ hS)⟩
include ok

theorem ev_idx {o i : Expr} {f g : ET} {pos : Pos} (ho : EvOk W n sc vm o f) (hi : EvOk W n sc vm i g) (hs : ∀ a b, subscripted i false a b = operate [a, b] (getItem a b)) :
    EvOk W n sc vm (.Subscript o i pos) (T.idx f g) := by
  intro env A E s loc h Q st q
  rw [arm_eval_Subscript]
  refine wpAny_bind (ho.use ok st q fun a h1 hp1 tk1 q1 st1 S1 => wpAny_bind (wpAny_holding (hi.use ok st1 q1 fun b h2 hp2 tk2 q2 st2 S2 => wpAny_bind (wpAny_standAt ?_))))
  obtain ⟨l, xs, x, v, ha, hb, hl, h0, hx1, hx, q3⟩ := q2
  obtain rfl := er_ref ha
  obtain ⟨t, rfl⟩ := er_int hb
  obtain ⟨vs, hp, hm⟩ := st2.rel.cells l _ hl
  refine sub_any hp.isList.typeIs slot_list_getitem.lookup (.inl (hs _ _)) (getItem_ok st2.rel hl h0 hx1 hx fun u hu => ?_)
  exact ⟨h2, hp2, tk2, rfl, S1.trans S2, by rw [hu]; exact q3⟩

theorem ex_setidx {o i e : Expr} {f g k : ET} {p pos : Pos} (ho : EvOk W n sc vm o f) (hi : EvOk W n sc vm i g) (he : EvOk W n sc vm e k) (hs : ∀ env : Env, env.scope = sc → swapsWith e (some (.Subscript o i p)) pos.line env = pure false) :
    ExOk W n sc vm (.Assign [.Subscript o i p] e pos) (T.setidx W.B f g k) := by
  intro env A E s loc h Q st q
  refine wpAny_Assign_Subscript (he.use ok st q fun v h1 hp1 tk1 q1 st1 S1 => ho.use ok st1 q1 fun a h2 hp2 tk2 q2 st2 S2 => hi.use ok st2 q2 fun b h3 hp3 tk3 q3 st3 S3 => ?_) (hs env st.sc)
  obtain ⟨l, xs, x, ha, hb, hl, hB, h0, hx1, hx2, q4⟩ := q3
  obtain rfl := er_ref ha
  obtain ⟨t, rfl⟩ := er_int hb
  refine setItem_ok st3.rel hl hB h0 hx1 hx2 fun hp S4 => ?_
  have S := ((S1.trans S2).trans S3).trans S4
  exact ⟨loc, _, hp, tk3, rfl, S.s, st.fr.step S, q4⟩

theorem ex_augidx {o i e : Expr} {f g k : ET} {p pos : Pos} (ho : EvOk W n sc vm o f) (hi : EvOk W n sc vm i g) (he : EvOk W n sc vm e k)
    (hs : ∀ ov iv new, augStore i ov iv new = (do holding [new, ov, iv] (setItem ov iv new); release [new, ov, iv] []; pure .next)) :
    ExOk W n sc vm (.AugAssign (.Subscript o i p) .Add e pos) (T.augidx W.B f g k) := by
  intro env A E s loc h Q st q
  refine wpAny_AugAssign_SubscriptAny (ho.use ok st q fun a h1 hp1 tk1 q1 st1 S1 => hi.use ok st1 q1 fun b h2 hp2 tk2 q2 st2 S2 => ?_) hs
  obtain ⟨l, xs, x, y, ha, hb, hl, h0, hx1, hx, q3⟩ := q2
  obtain rfl := er_ref ha
  obtain ⟨t, rfl⟩ := er_int hb
  refine getItem_ok st2.rel hl h0 hx1 hx fun u hu => ?_
  obtain ⟨tu, rfl⟩ := er_int hu
  refine he.use ok st2 q3 fun v h3 hp3 tk3 q4 st3 S3 => ?_
  obtain ⟨z, hz, l', xs', x', e1, e2, hl', hB, h0', hx1', hx2', q5⟩ := q4
  obtain ⟨tz, rfl⟩ := er_int hz
  cases e1
  cases e2
  refine wpAny_iadd_int ?_
  refine setItem_ok (s := { s with heap := hp3, toks := tk3 + 1 }) st3.rel hl' hB h0' hx1' hx2' fun hp S4 => ?_
  have S := ((S1.trans S2).trans S3).trans S4
  exact ⟨loc, _, hp, tk3 + 1, rfl, S.s, st.fr.step S, q5⟩

omit ok in
theorem ev_part {p : Option Expr} {f : Option ET} (hp : match p, f with | none, none => True | some e, some g => EvOk W n sc vm e g | _, _ => False) (ok : WdOk W) {env : Env} {A : Around} {E : Value → Shared → Prop} {s : Shared} {loc : Loc} {h : AH}
    {k : Option Int → AH → Prop} {P : Value → Shared → Prop} (st : St W n sc vm env A loc h s) (q : T.part f loc h k)
    (j : ∀ v x h1 hp tk, IsPart v x → k x h1 → St W n sc vm env A loc h1 { s with heap := hp, toks := tk } → Step W h s.heap h1 hp → P v { s with heap := hp, toks := tk }) :
    wpAny (model W.prog W.w) A (evalPart p env) P E s := by
  cases p with
  | none => cases f with
    | none => exact wpAny_evalPart_none (j _ none h s.heap s.toks .none q st (Step.refl st.rel))
    | some g => exact hp.elim
  | some e => cases f with
    | none => exact hp.elim
    | some g =>
      refine wpAny_evalPart_some (EvOk.use ok hp st q fun v h1 hp1 tk1 q1 st1 S1 => ?_)
      obtain ⟨x, hx, q2⟩ := q1
      obtain ⟨t, rfl⟩ := er_int hx
      exact j _ _ h1 hp1 tk1 (.int x t) q2 st1 S1

theorem ev_slice {o : Expr} {lo hi : Option Expr} {f : ET} {g k : Option ET} {p pos : Pos} (ho : EvOk W n sc vm o f)
    (hlo : match lo, g with | none, none => True | some e, some g => EvOk W n sc vm e g | _, _ => False)
    (hhi : match hi, k with | none, none => True | some e, some g => EvOk W n sc vm e g | _, _ => False) :
    EvOk W n sc vm (.Subscript o (.Slice lo hi none p) pos) (T.slice W.B f g k) := by
  intro env A E s loc h Q st q
  rw [arm_eval_Subscript]
  refine wpAny_bind (ho.use ok st q fun a h1 hp1 tk1 q1 st1 S1 => wpAny_bind (wpAny_holding ?_))
  refine wpAny_Slice (ev_part hlo ok st1 q1 fun vl x h2 hp2 tk2 pl q2 st2 S2 => ev_part hhi ok st2 q2 fun vu y h3 hp3 tk3 pu q3 st3 S3 => wpAny_evalPart_none ?_)
  obtain ⟨l, xs, ha, hl, hsz, hx, hy, q4⟩ := q3
  obtain rfl := er_ref ha
  obtain ⟨vs, hp, hm⟩ := st3.rel.cells l _ hl
  refine wpAny_bind (wpAny_standAt ?_)
  refine sub_any (hp.isList.push _).typeIs slot_list_getitem.lookup (.inr rfl) ?_
  have hvs := map_len hm
  refine wpAny_getItem_list_slice (hp.isList.push _) (Heap.IsSliceOf.new ..) pl pu .none (by simp) ?_ (by rw [hvs, sizeLine_eq]; omega)
  have Sp : Step W h3 hp3 h3 (hp3.push { cls := .type "slice", data := .fields #[vl, vu, .none] }) := Step.keeps st3.rel fun _ _ e => Heap.get?_push_of_some _ e
  have Rp := Sp.rel ok st3.rel
  refine ⟨_, _, tk3, rfl, (((S1.trans S2).trans S3).trans Sp).trans (Step.push (c := .list (sliceA xs x y)) Rp ⟨_, ⟨0, Heap.get?_push_size _ rfl⟩, slicePick_er hm hx hy⟩), ?_⟩
  exact q4 _ Rp.size (Rp.fresh (get_size_none _))
end

/-! operators on lists -/
namespace P
def addL (B : Addr) : Op := fun a b h Q => ∃ l m xs ys, a = .ref l ∧ b = .ref m ∧ h l = some (.list xs) ∧ h m = some (.list ys) ∧ xs.length + ys.length ≤ 2 ^ 20 ∧ New B h (.list (xs ++ ys)) Q
def mulL (B : Addr) : Op := fun a b h Q => ∃ l xs y, a = .ref l ∧ b = .int y ∧ h l = some (.list [xs]) ∧ 0 ≤ y ∧ y ≤ 2 ^ 20 ∧ New B h (.list (List.replicate y.toNat xs)) Q
end P

theorem joined_one (v : Value) (k : Nat) : ∀ acc : Array Value, (List.foldl (fun x1 x2 => x1 ++ x2) acc (List.replicate k #[v])).toList = acc.toList ++ List.replicate k v := by
  induction k with
  | zero => intro acc; simp
  | succ k ih => intro acc; rw [List.replicate_succ, List.foldl_cons, ih]; simp [List.replicate_succ]

section
variable {W : Wd} {n : Nat} (ok : WdOk W)
include ok
theorem op_addL : OpOk W n .Add (P.addL W.B) := by
  rintro A E s va vb h Q cx R ⟨l, m, xs, ys, ha, hb, hl, hm, hsz, q⟩
  obtain rfl := er_ref ha
  obtain rfl := er_ref hb
  obtain ⟨vs, ⟨k1, e1⟩, m1⟩ := R.cells l _ hl
  obtain ⟨us, ⟨k2, e2⟩, m2⟩ := R.cells m _ hm
  refine P.add_list (n := k1) (n2 := k2) e1 e2 ?_ (by rw [map_len m1, map_len m2, sizeLine_eq]; omega)
  exact ⟨_, _, s.toks, rfl, Step.push (c := .list (xs ++ ys)) R ⟨_, ⟨0, Heap.get?_push_size _ rfl⟩, by simp [m1, m2]⟩, q _ R.size (R.fresh (get_size_none _))⟩

theorem op_mulL : OpOk W n .Mult (P.mulL W.B) := by
  rintro A E s va vb h Q cx R ⟨l, x, y, ha, hb, hl, h0, h1, q⟩
  obtain rfl := er_ref ha
  obtain ⟨t, rfl⟩ := er_int hb
  obtain ⟨vs, ⟨k1, e1⟩, m1⟩ := R.cells l _ hl
  have hvs : ∃ v, vs = #[v] ∧ er v = x := by
    have hl1 := map_len m1
    obtain ⟨li⟩ := vs
    cases li with
    | nil => simp at m1
    | cons v r => cases r with
      | nil => exact ⟨v, rfl, by simpa using m1⟩
      | cons w r => simp at m1
  obtain ⟨v, rfl, hv⟩ := hvs
  refine wpAny_binaryOp_repeat_ref (T := "list") (U := "int") (by decide) ⟨_, e1, rfl⟩ (fun s' => typeIs_int s' y t) noFill_list_mul F.fills_int_mul F.slot_int_rmul repeat_list F.slot_int_index.lookup ?_
  refine call_meets F.slot_int_rmul (typeIs_int s y t) F.entry_int_rmul (F.args_int_rmul_2 _ _) (int___rmul___int_list y t l #[v] k1) ⟨e1, rfl, ⟨_, e1, rfl⟩, ?_⟩
  refine call_meets F.slot_list_mul ⟨_, e1, rfl⟩ F.entry_list_mul (F.args_list_mul_2 _ _)
    (AutoListH.list___mul___list_int_3 l #[v] k1 y t (by simp [Builtin.List.listFitsIndex]; omega) (by simp; omega) (by simp [Builtin.List.listTooLong, sizeLine]; omega)) ⟨e1, ?_⟩
  refine ⟨_, _, s.toks, rfl, Step.push (c := .list (List.replicate y.toNat x)) R ⟨_, ⟨0, Heap.get?_push_size _ rfl⟩, ?_⟩, q _ R.size (R.fresh (get_size_none _))⟩
  have : (if (#[v] : Array Value).isEmpty = true then 0 else y.toNat) = y.toNat := by simp
  rw [this, joined_one]
  simp [hv]
end
end Mini

/-! MiniE -/
namespace Mini

theorem ints_items {is : List Int} : ∀ {l : List Value}, l.map er = is.map AV.int → ∃ xs : List (Int × Tok), l = xs.map (fun p => Value.int p.1 p.2) ∧ xs.map (·.1) = is := by
  induction is with
  | nil => intro l h; cases l with
    | nil => exact ⟨[], rfl, rfl⟩
    | cons v r => simp at h
  | cons i is ih => intro l h; cases l with
    | nil => simp at h
    | cons v r =>
      simp only [List.map_cons, List.cons.injEq] at h
      obtain ⟨t, rfl⟩ := er_int h.1
      obtain ⟨xs, rfl, e⟩ := ih h.2
      exact ⟨(i, t) :: xs, rfl, by simp [e]⟩
theorem ints_array {vs : Array Value} {is : List Int} (h : vs.toList.map er = is.map AV.int) : ∃ xs : Array (Int × Tok), vs = intItems xs ∧ xs.toList.map (·.1) = is := by
  obtain ⟨xs, h1, h2⟩ := ints_items h
  refine ⟨xs.toArray, ?_, h2⟩
  apply Array.toList_inj.mp
  rw [h1]; simp [intItems]

namespace F
abbrev Fn := List AV → AH → (AV → AH → Prop) → Prop
def len : Fn := fun avs h Q => ∃ l xs, avs = [.ref l] ∧ h l = some (.list xs) ∧ xs.length < 2 ^ 24 ∧ Q (.int xs.length) h
def abs : Fn := fun avs h Q => ∃ x : Int, avs = [.int x] ∧ Q (.int x.natAbs) h
def max2 : Fn := fun avs h Q => ∃ x y, avs = [.int x, .int y] ∧ Q (.int (max x y)) h
def min2 : Fn := fun avs h Q => ∃ x y, avs = [.int x, .int y] ∧ Q (.int (min x y)) h
def maxL : Fn := fun avs h Q => ∃ l is, avs = [.ref l] ∧ h l = some (.list (is.map AV.int)) ∧ is ≠ [] ∧ ∀ M, M ∈ is → (∀ a, a ∈ is → a ≤ M) → Q (.int M) h
def minL : Fn := fun avs h Q => ∃ l is, avs = [.ref l] ∧ h l = some (.list (is.map AV.int)) ∧ is ≠ [] ∧ ∀ M, M ∈ is → (∀ a, a ∈ is → M ≤ a) → Q (.int M) h
def sum : Fn := fun avs h Q => ∃ l, ∃ is : List Int, avs = [.ref l] ∧ h l = some (.list (is.map AV.int)) ∧ Q (.int is.sum) h
def listOf (B : Addr) : Fn := fun avs h Q => ∃ l xs, avs = [.ref l] ∧ h l = some (.list xs) ∧ xs.length ≤ 2 ^ 20 ∧ New B h (.list xs) Q
def append (B : Addr) : Fn := fun avs h Q => ∃ l xs v, avs = [.ref l, v] ∧ h l = some (.list xs) ∧ B ≤ l ∧ xs.length < 2 ^ 20 ∧ Q .none (upd h l (.list (xs ++ [v])))
def insert (B : Addr) : Fn := fun avs h Q => ∃ l xs x v, avs = [.ref l, .int x, v] ∧ h l = some (.list xs) ∧ B ≤ l ∧ xs.length < 2 ^ 20 ∧ 0 ≤ x ∧ x ≤ xs.length ∧ Q .none (upd h l (.list (xs.take x.toNat ++ v :: xs.drop x.toNat)))
end F

theorem map1 {vs : List Value} {a : AV} (h : vs.map er = [a]) : ∃ v, vs = [v] ∧ er v = a := by
  cases vs with
  | nil => simp at h
  | cons v r => cases r with
    | nil => exact ⟨v, rfl, by simpa using h⟩
    | cons w r => simp at h
theorem map2 {vs : List Value} {a b : AV} (h : vs.map er = [a, b]) : ∃ v w, vs = [v, w] ∧ er v = a ∧ er w = b := by
  cases vs with
  | nil => simp at h
  | cons v r =>
    simp only [List.map_cons, List.cons.injEq] at h
    obtain ⟨w, rfl, hw⟩ := map1 h.2
    exact ⟨v, w, rfl, h.1, hw⟩
theorem map3 {vs : List Value} {a b c : AV} (h : vs.map er = [a, b, c]) : ∃ v w x, vs = [v, w, x] ∧ er v = a ∧ er w = b ∧ er x = c := by
  cases vs with
  | nil => simp at h
  | cons v r =>
    simp only [List.map_cons, List.cons.injEq] at h
    obtain ⟨w, x, rfl, hw⟩ := map2 h.2
    exact ⟨v, w, x, rfl, h.1, hw⟩

section
variable {W : Wd} {n : Nat} (ok : WdOk W)
include ok

theorem fo_len : FOk W n (.builtin "len") F.len := by
  rintro A E s vs h Q cx R ⟨l, xs, e, hl, hsz, q⟩
  obtain ⟨v, rfl, hv⟩ := map1 e
  obtain rfl := er_ref hv
  obtain ⟨us, hp, hm⟩ := R.cells l _ hl
  have := map_len hm
  refine Calls.call_len_list hp.isList (by omega) ⟨h, s.heap, s.toks + 1 + 1, rfl, Step.refl R, ?_⟩
  show Q (.int us.size) h
  rw [this]; exact q

theorem fo_abs : FOk W n (.builtin "abs") F.abs := by
  rintro A E s vs h Q cx R ⟨x, e, q⟩
  obtain ⟨v, rfl, hv⟩ := map1 e
  obtain ⟨t, rfl⟩ := er_int hv
  refine call_abs_int fun u tk => ⟨h, s.heap, tk, rfl, Step.refl R, ?_⟩
  have : (if x < 0 then -x else x) = (x.natAbs : Int) := by split <;> omega
  show Q (.int (if x < 0 then -x else x)) h
  rw [this]; exact q

theorem fo_max2 : FOk W n (.builtin "max") F.max2 := by
  rintro A E s vs h Q cx R ⟨x, y, e, q⟩
  obtain ⟨v, w, rfl, hv, hw⟩ := map2 e
  obtain ⟨t, rfl⟩ := er_int hv
  obtain ⟨u, rfl⟩ := er_int hw
  refine max_two_ints cx.hd fun h' tk hk => ⟨h, h', tk, rfl, Step.keeps R hk, ?_⟩
  have : er (if y > x then Value.int y u else Value.int x t) = .int (max x y) := by
    by_cases c : y > x
    · rw [if_pos c]; show AV.int y = _; congr 1; omega
    · rw [if_neg c]; show AV.int x = _; congr 1; omega
  rw [this]; exact q
theorem fo_min2 : FOk W n (.builtin "min") F.min2 := by
  rintro A E s vs h Q cx R ⟨x, y, e, q⟩
  obtain ⟨v, w, rfl, hv, hw⟩ := map2 e
  obtain ⟨t, rfl⟩ := er_int hv
  obtain ⟨u, rfl⟩ := er_int hw
  refine min_two_ints cx.hd fun h' tk hk => ⟨h, h', tk, rfl, Step.keeps R hk, ?_⟩
  have : er (if y < x then Value.int y u else Value.int x t) = .int (min x y) := by
    by_cases c : y < x
    · rw [if_pos c]; show AV.int y = _; congr 1; omega
    · rw [if_neg c]; show AV.int x = _; congr 1; omega
  rw [this]; exact q

theorem fo_maxL : FOk W n (.builtin "max") F.maxL := by
  rintro A E s vs h Q cx R ⟨l, is, e, hl, hne, q⟩
  obtain ⟨v, rfl, hv⟩ := map1 e
  obtain rfl := er_ref hv
  obtain ⟨us, hp, hm⟩ := R.cells l _ hl
  obtain ⟨xs, rfl, hx⟩ := ints_array hm
  have hlen : xs.size = is.length := by rw [← hx]; simp
  have hpos : 0 < xs.size := by rw [hlen]; exact List.length_pos_iff.mpr hne
  refine max_intList cx.hd hp.isList hpos fun v h' tk hv hk => ⟨h, h', tk, rfl, Step.keeps R hk, ?_⟩
  obtain ⟨t, rfl⟩ := intItems_at hv
  obtain ⟨h1, h2⟩ := argBest_gt (numAt xs) (xs.size - 1)
  refine q _ ?_ fun a ha => ?_
  · rw [numAt_eq, hx]; exact getD_mem (by omega)
  · obtain ⟨j, hj, rfl⟩ := mem_getD ha
    rw [← hx, ← numAt_eq]; exact h2 j (by omega)
theorem fo_minL : FOk W n (.builtin "min") F.minL := by
  rintro A E s vs h Q cx R ⟨l, is, e, hl, hne, q⟩
  obtain ⟨v, rfl, hv⟩ := map1 e
  obtain rfl := er_ref hv
  obtain ⟨us, hp, hm⟩ := R.cells l _ hl
  obtain ⟨xs, rfl, hx⟩ := ints_array hm
  have hlen : xs.size = is.length := by rw [← hx]; simp
  have hpos : 0 < xs.size := by rw [hlen]; exact List.length_pos_iff.mpr hne
  refine min_intList cx.hd hp.isList hpos fun v h' tk hv hk => ⟨h, h', tk, rfl, Step.keeps R hk, ?_⟩
  obtain ⟨t, rfl⟩ := intItems_at hv
  obtain ⟨h1, h2⟩ := argBest_lt (numAt xs) (xs.size - 1)
  refine q _ ?_ fun a ha => ?_
  · rw [numAt_eq, hx]; exact getD_mem (by omega)
  · obtain ⟨j, hj, rfl⟩ := mem_getD ha
    rw [← hx, ← numAt_eq]; exact h2 j (by omega)

theorem fo_sum : FOk W n (.builtin "sum") F.sum := by
  rintro A E s vs h Q cx R ⟨l, is, e, hl, q⟩
  obtain ⟨v, rfl, hv⟩ := map1 e
  obtain rfl := er_ref hv
  obtain ⟨us, hp, hm⟩ := R.cells l _ hl
  obtain ⟨xs, rfl, hx⟩ := ints_array hm
  refine sum_intListG cx.hd hp.isList fun h' tk t' hk => ⟨h, h', tk, rfl, Step.keeps R hk, ?_⟩
  show Q (.int (preSum (numAt xs) xs.size)) h
  rw [preSum_eq, List.take_of_length_le (by simp), hx]; exact q

theorem fo_list : FOk W n (.type "list") (F.listOf W.B) := by
  rintro A E s vs h Q cx R ⟨l, xs, e, hl, hsz, q⟩
  obtain ⟨v, rfl, hv⟩ := map1 e
  obtain rfl := er_ref hv
  obtain ⟨us, ⟨k, ho⟩, hm⟩ := R.cells l _ hl
  refine call_list_seq (T := "list") l (.inl rfl) ho rfl rfl (fun h' c' hk hnew => ?_) (by rw [map_len hm, sizeLine_eq]; omega)
  refine ⟨_, h', s.toks, rfl, Step.alloc R (get_size_none _) R.size hk (c := .list xs) ⟨us, ⟨c', hnew⟩, hm⟩, q _ R.size (R.fresh (get_size_none _))⟩

theorem fo_append : FOk W n (.builtin "list.append") (F.append W.B) := by
  rintro A E s vs h Q cx R ⟨l, xs, a, e, hl, hB, hsz, q⟩
  obtain ⟨v, w, rfl, hv, hw⟩ := map2 e
  obtain rfl := er_ref hv
  obtain ⟨us, hp, hm⟩ := R.cells l _ hl
  refine wpAny_list_append_plain hp (fun h' hp' hs => ⟨_, h', s.toks, rfl, Step.set R hl hB (list_notTup hp) hs (c' := .list (xs ++ [a])) ⟨_, hp', ?_⟩, q⟩) (by rw [map_len hm, sizeLine_eq]; omega)
  simp [hm, hw]

theorem fo_insert : FOk W n (.builtin "list.insert") (F.insert W.B) := by
  rintro A E s vs h Q cx R ⟨l, xs, x, a, e, hl, hB, hsz, h0, h1, q⟩
  obtain ⟨v, w, u, rfl, hv, hw, hu⟩ := map3 e
  obtain rfl := er_ref hv
  obtain ⟨t, rfl⟩ := er_int hw
  obtain ⟨us, hp, hm⟩ := R.cells l _ hl
  obtain ⟨k, ho⟩ := id hp
  have hlen := map_len hm
  refine call_meets F.slot_list_insert ⟨_, ho, rfl⟩ F.entry_list_insert (F.args_list_insert_3 _ _ _)
    (AutoSeq1.list_insert_list_int_val_1 l us k x t u (by simp [Builtin.List.listFitsIndex]; omega) (by rw [hlen, sizeLine_eq]; omega)) ⟨ho, ?_⟩
  refine ⟨_, _, s.toks, rfl, Step.set R hl hB (list_notTup hp) (Heap.SameBut.update ..) (c' := .list (xs.take x.toNat ++ a :: xs.drop x.toNat)) ?_, q⟩
  have hx : ¬ x < 0 := by omega
  have hk : min x.toNat us.size = x.toNat := by omega
  refine ⟨(us.extract 0 x.toNat).push u ++ us.extract x.toNat, ?_, ?_⟩
  · have hz : ((us.extract 0 x.toNat).push u ++ us.extract x.toNat).size = us.size + 1 := by simp; omega
    refine ⟨k + 1, ?_⟩
    rw [Heap.get?_update_self _ ho (by simp only [Obj.mapSeq]; rfl)]
    simp only [Obj.mapSeq, if_neg hx, hk]
    rw [if_neg (by rw [hz]; simp)]
  · have e2 : ((us.extract 0 x.toNat).push u ++ us.extract x.toNat).toList = us.toList.take x.toNat ++ u :: us.toList.drop x.toNat := by
      simp
      exact List.take_of_length_le (by simp)
    rw [e2]
    simp [hm, hu, List.map_take, List.map_drop]
end
end Mini

/-! MiniF -/
namespace Mini

/-! methods -/
namespace T
def meth (f : ET) (t : EsT) (p : F.Fn) : ET := fun loc h Q => f loc h fun a h1 => (∃ l xs, a = .ref l ∧ h1 l = some (.list xs)) ∧ t loc h1 fun vs h2 => p (a :: vs) h2 Q
end T

section
variable {W : Wd} (ok : WdOk W) {n : Nat} {sc : Scope} {vm : VM}
include ok
theorem ev_meth {o : Expr} {name : Str} {id : String} {apos pos : Pos} {e : Expr} {es : List Expr} {f : ET} {t : EsT} {p : F.Fn} (slot : Slot "list" name id) (hty : typeOf (.builtin id) = pure (.type "method_descriptor"))
    (hbase : ∀ env, attributeBase o name env (eval o env) = eval o env)
    (hfew : ∀ env, ((backTo pos (starEach (e :: es) env)).all (fun x => !x.1) && (backToKw pos (keywordEach [] env)).all (fun x => x.1.isSome)
      && decide ((e :: es).length + ([] : List Keyword).length + (if ([] : List Keyword).isEmpty then 0 else 1) < 30)) = true)
    (hline : (apos.endLine == pos.line) = true) (ho : EvOk W n sc vm o f) (hes : EsOk W n sc vm (e :: es) t) (hp : FOk W n (.builtin id) p)
    (hs : ∀ env, starEach (e :: es) env = (false, eval e env) :: starEach es env) (hpl : ∀ env pos, (backTo pos (starEach es env)).any (·.1) = false) :
    EvOk W n sc vm (.Call (.Attribute o name apos) (e :: es) [] pos) (T.meth f t p) := by
  intro env A E s loc h Q st q
  refine wpAny_Call_method (T := "list") (id := id) (hbase env) (hfew env) hline F.plainAttrs_list slot hty (ho.use ok st q fun a h1 hp1 tk1 q1 st1 S1 => ?_)
  obtain ⟨⟨l, xs, ha, hl⟩, q1⟩ := q1
  obtain rfl := er_ref ha
  obtain ⟨vs, ⟨k, ho1⟩, hm⟩ := st1.rel.cells l _ hl
  refine ⟨⟨_, ho1, rfl⟩, fun a e => by cases e; exact ⟨_, ho1, rfl⟩, ?_⟩
  have hany : (backTo pos (starEach (e :: es) env)).any (·.1) = false := by
    rw [hs]
    show (false || (backTo pos (starEach es env)).any (·.1)) = false
    rw [hpl]; rfl
  refine Calls.callWith_builtin hany ?_
  have key : wpAny (model W.prog W.w) A (spliced (backTo pos (starEach (e :: es) env))) (fun vs s₁ => wpAny (model W.prog W.w) A (call (.builtin id) (.ref l :: vs)) (Res W h s Q) E s₁) E { s with heap := hp1, toks := tk1 } := by
    refine wpAny_mono (hes env A E _ loc h1 _ pos st1 q1) ?_ fun _ _ x => x
    rintro vs s' ⟨h2, hp2, tk2, rfl, S2, q2⟩
    exact wpAny_mono (hp A E _ (.ref l :: vs) h2 Q st.cx (S2.rel ok st1.rel) q2) (fun v s' r => Res.bind (tk := tk1) S1 (Res.bind (tk := tk2) S2 r)) fun _ _ x => x
  rw [hs] at key ⊢
  exact Calls.evalArgs_plain key
end

/-! iterators -/
inductive Src where
  | list (a : Addr)
  | tup (a : Addr)
  | range (lo step : Int) (n : Nat)

def rangeL (lo step : Int) (n : Nat) : List Int := (List.range n).map fun (i : Nat) => lo + (i : Int) * step
def Src.items : Src → AH → Option (List AV)
  | .list a, h => match h a with | some (.list xs) => some xs | _ => none
  | .tup a, h => match h a with | some (.tup xs) => some xs | _ => none
  | .range lo step n, _ => some ((rangeL lo step n).map AV.int)

def ItAt : Src → Heap → Addr → Nat → Prop
  | .list a, hp, it, i => hp.IsListIter it a i
  | .tup a, hp, it, i => hp.IsTupleIter it a i
  | .range lo step n, hp, it, i => i ≤ n ∧ IsRangeIter hp it (lo + (i : Int) * step) ((n : Int) - i) step

theorem ItAt.mono {src : Src} {hp hp' : Heap} {it : Addr} {i : Nat} (x : ItAt src hp it i) (k : ∀ o, hp.get? it = some o → hp'.get? it = some o) : ItAt src hp' it i := by
  cases src with
  | list a => obtain ⟨o, ho, r⟩ := x; exact ⟨o, k o ho, r⟩
  | tup a => obtain ⟨o, ho, r⟩ := x; exact ⟨o, k o ho, r⟩
  | range lo st n => exact ⟨x.1, k _ x.2⟩
theorem ItAt.obj {src : Src} {hp : Heap} {it : Addr} {i : Nat} (x : ItAt src hp it i) : ∃ o, hp.get? it = some o ∧ ¬ IsTupO o := by
  cases src with
  | list a => obtain ⟨o, ho, r, _⟩ := x; exact ⟨o, ho, fun q => by rw [q.1] at r; exact absurd r (by decide)⟩
  | tup a => obtain ⟨o, ho, r, _⟩ := x; exact ⟨o, ho, fun q => by rw [q.1] at r; exact absurd r (by decide)⟩
  | range lo st n => exact ⟨_, x.2, fun q => absurd (Value.type.inj q.1) (by decide)⟩

section
variable {W : Wd} {n : Nat}

theorem next_ok {A : Around} {E : Value → Shared → Prop} {s : Shared} {h : AH} {src : Src} {it : Addr} {i : Nat} {xs : List AV} {P : Option Value → Shared → Prop} (cx : Cx n A) (R : ∀ a c, h a = some c → CellAt W s.heap a c)
    (hi : ItAt src s.heap it i) (hx : src.items h = some xs)
    (kn : xs[i]? = none → ∀ hp, Heap.ExtBut it s.heap hp → P none { s with heap := hp })
    (ks : ∀ av, xs[i]? = some av → ∀ v hp tk, er v = av → ItAt src hp it (i + 1) → Heap.ExtBut it s.heap hp → P (some v) { s with heap := hp, toks := tk }) :
    wpAny (model W.prog W.w) A (pyNext (.ref it)) P E s := by
  cases src with
  | list a =>
    have ⟨ys, hy⟩ : ∃ ys, h a = some (.list ys) := by
      simp only [Src.items] at hx; split at hx
      · exact ⟨_, by assumption⟩
      · cases hx
    have : ys = xs := by simp only [Src.items, hy] at hx; exact Option.some.inj hx
    subst this
    obtain ⟨vs, hp, hm⟩ := R a _ hy
    cases hq : ys[i]? with
    | none =>
      refine wpAny_pyNext_list_end cx.hd hi hp.isList ?_ fun h' e => kn hq h' e
      rw [Array.getElem?_eq_none_iff, map_len hm]; exact List.getElem?_eq_none_iff.mp hq
    | some av =>
      obtain ⟨v, hv, he⟩ := map_get? hm hq
      exact wpAny_pyNext_list_item hi hp.isList hv fun h' hi' hs => ks av hq v h' s.toks he hi' hs.extBut
  | tup a =>
    have ⟨ys, hy⟩ : ∃ ys, h a = some (.tup ys) := by
      simp only [Src.items] at hx; split at hx
      · exact ⟨_, by assumption⟩
      · cases hx
    have : ys = xs := by simp only [Src.items, hy] at hx; exact Option.some.inj hx
    subst this
    obtain ⟨vs, hp, hm⟩ := R a _ hy
    cases hq : ys[i]? with
    | none =>
      refine wpAny_pyNext_tuple_end cx.hd hi hp.isTuple ?_ fun h' e => kn hq h' e
      rw [Array.getElem?_eq_none_iff, map_len hm]; exact List.getElem?_eq_none_iff.mp hq
    | some av =>
      obtain ⟨v, hv, he⟩ := map_get? hm hq
      exact wpAny_pyNext_tuple_item hi hp.isTuple hv fun h' hi' hs => ks av hq v h' s.toks he hi' hs.extBut
  | range lo step k =>
    obtain rfl : (rangeL lo step k).map AV.int = xs := Option.some.inj hx
    obtain ⟨hik, hit⟩ := hi
    have hlen : ((rangeL lo step k).map AV.int).length = k := by simp [rangeL]
    by_cases hlt : i < k
    · refine wpAny_pyNext_range_item hit (by omega) fun h' hi' hs => ks (.int (lo + (i : Int) * step)) ?_ _ h' _ rfl ⟨by omega, ?_⟩ hs.extBut
      · simp [rangeL, hlt]
      · have e1 : lo + ((i + 1 : Nat) : Int) * step = lo + (i : Int) * step + step := by rw [Int.natCast_add, Int.add_mul]; simp; omega
        have e2 : (k : Int) - ((i + 1 : Nat) : Int) = (k : Int) - i - 1 := by omega
        rw [e1, e2]; exact hi'
    · refine wpAny_pyNext_range_end cx.hd hit (by omega) fun h' e => kn ?_ h' e
      rw [List.getElem?_eq_none_iff, hlen]; omega
end

/-! what changes an object that is no cell -/
theorem Frm.ext {W : Wd} {env : Env} {vm : VM} {loc : Loc} {h : AH} {hp hp' : Heap} {it : Addr} (F : Frm W env vm loc h hp) (e : Heap.ExtBut it hp hp') (hn : ¬ Own env it) : Frm W env vm loc h hp' := by
  have h1 : env.locals ≠ it := fun q => hn (.inl q.symm)
  have h2 : ∀ x c, env.cells.lookup x = some c → c ≠ it := fun x c q r => hn (.inr ⟨x, r ▸ q⟩)
  obtain ⟨m, hm, hm2⟩ := F.ns
  refine ⟨F.hk, F.hg, F.hb, F.LB, F.nL, ⟨m, hm.extBut e h1, hm2⟩, fun x c q => ?_, fun i x av q1 q2 q3 => ?_, F.ap, F.hc⟩
  · obtain ⟨a1, a2, a3, v, o, ho, hv⟩ := F.cl x c q; exact ⟨a1, a2, a3, v, o, e c o (h2 x c q) ho, hv⟩
  · obtain ⟨c, v, q4, ⟨o, ho, hv⟩, q5⟩ := F.cv i x av q1 q2 q3
    exact ⟨c, v, q4, ⟨o, e c o (h2 x c q4) ho, hv⟩, q5⟩

theorem cells_ext {W : Wd} {h : AH} {hp hp' : Heap} {it : Addr} (R : ∀ a c, h a = some c → CellAt W hp a c) (e : Heap.ExtBut it hp hp') (hn : h it = none) (ht : ∀ o, hp.get? it = some o → ¬ IsTupO o) :
    ∀ a c, h a = some c → CellAt W hp' a c := fun a c q =>
  (R a c q).mono (fun o => e a o (fun r => by rw [r, hn] at q; cases q)) (fun b o h1 h2 => e b o (fun r => ht o (r ▸ h1) h2) h1)

theorem SStep.ext {W : Wd} {env : Env} {h0 h : AH} {hp0 hp hp' : Heap} {it : Addr} (S : SStep W env h0 hp0 h hp) (e : Heap.ExtBut it hp hp') (hn : h it = none) (h0n : hp0.get? it = none)
    (ht : ∀ o, hp.get? it = some o → ¬ IsTupO o) : SStep W env h0 hp0 h hp' :=
  ⟨cells_ext S.cells e hn ht, fun b o q1 q2 q3 => e b o (fun r => by rw [r, h0n] at q1; cases q1) (S.keep b o q1 q2 q3), S.fresh, S.dom⟩
theorem Step.ext {W : Wd} {h0 h : AH} {hp0 hp hp' : Heap} {it : Addr} (S : Step W h0 hp0 h hp) (e : Heap.ExtBut it hp hp') (hn : h it = none) (h0n : hp0.get? it = none)
    (ht : ∀ o, hp.get? it = some o → ¬ IsTupO o) : Step W h0 hp0 h hp' :=
  ⟨cells_ext S.cells e hn ht, fun b o q1 q3 => e b o (fun r => by rw [r, h0n] at q1; cases q1) (S.keep b o q1 q3), S.fresh, S.dom⟩

/-! what a for runs over -/
abbrev ItT := Loc → AH → (Src → AH → Prop) → Prop
def ItRes (W : Wd) (h : AH) (s : Shared) (Q : Src → AH → Prop) : Value → Shared → Prop :=
  fun v s' => ∃ src I h' hp tk, v = .ref I ∧ s' = { s with heap := hp, toks := tk } ∧ Step W h s.heap h' hp ∧ s.heap.get? I = none ∧ h' I = none ∧ W.B ≤ I ∧ ItAt src hp I 0 ∧ Q src h'
def ItOk (W : Wd) (n : Nat) (sc : Scope) (vm : VM) (e : Expr) (t : ItT) : Prop :=
  ∀ env A E s loc h Q, St W n sc vm env A loc h s → t loc h Q → wpAny (model W.prog W.w) A (eval e env) (fun x s1 => wpAny (model W.prog W.w) A (pyIter x) (ItRes W h s Q) E s1) E s

namespace T
def itL (f : ET) : ItT := fun loc h Q => f loc h fun v h1 => ∃ a xs, v = .ref a ∧ h1 a = some (.list xs) ∧ Q (.list a) h1
def itT (f : ET) : ItT := fun loc h Q => f loc h fun v h1 => ∃ a xs, v = .ref a ∧ h1 a = some (.tup xs) ∧ Q (.tup a) h1
def small (x : Int) : Prop := -(2 ^ 40) ≤ x ∧ x ≤ 2 ^ 40
def itR1 (f : EsT) : ItT := fun loc h Q => f loc h fun vs h1 => ∃ b, vs = [.int b] ∧ small b ∧ Q (.range 0 1 b.toNat) h1
def itR2 (f : EsT) : ItT := fun loc h Q => f loc h fun vs h1 => ∃ a b, vs = [.int a, .int b] ∧ small a ∧ small b ∧ Q (.range a 1 (b - a).toNat) h1
-- downwards by one
def itRd (f : EsT) : ItT := fun loc h Q => f loc h fun vs h1 => ∃ a b, vs = [.int a, .int b, .int (-1)] ∧ small a ∧ small b ∧ Q (.range a (-1) (a - b).toNat) h1
end T

theorem small_fits {x : Int} (h : T.small x) : Builtin.Range.rangeFitsLong x = true := by
  obtain ⟨h1, h2⟩ := h
  unfold Builtin.Range.rangeFitsLong
  simp only [Bool.and_eq_true, decide_eq_true_eq]
  omega

section
variable {W : Wd} (ok : WdOk W) {n : Nat} {sc : Scope} {vm : VM}
include ok

theorem it_list {e : Expr} {f : ET} (he : EvOk W n sc vm e f) : ItOk W n sc vm e (T.itL f) := by
  intro env A E s loc h Q st q
  refine he.use ok st q fun v h1 hp1 tk1 q1 st1 S1 => ?_
  obtain ⟨a, xs, hv, ha, q2⟩ := q1
  obtain rfl := er_ref hv
  obtain ⟨vs, hp, hm⟩ := st1.rel.cells a _ ha
  refine wpAny_pyIter_list hp.isList ?_
  exact ⟨.list a, hp1.objs.size, h1, _, tk1, rfl, rfl, S1.trans (Step.keeps st1.rel fun _ _ e => Heap.get?_push_of_some _ e), S1.free (get_size_none _) (st1.rel.fresh (get_size_none _)), st1.rel.fresh (get_size_none _), st1.rel.size,
    ⟨_, Heap.get?_push_size _ rfl, rfl, rfl⟩, q2⟩

theorem it_tup {e : Expr} {f : ET} (he : EvOk W n sc vm e f) : ItOk W n sc vm e (T.itT f) := by
  intro env A E s loc h Q st q
  refine he.use ok st q fun v h1 hp1 tk1 q1 st1 S1 => ?_
  obtain ⟨a, xs, hv, ha, q2⟩ := q1
  obtain rfl := er_ref hv
  obtain ⟨vs, hp, hm⟩ := st1.rel.cells a _ ha
  refine wpAny_pyIter_tuple hp.isTuple ?_
  exact ⟨.tup a, hp1.objs.size, h1, _, tk1, rfl, rfl, S1.trans (Step.keeps st1.rel fun _ _ e => Heap.get?_push_of_some _ e), S1.free (get_size_none _) (st1.rel.fresh (get_size_none _)), st1.rel.fresh (get_size_none _), st1.rel.size,
    ⟨_, Heap.get?_push_size _ rfl, rfl, rfl⟩, q2⟩

omit ok in
theorem range_it {A : Around} {E : Value → Shared → Prop} {s : Shared} {h h1 : AH} {hp : Heap} {tk : Nat} {Q : Src → AH → Prop} {r : Addr} {a b c : Int} {t u v : Tok} {k : Nat} (R : Rel W h1 hp) (S : Step W h s.heap h1 hp)
    (hr : IsRange hp r a b c t u v) (hs : Builtin.Range.small a b c = true) (hk : Builtin.Range.rangeSize a b c = (k : Int)) (q : Q (.range a c k) h1) :
    wpAny (model W.prog W.w) A (pyIter (.ref r)) (ItRes W h s Q) E { s with heap := hp, toks := tk } := by
  refine wpAny_pyIter_range hr hs ?_
  exact ⟨.range a c k, hp.objs.size, h1, _, tk, rfl, rfl, S.trans (Step.keeps R fun _ _ e => Heap.get?_push_of_some _ e), S.free (get_size_none _) (R.fresh (get_size_none _)), R.fresh (get_size_none _), R.size,
    ⟨Nat.zero_le _, by show Heap.get? (hp.push _) hp.objs.size = _; rw [Heap.get?_push_size _ rfl, hk]; simp⟩, q⟩

theorem it_range1 {x : Str} {np pos : Pos} {e : Expr} {f : EsT} (g : GlobAt W x (.type "range")) (hx : sc.names.lookup x = some .globalImplicit) (hd : (x == ("__debug__" : Str)) = false) (hes : EsOk W n sc vm [e] f)
    (hs : ∀ env, starEach [e] env = (false, eval e env) :: starEach [] env) : ItOk W n sc vm (.Call (.Name x np) [e] [] pos) (T.itR1 f) := by
  intro env A E s loc h Q st q
  refine wpAny_Call_NameR (glob_name g st hx hd ?_)
  refine PyProof.Rows.callWith_type (by rw [hs]; rfl) ?_
  have key := hes env A E s loc h _ pos st q
  rw [hs] at key ⊢
  refine Calls.evalArgs_plain (wpAny_mono key ?_ fun _ _ x => x)
  rintro vs s' ⟨h1, hp1, tk1, rfl, S1, b, e, hb, q1⟩
  obtain ⟨v, rfl, hv⟩ := map1 e
  obtain ⟨t, rfl⟩ := er_int hv
  have st1 : St W n sc vm env A loc h1 { s with heap := hp1, toks := tk1 } := st.step ok S1
  refine call_range_1 ?_
  have Sp : Step W h1 hp1 h1 (hp1.push { cls := .type "range", data := .fields #[.int 0 tk1, .int b t, .int 1 (tk1 + 1)] }) := Step.keeps st1.rel fun _ _ e => Heap.get?_push_of_some _ e
  refine range_it (Sp.rel ok st1.rel) (S1.trans Sp) (a := 0) (b := b) (c := 1) (Heap.get?_push_size _ rfl) ?_ ?_ q1
  · obtain ⟨h1, h2⟩ := hb
    unfold Builtin.Range.small Builtin.Range.rangeSize Builtin.Range.rangeFitsLong
    simp; split <;> (try simp) <;> omega
  · unfold Builtin.Range.rangeSize; simp; split <;> omega

theorem it_range2 {x : Str} {np pos : Pos} {e e2 : Expr} {f : EsT} (g : GlobAt W x (.type "range")) (hx : sc.names.lookup x = some .globalImplicit) (hd : (x == ("__debug__" : Str)) = false) (hes : EsOk W n sc vm [e, e2] f)
    (hs : ∀ env, starEach [e, e2] env = (false, eval e env) :: starEach [e2] env) (hs2 : ∀ env, starEach [e2] env = [(false, eval e2 env)]) : ItOk W n sc vm (.Call (.Name x np) [e, e2] [] pos) (T.itR2 f) := by
  intro env A E s loc h Q st q
  refine wpAny_Call_NameR (glob_name g st hx hd ?_)
  refine PyProof.Rows.callWith_type (by rw [hs, hs2]; rfl) ?_
  have key := hes env A E s loc h _ pos st q
  rw [hs] at key ⊢
  refine Calls.evalArgs_plain (wpAny_mono key ?_ fun _ _ x => x)
  rintro vs s' ⟨h1, hp1, tk1, rfl, S1, a, b, e, ha, hb, q1⟩
  obtain ⟨v, w, rfl, hv, hw⟩ := map2 e
  obtain ⟨t, rfl⟩ := er_int hv
  obtain ⟨u, rfl⟩ := er_int hw
  have st1 : St W n sc vm env A loc h1 { s with heap := hp1, toks := tk1 } := st.step ok S1
  refine call_range_2 ?_
  have Sp : Step W h1 hp1 h1 (hp1.push { cls := .type "range", data := .fields #[.int a t, .int b u, .int 1 tk1] }) := Step.keeps st1.rel fun _ _ e => Heap.get?_push_of_some _ e
  refine range_it (Sp.rel ok st1.rel) (S1.trans Sp) (a := a) (b := b) (c := 1) (Heap.get?_push_size _ rfl) ?_ ?_ q1
  · obtain ⟨h1, h2⟩ := hb
    obtain ⟨h3, h4⟩ := ha
    unfold Builtin.Range.small Builtin.Range.rangeSize Builtin.Range.rangeFitsLong
    simp; split <;> (try simp) <;> omega
  · unfold Builtin.Range.rangeSize; simp; split <;> omega

theorem it_rangeD {x : Str} {np pos : Pos} {e e2 e3 : Expr} {f : EsT} (g : GlobAt W x (.type "range")) (hx : sc.names.lookup x = some .globalImplicit) (hd : (x == ("__debug__" : Str)) = false) (hes : EsOk W n sc vm [e, e2, e3] f)
    (hs : ∀ env, starEach [e, e2, e3] env = (false, eval e env) :: starEach [e2, e3] env) (hs2 : ∀ env, starEach [e2, e3] env = [(false, eval e2 env), (false, eval e3 env)]) : ItOk W n sc vm (.Call (.Name x np) [e, e2, e3] [] pos) (T.itRd f) := by
  intro env A E s loc h Q st q
  refine wpAny_Call_NameR (glob_name g st hx hd ?_)
  refine PyProof.Rows.callWith_type (by rw [hs, hs2]; rfl) ?_
  have key := hes env A E s loc h _ pos st q
  rw [hs] at key ⊢
  refine Calls.evalArgs_plain (wpAny_mono key ?_ fun _ _ x => x)
  rintro vs s' ⟨h1, hp1, tk1, rfl, S1, a, b, e, ha, hb, q1⟩
  obtain ⟨v, w, z, rfl, hv, hw, hz⟩ := map3 e
  obtain ⟨t, rfl⟩ := er_int hv
  obtain ⟨u, rfl⟩ := er_int hw
  obtain ⟨y, rfl⟩ := er_int hz
  have st1 : St W n sc vm env A loc h1 { s with heap := hp1, toks := tk1 } := st.step ok S1
  refine call_range_3 (by decide) ?_ (.inl (PyProof.noPylong_small (by decide)))
  have Sp : Step W h1 hp1 h1 (hp1.push { cls := .type "range", data := .fields #[.int a t, .int b u, .int (-1) y] }) := Step.keeps st1.rel fun _ _ e => Heap.get?_push_of_some _ e
  refine range_it (Sp.rel ok st1.rel) (S1.trans Sp) (a := a) (b := b) (c := -1) (Heap.get?_push_size _ rfl) ?_ ?_ q1
  · obtain ⟨h1, h2⟩ := hb
    obtain ⟨h3, h4⟩ := ha
    unfold Builtin.Range.small Builtin.Range.rangeSize Builtin.Range.rangeFitsLong
    simp; split <;> (try simp) <;> omega
  · unfold Builtin.Range.rangeSize; simp; split <;> omega
end
end Mini

/-! MiniG -/
namespace Mini

abbrev AsT := AV → Loc → AH → (Loc → AH → Prop) → Prop
def AsRes (W : Wd) (env : Env) (vm : VM) (h : AH) (s : Shared) (Q : Loc → AH → Prop) : Unit → Shared → Prop :=
  fun _ s' => ∃ loc' h' hp tk, s' = { s with heap := hp, toks := tk } ∧ SStep W env h s.heap h' hp ∧ Frm W env vm loc' h' hp ∧ Q loc' h'
def AsOk (W : Wd) (n : Nat) (sc : Scope) (vm : VM) (e : Expr) (t : AsT) : Prop :=
  ∀ env A E s loc h v Q, St W n sc vm env A loc h s → t (er v) loc h Q → wpAny (model W.prog W.w) A (assign e env v) (AsRes W env vm h s Q) E s
def LgOk (W : Wd) (e : Expr) : Prop :=
  ∀ A E (s : Shared) src it i v (P : Unit → Shared → Prop), ItAt src s.heap it i → P () s → wpAny (model W.prog W.w) A (letOwnedTupleGo e (.ref it) v) P E s

namespace T
def asN (i : Nat) : AsT := fun v loc h Q => Q (upd loc i v) h
def asL : List Nat → List AV → Loc → AH → (Loc → AH → Prop) → Prop
  | [], [], loc, h, Q => Q loc h
  | i :: is, a :: as, loc, h, Q => asL is as (upd loc i a) h Q
  | _, _, _, _, _ => False
def asT (is : List Nat) : AsT := fun v loc h Q => ∃ a xs, v = .ref a ∧ (h a = some (.list xs) ∨ h a = some (.tup xs)) ∧ xs.length = is.length ∧ asL is xs loc h Q
def for_ (it : ItT) (asg : AsT) (b : ST) : ST := fun loc h Q => it loc h fun src h1 => ∃ (I : Nat → Loc → AH → Prop) (N : Nat), I 0 loc h1 ∧ ∀ i loc h, I i loc h → ∃ xs, src.items h = some xs ∧ xs.length ≤ N ∧
  match xs[i]? with
  | Option.none => Q .next loc h
  | some v => asg v loc h fun loc1 h1 => b loc1 h1 fun f loc2 h2 => match f with
      | .next | .cont => I (i + 1) loc2 h2
      | .brk => Q .next loc2 h2
      | .ret v => Q (.ret v) loc2 h2
def asgT (is : List Nat) (e : ET) : ST := fun loc h Q => e loc h fun v h1 => asT is v loc h1 fun loc2 h2 => Q .next loc2 h2
end T

theorem lg_name {W : Wd} {x : Str} {p : Pos} : LgOk W (.Name x p) := fun _ _ _ _ _ _ _ _ _ q => wpAny_pure q
theorem lg_tuple {W : Wd} {es : List Expr} {k : Nat} {p : Pos} : LgOk W (.Tuple es k p) := by
  intro A E s src it i v P hi q
  have key : ∃ o c fs, s.heap.get? it = some o ∧ o.cls = .type c ∧ o.data = .fields fs ∧ (["enumerate", "zip", "dict_itemiterator", "dict_reverseitemiterator", "odict_iterator", "itertools.zip_longest", "itertools.pairwise"].contains c) = false := by
    cases src with
    | list a => obtain ⟨o, ho, hc, hd⟩ := hi; exact ⟨o, _, _, ho, hc, hd, by decide⟩
    | tup a => obtain ⟨o, ho, hc, hd⟩ := hi; exact ⟨o, _, _, ho, hc, hd, by decide⟩
    | range lo st n => exact ⟨_, _, _, hi.2, rfl, rfl, by decide⟩
  obtain ⟨o, c, fs, ho, hc, hd, hn⟩ := key
  cases v with
  | ref a =>
    unfold letOwnedTupleGo
    refine wpAny_bind (wpAny_load ho ?_)
    rw [hc, hd]
    show wpAny _ A (if (["enumerate", "zip", "dict_itemiterator", "dict_reverseitemiterator", "odict_iterator", "itertools.zip_longest", "itertools.pairwise"].contains c && fs[0]? == some (rawInt a)) = true then _ else _) P E s
    rw [if_neg (by rw [hn, Bool.false_and]; exact Bool.false_ne_true)]
    exact wpAny_pure q
  | _ => exact wpAny_pure q

section
variable {W : Wd} (ok : WdOk W) {n : Nat} {sc : Scope} {vm : VM}
include ok

theorem as_name (hj : VInj vm) {i : Nat} {x : Str} {p : Pos} (hv : vm i = some x) (hl : sc.names.lookup x = some .local ∨ sc.names.lookup x = some .cell) : AsOk W n sc vm (.Name x p) (T.asN i) := by
  intro env A E s loc h v Q st q
  refine wpAny_assign_Name (store_ok hj st.fr st.rel hv (by unfold Env.kindOf; rw [st.sc]; exact hl) fun hp tk S F => ?_)
  exact ⟨_, h, hp, tk, rfl, S, F, q⟩

omit ok in
theorem draw_ok {A : Around} {E : Value → Shared → Prop} {h : AH} {src : Src} {it : Addr} {xs : List AV} (cx : Cx n A) (hx : src.items h = some xs) (hn : h it = none) : ∀ (k i : Nat) (s : Shared) (P : List Value → Shared → Prop), (∀ a c, h a = some c → CellAt W s.heap a c) →
    ItAt src s.heap it i → i + k ≤ xs.length →
    (∀ vs hp tk, vs.map er = (xs.drop i).take k → ItAt src hp it (i + k) → Heap.ExtBut it s.heap hp → P vs { s with heap := hp, toks := tk }) → wpAny (model W.prog W.w) A (draw (.ref it) k) P E s
  | 0, i, s, P, R, hi, hle, k => wpAny_pure (k [] s.heap s.toks (by simp) (by simpa using hi) (fun _ _ _ e => e))
  | k + 1, i, s, P, R, hi, hle, kk => by
    show wpAny _ _ (pyNext (.ref it) >>= _) P E s
    refine wpAny_bind (next_ok cx R hi hx (fun q => ?_) fun av q v hp tk hv hi' he => ?_)
    · rw [List.getElem?_eq_none_iff] at q; omega
    · obtain ⟨o, ho, hnt⟩ := hi.obj
      have R' := cells_ext R he hn (fun o' ho' => by rw [ho] at ho'; cases ho'; exact hnt)
      refine wpAny_bind (wpAny_holding (draw_ok cx hx hn k (i + 1) { s with heap := hp, toks := tk } _ R' hi' (by omega) fun vs hp2 tk2 hvs hi2 he2 => wpAny_pure (kk (v :: vs) hp2 tk2 ?_ ?_ (he.trans he2))))
      · have hlt : i < xs.length := by omega
        rw [List.map_cons, hvs, hv, List.drop_eq_getElem_cons hlt, List.take_succ_cons]
        rw [List.getElem?_eq_getElem hlt] at q
        rw [Option.some.inj q]
      · rw [show i + (k + 1) = i + 1 + k from by omega]; exact hi2

omit ok in
theorem unpack_core {A : Around} {E : Value → Shared → Prop} {s : Shared} {h : AH} {v : Value} {src : Src} {xs : List AV} {T id : String} {o0 : Obj} {P : List Value → Shared → Prop} (cx : Cx n A) (R : Rel W h s.heap)
    (hT : s.TypeIs v T) (hl : typeLookup (.type T) "__iter__" = pure (some (.builtin id)))
    (hit : ∀ P' : Value → Shared → Prop, (∀ o, ItAt src (s.heap.push o) s.heap.objs.size 0 → P' (.ref s.heap.objs.size) { s with heap := s.heap.push o }) → wpAny (model W.prog W.w) A (pyIter v) P' E s)
    (hx : src.items h = some xs) (k : ∀ vs hp tk, vs.map er = xs → (∀ b o, s.heap.get? b = some o → hp.get? b = some o) → P vs { s with heap := hp, toks := tk }) :
    wpAny (model W.prog W.w) A (unpackItems v xs.length none) P E s := by
  unfold unpackItems
  refine wpAny_bind ?_
  · unfold notIterableAtAll
    refine wpAny_bind (wpAny_specialOf hT hl ?_)
    refine wpAny_pure ?_
    simp only [Bool.false_eq_true, if_false]
    refine wpAny_bind (wpAny_holding (hit _ fun o hi => ?_))
    have hn : h s.heap.objs.size = none := R.fresh (get_size_none _)
    have Sp : Step W h s.heap h (s.heap.push o) := Step.keeps R fun _ _ e => Heap.get?_push_of_some _ e
    refine wpAny_bind (wpAny_holding (draw_ok cx hx hn xs.length 0 _ _ Sp.cells hi (by omega) fun vs hp tk hvs hi1 he => ?_))
    rw [List.drop_zero, List.take_length] at hvs
    have hlen : vs.length = xs.length := by rw [← hvs, List.length_map]
    rw [if_neg (by omega)]
    obtain ⟨o', ho', hnt⟩ := hi.obj
    have R' := cells_ext Sp.cells he hn (fun o'' ho'' => by rw [ho'] at ho''; cases ho''; exact hnt)
    refine wpAny_bind (wpAny_holding (next_ok cx R' hi1 hx (fun q hp2 he2 => ?_) fun av q => ?_))
    · simp only [Option.isSome_none, Bool.false_eq_true, if_false]
      refine wpAny_pure (k vs hp2 tk hvs fun b o e => ?_)
      have hb : b ≠ s.heap.objs.size := Nat.ne_of_lt (Heap.lt_size e)
      exact he2 b o hb (he b o hb (Heap.get?_push_of_some _ e))
    · rw [Nat.zero_add, List.getElem?_eq_none (Nat.le_refl _)] at q; cases q

theorem as_tuple (hj : VInj vm) {es : List Expr} {is : List Nat} {kk : Nat} {p : Pos} (hlen : ∀ env, (assignEach es env).length = is.length) (hstar : ∀ env, (assignEach es env).findIdx? (·.1) = none)
    (hes : ∀ env A E s loc h vs Q, St W n sc vm env A loc h s → T.asL is (vs.map er) loc h Q → wpAny (model W.prog W.w) A (assignInOrder ((assignEach es env).map (·.2)) vs) (AsRes W env vm h s Q) E s) :
    AsOk W n sc vm (.Tuple es kk p) (T.asT is) := by
  rintro env A E s loc h v Q st ⟨a, xs, hv, hc, hxl, q⟩
  obtain rfl := er_ref hv
  rw [arm_assign_Tuple]
  refine wpAny_bind (wpAny_standAt ?_)
  unfold unpack
  rw [hlen, hstar, ← hxl]
  have fin : ∀ vs hp tk, vs.map er = xs → (∀ b o, s.heap.get? b = some o → hp.get? b = some o) →
      wpAny (model W.prog W.w) A (assignInOrder ((assignEach es env).map (·.2)) vs) (AsRes W env vm h s Q) E { s with heap := hp, toks := tk } := by
    intro vs hp tk hvs hk
    have S : Step W h s.heap h hp := Step.keeps st.rel hk
    have st1 : St W n sc vm env A loc h { s with heap := hp, toks := tk } := st.step ok S
    refine wpAny_mono (hes env A E _ loc h vs Q st1 (by rw [hvs]; exact q)) ?_ fun _ _ x => x
    rintro _ s' ⟨loc2, h2, hp2, tk2, rfl, S2, F2, q2⟩
    exact ⟨loc2, h2, hp2, tk2, rfl, S.s.trans S2 st1.fr.how, F2, q2⟩
  rcases hc with hc | hc
  · obtain ⟨us, hp, hm⟩ := st.rel.cells a _ hc
    refine wpAny_bind (wpAny_holding (unpack_core (src := .list a) (o0 := default) st.cx st.rel hp.isList.typeIs slot_list_iter.lookup (fun P' k => wpAny_pyIter_list hp.isList (k _ ⟨_, Heap.get?_push_size _ rfl, rfl, rfl⟩)) ?_ fin))
    simp only [Src.items, hc]
  · obtain ⟨us, hp, hm⟩ := st.rel.cells a _ hc
    refine wpAny_bind (wpAny_holding (unpack_core (src := .tup a) (o0 := default) st.cx st.rel hp.isTuple.typeIs F.slot_tuple_iter.lookup (fun P' k => wpAny_pyIter_tuple hp.isTuple (k _ ⟨_, Heap.get?_push_size _ rfl, rfl, rfl⟩)) ?_ fin))
    simp only [Src.items, hc]

omit ok in
theorem asl_nil {env : Env} {A : Around} {E : Value → Shared → Prop} {s : Shared} {loc : Loc} {h : AH} {vs : List Value} {Q : Loc → AH → Prop} (st : St W n sc vm env A loc h s) (q : T.asL [] (vs.map er) loc h Q) :
    wpAny (model W.prog W.w) A (assignInOrder ((assignEach [] env).map (·.2)) vs) (AsRes W env vm h s Q) E s := by
  cases vs with
  | nil => exact wpAny_assignInOrder_none ⟨loc, h, s.heap, s.toks, rfl, (Step.refl st.rel).s, st.fr, q⟩
  | cons v r => exact q.elim

theorem asl_cons (hj : VInj vm) {i : Nat} {is : List Nat} {x : Str} {p : Pos} {es : List Expr} (hv : vm i = some x) (hl : sc.names.lookup x = some .local ∨ sc.names.lookup x = some .cell)
    (hes : ∀ env A E s loc h vs Q, St W n sc vm env A loc h s → T.asL is (vs.map er) loc h Q → wpAny (model W.prog W.w) A (assignInOrder ((assignEach es env).map (·.2)) vs) (AsRes W env vm h s Q) E s) :
    ∀ env A E s loc h vs Q, St W n sc vm env A loc h s → T.asL (i :: is) (vs.map er) loc h Q → wpAny (model W.prog W.w) A (assignInOrder ((assignEach (.Name x p :: es) env).map (·.2)) vs) (AsRes W env vm h s Q) E s := by
  intro env A E s loc h vs Q st q
  cases vs with
  | nil => exact q.elim
  | cons v r =>
    show wpAny _ A (assignInOrder (assign (.Name x p) env :: (assignEach es env).map (·.2)) (v :: r)) _ E s
    refine wpAny_assignInOrder_more (wpAny_mono (as_name ok hj hv hl env A E s loc h v (fun loc' h' => T.asL is (r.map er) loc' h' Q) st q) ?_ fun _ _ x => x)
    rintro _ s' ⟨loc1, h1, hp1, tk1, rfl, S1, F1, q1⟩
    refine wpAny_mono (hes env A E _ loc1 h1 r Q (st.after ok (tk := tk1) S1 F1) q1) ?_ fun _ _ x => x
    rintro _ s' ⟨loc2, h2, hp2, tk2, rfl, S2, F2, q2⟩
    exact ⟨loc2, h2, hp2, tk2, rfl, S1.trans S2 F1.how, F2, q2⟩

theorem ex_asgT {es : List Expr} {is : List Nat} {kk : Nat} {e : Expr} {f : ET} {p pos : Pos} (he : EvOk W n sc vm e f) (ht : AsOk W n sc vm (.Tuple es kk p) (T.asT is))
    (hs : ∀ env : Env, env.scope = sc → swapsWithSole [.Tuple es kk p] e pos.line env = pure false) (hw : ∀ env : Env, env.scope = sc → swappedStores [.Tuple es kk p] e env = pure none) :
    ExOk W n sc vm (.Assign [.Tuple es kk p] e pos) (T.asgT is f) := by
  intro env A E s loc h Q st q
  refine PyProof.Rows.Assign_Tuple (he.use ok st q fun v h1 hp1 tk1 q1 st1 S1 => ?_) (hs env st.sc) (hw env st.sc)
  refine wpAny_mono (ht env A E _ loc h1 v _ st1 q1) ?_ fun _ _ x => x
  rintro _ s' ⟨loc2, h2, hp2, tk2, rfl, S2, F2, q2⟩
  exact ⟨loc2, h2, hp2, tk2, rfl, S1.s.trans S2 st1.fr.how, F2, q2⟩

theorem ex_for {target iter : Expr} {body : List Stmt} {it : ItT} {asg : AsT} {b : ST} {pos : Pos} (hi : ItOk W n sc vm iter it) (ha : AsOk W n sc vm target asg) (hb : BkOk W n sc vm body b) (hlg : LgOk W target)
    (hs : ∀ (env : Env) x, foldedSetIterable iter env x = pure x) : ExOk W n sc vm (.For target iter body [] pos) (T.for_ it asg b) := by
  intro env A E s loc h Q st q
  refine wpAny_For (wpAny_mono (hi env A E s loc h _ st q) ?_ fun _ _ x => x) (hs env)
  intro xv s1 h1
  refine wpAny_mono h1 ?_ fun _ _ x => x
  rintro _ _ ⟨src, I0, h1, hp1, tk1, rfl, rfl, S1, hnone, hI0, hB, hit, I, N, hI, turn⟩
  have st1 : St W n sc vm env A loc h1 { s with heap := hp1, toks := tk1 } := st.step ok S1
  have hown : ¬ Own env I0 := fun o => by obtain ⟨ob, e⟩ := st.fr.how I0 o; rw [hnone] at e; cases e
  refine codeAny_forLoop_any (prog := W.prog) (w := W.w) (fun m s' => ∃ i loc' h' hp tk, m = N + 1 - i ∧ s' = { s with heap := hp, toks := tk } ∧ SStep W env h s.heap h' hp ∧ Frm W env vm loc' h' hp ∧ h' I0 = none ∧ ItAt src hp I0 i ∧ I i loc' h') ?_ (N + 1)
    ⟨0, loc, h1, hp1, tk1, rfl, rfl, S1.s, st1.fr, hI0, hit, hI⟩
  rintro m _ ⟨i, loc2, h2, hp2, tk2, rfl, rfl, S2, F2, hI2, hit2, hinv⟩
  obtain ⟨xs, hx, hN, hm⟩ := turn i loc2 h2 hinv
  obtain ⟨o, ho, hnt⟩ := hit2.obj
  have hnt' : ∀ o', hp2.get? I0 = some o' → ¬ IsTupO o' := fun o' e => by rw [ho] at e; cases e; exact hnt
  refine next_ok st.cx S2.cells hit2 hx (fun e hp3 he => ?_) fun av e v hp3 tk3 hv hit3 he => ?_
  · rw [e] at hm
    exact wpAny_execs_nil ⟨loc2, h2, hp3, tk2, rfl, S2.ext he hI2 hnone hnt', F2.ext he hown, hm⟩
  · rw [e] at hm
    have S3 := S2.ext he hI2 hnone hnt'
    have F3 := F2.ext he hown
    have hlt : i < xs.length := by
      rcases Nat.lt_or_ge i xs.length with q | q
      · exact q
      · rw [List.getElem?_eq_none q] at e; cases e
    have st3 : St W n sc vm env A loc2 h2 { s with heap := hp3, toks := tk3 } := st.after ok S3 F3
    refine hlg _ _ _ src I0 (i + 1) v _ hit3 ?_
    refine wpAny_mono (ha env A (fun _ _ => False) _ loc2 h2 v _ st3 (by rw [hv]; exact hm)) ?_ fun _ _ x => x.elim
    rintro _ s' ⟨loc4, h4, hp4, tk4, rfl, S4, F4, q4⟩
    have st4 : St W n sc vm env A loc4 h4 { s with heap := hp4, toks := tk4 } := st3.after ok S4 F4
    refine wpAny_mono (hb env A (fun _ _ => False) _ loc4 h4 _ st4 q4) ?_ fun _ _ x => x.elim
    rintro f s' ⟨loc5, h5, hp5, tk5, rfl, S5, F5, q5⟩
    have S := (S3.trans S4 F3.how).trans S5 F4.how
    obtain ⟨o3, ho3, _⟩ := hit3.obj
    have hI4 : h4 I0 = none := S4.stay ho3 hI2
    have hit4 : ItAt src hp4 I0 (i + 1) := hit3.mono fun o e => S4.keep I0 o e hown (.inl hI2)
    obtain ⟨o4, ho4, _⟩ := hit4.obj
    have hI5 : h5 I0 = none := S5.stay ho4 hI4
    have hit5 : ItAt src hp5 I0 (i + 1) := hit4.mono fun o e => S5.keep I0 o e hown (.inl hI4)
    cases f with
    | next => exact ⟨N + 1 - (i + 1), by omega, i + 1, loc5, h5, hp5, tk5, rfl, rfl, S, F5, hI5, hit5, q5⟩
    | cont => exact ⟨N + 1 - (i + 1), by omega, i + 1, loc5, h5, hp5, tk5, rfl, rfl, S, F5, hI5, hit5, q5⟩
    | brk => exact ⟨loc5, h5, hp5, tk5, rfl, S, F5, q5⟩
    | ret v => exact ⟨loc5, h5, hp5, tk5, rfl, S, F5, q5⟩
end
end Mini

/-! MiniH -/
namespace Mini

/-! the scope that a comprehension's block is run in -/
def relabelS (scope sc : Scope) : Scope :=
  { scope with names := scope.names.map fun (n, k) => if (k == .free && sc.kind == .function && sc.names.lookup n == some .cell) then (n, .cell) else (n, k) }
theorem relabel_eq {scope sc : Scope} {env : Env} (h : env.scope = sc) : relabel scope env = relabelS scope sc := by
  subst h; rfl

/-! the closure -/
def clOf (cs : List (Str × Addr)) : List (Str × NameKind) → List (Str × Addr) → List (Str × Addr)
  | [], acc => acc
  | (n, k) :: r, acc => if k == .free then clOf cs r ((n, (cs.lookup n).getD 0) :: acc) else clOf cs r acc

theorem closure_ok {scope : Scope} {env : Env} (h : ∀ x, (x, NameKind.free) ∈ scope.names → (env.cells.lookup x).isSome = true) : closureFor scope env = pure (clOf env.cells scope.names []) := by
  have key : ∀ (names : List (Str × NameKind)) (acc : List (Str × Addr)), (∀ x, (x, NameKind.free) ∈ names → (env.cells.lookup x).isSome = true) →
      (forIn names acc fun (p : Str × NameKind) (cs : List (Str × Addr)) => (do if p.2 == .free then pure (ForInStep.yield ((p.1, ← cellOf env p.1) :: cs)) else pure (ForInStep.yield cs) : Sem (ForInStep (List (Str × Addr))))) = (pure (clOf env.cells names acc) : Sem (List (Str × Addr))) := by
    intro names
    induction names with
    | nil => intro acc _; rfl
    | cons p r ih =>
      intro acc hh
      obtain ⟨n, k⟩ := p
      rw [List.forIn_cons]
      by_cases hk : k = .free
      · subst hk
        obtain ⟨c, hc⟩ := Option.isSome_iff_exists.mp (hh n (List.mem_cons_self ..))
        have hco : cellOf env n = pure c := by unfold cellOf; rw [hc]
        simp only [hco, beq_self_eq_true, if_true, pure_bind]
        rw [ih _ fun x hx => hh x (List.mem_cons_of_mem _ hx)]
        simp [clOf, hc]
      · have hb : (k == NameKind.free) = false := by simpa using hk
        simp only [hb, Bool.false_eq_true, if_false, pure_bind]
        rw [ih _ fun x hx => hh x (List.mem_cons_of_mem _ hx)]
        simp [clOf, hb]
  unfold closureFor
  have := key scope.names [] h
  simp only [bind_pure_comp, Functor.map_map] at this ⊢
  first
    | (rw [← this]; rfl)
    | (simpa using this)

theorem clOf_lookup {cs : List (Str × Addr)} {x : Str} : ∀ {names : List (Str × NameKind)} {acc : List (Str × Addr)}, (∀ p ∈ names, p.1 = x → p.2 ≠ .free) → (clOf cs names acc).lookup x = acc.lookup x
  | [], _, _ => rfl
  | (n, k) :: r, acc, h => by
    have hr : ∀ p ∈ r, p.1 = x → p.2 ≠ .free := fun p hp => h p (List.mem_cons_of_mem _ hp)
    unfold clOf
    split
    · rename_i hk
      rw [clOf_lookup hr, List.lookup_cons]
      have : (x == n) = false := by
        cases q : x == n with
        | false => rfl
        | true => exact absurd (by simpa using hk) (h (n, k) (List.mem_cons_self ..) (beq_iff_eq.mp q).symm)
      rw [this]
    · exact clOf_lookup hr
theorem clOf_free {cs : List (Str × Addr)} {x : Str} : ∀ {names : List (Str × NameKind)} {acc : List (Str × Addr)}, (names.map (·.1)).Nodup → (x, NameKind.free) ∈ names → (clOf cs names acc).lookup x = some ((cs.lookup x).getD 0)
  | (n, k) :: r, acc, hn, h => by
    simp only [List.map_cons, List.nodup_cons] at hn
    rcases List.mem_cons.mp h with e | h
    · cases e
      unfold clOf
      rw [if_pos (show (NameKind.free == NameKind.free) = true from rfl), clOf_lookup (fun p hp e _ => hn.1 (by rw [← e]; exact List.mem_map_of_mem (f := fun x : Str × NameKind => x.1) hp)), List.lookup_cons, beq_self_eq_true]
    · unfold clOf
      split <;> exact clOf_free hn.2 h
theorem clOf_src {cs : List (Str × Addr)} {x : Str} {c : Addr} : ∀ {names : List (Str × NameKind)} {acc : List (Str × Addr)}, (∀ y, (y, NameKind.free) ∈ names → (cs.lookup y).isSome = true) → (clOf cs names acc).lookup x = some c → acc.lookup x = some c ∨ cs.lookup x = some c
  | [], _, _, h => .inl h
  | (n, k) :: r, acc, hh, h => by
    have hr : ∀ y, (y, NameKind.free) ∈ r → (cs.lookup y).isSome = true := fun y hy => hh y (List.mem_cons_of_mem _ hy)
    unfold clOf at h
    split at h
    · rename_i hk
      have hk' : k = .free := by simpa using hk
      subst hk'
      rcases clOf_src hr h with e | e
      · rw [List.lookup_cons] at e
        split at e
        · rename_i q
          have q' : x = n := by simpa using q
          subst q'
          obtain ⟨d, hd⟩ := Option.isSome_iff_exists.mp (hh x (List.mem_cons_self ..))
          rw [hd] at e; exact .inr (hd.trans e)
        · exact .inl e
      · exact .inr e
    · exact clOf_src hr h

/-! the block's own new cells -/
theorem cells_new : ∀ (names : List (Str × NameKind)) (n : Nat) (acc : List (Str × Addr)) (x : Str) (c : Addr), (cellsFrom n names acc).lookup x = some c → acc.lookup x = some c ∨ (n ≤ c ∧ (x, NameKind.cell) ∈ names)
  | [], _, _, _, _, h => .inl h
  | (m, k) :: r, n, acc, x, c, h => by
    unfold cellsFrom at h
    split at h
    · rename_i hk
      have hk' : k = .cell := by simpa using hk
      subst hk'
      rcases cells_new r (n + 1) _ x c h with e | ⟨e1, e2⟩
      · rw [List.lookup_cons] at e
        split at e
        · rename_i q
          have q' : x = m := by simpa using q
          subst q'
          cases e
          exact .inr ⟨Nat.le_refl _, List.mem_cons_self ..⟩
        · exact .inl e
      · exact .inr ⟨by omega, List.mem_cons_of_mem _ e2⟩
    · rcases cells_new r n acc x c h with e | ⟨e1, e2⟩
      · exact .inl e
      · exact .inr ⟨e1, List.mem_cons_of_mem _ e2⟩

theorem cells_other {x : Str} : ∀ (names : List (Str × NameKind)) (n : Nat) (acc : List (Str × Addr)), (x, NameKind.cell) ∉ names → (cellsFrom n names acc).lookup x = acc.lookup x
  | [], _, _, _ => rfl
  | (m, k) :: r, n, acc, h => by
    have hr : (x, NameKind.cell) ∉ r := fun q => h (List.mem_cons_of_mem _ q)
    unfold cellsFrom
    split
    · rename_i hk
      have hk' : k = .cell := by simpa using hk
      subst hk'
      rw [cells_other r _ _ hr, List.lookup_cons]
      have : (x == m) = false := by
        cases q : x == m with
        | false => rfl
        | true => exact absurd (by rw [beq_iff_eq.mp q]; exact List.mem_cons_self ..) h
      rw [this]
    · exact cells_other r _ _ hr

/-- where the new cells lie, and that two names do not share one -/
theorem cells_spec : ∀ (names : List (Str × NameKind)) (h : Heap) (acc : List (Str × Addr)), (∀ x y c, acc.lookup x = some c → acc.lookup y = some c → x = y) → (∀ x c, acc.lookup x = some c → c < h.objs.size) →
    (∀ x y c, (cellsFrom h.objs.size names acc).lookup x = some c → (cellsFrom h.objs.size names acc).lookup y = some c → x = y) ∧
    (∀ x c, (cellsFrom h.objs.size names acc).lookup x = some c → acc.lookup x = some c ∨ (h.objs.size ≤ c ∧ (pushCells h names).IsCell c none))
  | [], h, acc, ha, _ => ⟨ha, fun x c e => .inl e⟩
  | (m, k) :: r, h, acc, ha, hb => by
    unfold cellsFrom pushCells
    split
    · have hsz : (h.push { cls := .type "cell", data := .cell none }).objs.size = h.objs.size + 1 := Heap.size_push ..
      obtain ⟨i1, i2⟩ := cells_spec r (h.push { cls := .type "cell", data := .cell none }) ((m, h.objs.size) :: acc) (fun x y c e1 e2 => by
          rw [List.lookup_cons] at e1 e2
          cases q1 : x == m <;> cases q2 : y == m <;> rw [q1] at e1 <;> rw [q2] at e2
          · exact ha x y c e1 e2
          · have := hb x c e1; cases e2; exact absurd this (Nat.lt_irrefl _)
          · have := hb y c e2; cases e1; exact absurd this (Nat.lt_irrefl _)
          · rw [beq_iff_eq.mp q1, beq_iff_eq.mp q2]) (fun x c e => by
          rw [hsz]
          rw [List.lookup_cons] at e
          cases q1 : x == m <;> rw [q1] at e
          · exact Nat.lt_succ_of_lt (hb x c e)
          · cases e; exact Nat.lt_succ_self _)
      rw [hsz] at i1 i2
      refine ⟨i1, fun x c e => ?_⟩
      rcases i2 x c e with e | ⟨e1, e2⟩
      · rw [List.lookup_cons] at e
        cases q1 : x == m <;> rw [q1] at e
        · exact .inl e
        · cases e
          exact .inr ⟨Nat.le_refl _, _, pushCells_keeps r _ _ _ (Heap.get?_push_size _ rfl), rfl⟩
      · exact .inr ⟨by omega, e2⟩
    · exact cells_spec r h acc ha hb

theorem Frm.weaken {W : Wd} {env : Env} {vm : VM} {loc loc' : Loc} {h : AH} {hp : Heap} (F : Frm W env vm loc h hp) (k : ∀ i av, loc' i = some av → loc i = some av) : Frm W env vm loc' h hp := by
  obtain ⟨m, hm, hm2⟩ := F.ns
  exact ⟨F.hk, F.hg, F.hb, F.LB, F.nL, ⟨m, hm, fun i x av h1 h2 h3 => hm2 i x av h1 h2 (k i av h3)⟩, F.cl, fun i x av h1 h2 h3 => F.cv i x av h1 h2 (k i av h3), F.ap, F.hc⟩

/-! the new environment of a comprehension's block -/
theorem compEnv_ok {M : Model} {A : Around} {E : Value → Shared → Prop} {s : Shared} {scope : Scope} {env : Env} {cl : List (Str × Addr)} {P : Env → Shared → Prop}
    (h : ∀ hp, hp = pushCells (s.heap.push { cls := .type "dict", data := .dict #[] }) scope.names → P (newEnv scope s.heap.objs.size env.globals (cellsFrom (s.heap.objs.size + 1) scope.names cl) env.qual none .none (some env) builtinsNs) { s with heap := hp }) :
    wpAny M A (newFunctionEnv scope env.globals cl [] env.qual none .none (some env)) P E s := by
  simp only [newFunctionEnv, Option.isSome_some, if_true]
  refine wpAny_bind (wpAny_alloc ?_)
  refine wpAny_bind (wpAny_layCells _ (fun name kind cells => by cases hkc : kind == NameKind.cell <;> simp [hkc]) _ _ _ _ ?_)
  rw [show ({ s with heap := s.heap.push { cls := .type "dict", data := .dict #[] } } : Shared).heap.objs.size = s.heap.objs.size + 1 from Heap.size_push ..]
  simp only [List.forIn_nil]
  first
    | exact wpAny_bind (wpAny_pure (wpAny_pure (h _ rfl)))
    | exact wpAny_pure (h _ rfl)
theorem lookup_of_mem {names : List (Str × NameKind)} {x : Str} {k : NameKind} (hn : (names.map (·.1)).Nodup) (h : (x, k) ∈ names) : names.lookup x = some k := by
  induction names with
  | nil => cases h
  | cons p r ih =>
    obtain ⟨m, j⟩ := p
    simp only [List.map_cons, List.nodup_cons] at hn
    rcases List.mem_cons.mp h with e | h
    · cases e; rw [List.lookup_cons, beq_self_eq_true]
    · have hx : (x == m) = false := by
        cases q : x == m with
        | false => rfl
        | true => exact absurd (beq_iff_eq.mp q ▸ List.mem_map_of_mem (f := (·.1)) h) hn.1
      rw [List.lookup_cons, hx]; exact ih hn.2 h

theorem relabelS_lookup {scope sc : Scope} {x : Str} : (relabelS scope sc).names.lookup x = (scope.names.lookup x).map fun k => if (k == .free && sc.kind == .function && sc.names.lookup x == some .cell) then .cell else k := by
  unfold relabelS
  simp only
  induction scope.names with
  | nil => rfl
  | cons p r ih =>
    obtain ⟨m, j⟩ := p
    simp only [List.map_cons]
    by_cases hc : (j == .free && sc.kind == .function && sc.names.lookup m == some .cell) = true
    · rw [if_pos hc]
      by_cases hx : x = m
      · subst hx; simp only [List.lookup_cons, beq_self_eq_true, Option.map_some]; rw [if_pos hc]
      · have hx' : (x == m) = false := by simpa using hx
        simp only [List.lookup_cons, hx']; exact ih
    · rw [if_neg hc]
      by_cases hx : x = m
      · subst hx; simp only [List.lookup_cons, beq_self_eq_true, Option.map_some]; rw [if_neg hc]
      · have hx' : (x == m) = false := by simpa using hx
        simp only [List.lookup_cons, hx']; exact ih

namespace T
def comp (B : Addr) (it : ItT) (i : Nat) (c : TT) (e : ET) : ET := fun loc h Q => it loc h fun src h1 => ∀ D, B ≤ D → h1 D = Option.none →
  ∃ (I : Nat → List AV → AH → Prop) (N : Nat), I 0 [] (upd h1 D (.list [])) ∧ ∀ k ys h, I k ys h → h D = some (.list ys) ∧ ys.length < 2 ^ 20 ∧ ∃ xs, src.items h = some xs ∧ xs.length ≤ N ∧
    match xs[k]? with
    | Option.none => Q (.ref D) h
    | some v => c (upd loc i v) h fun b h2 => if b then e (upd loc i v) h2 fun y h3 => h3 D = some (.list ys) ∧ I (k + 1) (ys ++ [y]) (upd h3 D (.list (ys ++ [y]))) else I (k + 1) ys h2
def yes : TT := fun _ h Q => Q true h
end T

/-- the tests of a clause -/
def TstOk (W : Wd) (n : Nat) (sc : Scope) (vm : VM) (ifs : List Expr) (t : TT) : Prop :=
  ∀ env A E s loc h Q, St W n sc vm env A loc h s → t loc h Q →
    wpAny (model W.prog W.w) A (forIn ifs true fun c r => if r = true then do let ok ← isTrue c env (eval c env); pure (ForInStep.yield ok) else pure (ForInStep.yield r)) (ResB W h s Q) E s
theorem tst_nil {W : Wd} {n : Nat} {sc : Scope} {vm : VM} : TstOk W n sc vm [] T.yes := by
  intro env A E s loc h Q st q
  exact wpAny_tests_nil ⟨h, s.heap, s.toks, rfl, Step.refl st.rel, q⟩
theorem tst_one {W : Wd} {n : Nat} {sc : Scope} {vm : VM} {c : Expr} {t : TT} (hc : TsOk W n sc vm c t) : TstOk W n sc vm [c] t := by
  intro env A E s loc h Q st q
  exact wpAny_tests_one (hc env A E s loc h Q st q)

section
variable {W : Wd} (ok : WdOk W) {n : Nat} {sc : Scope} {vm vm' : VM}
include ok

/-- a comprehension's block, run to its end -/
theorem comp_core {elt iter : Expr} {x : Str} {px pos : Pos} {ifs : List Expr} {scope : Scope} {it : ItT} {i : Nat} {c : TT} {e : ET}
    (hi : ItOk W n sc vm iter it) (hk : scope.kind = .function) (hnd : (scope.names.map (·.1)).Nodup)
    (hfree : ∀ y, (y, NameKind.free) ∈ scope.names → sc.names.lookup y = some .cell) (hskn : sc.kind = .function)
    (hx : scope.names.lookup x = some .local ∨ scope.names.lookup x = some .cell) (hvi : vm' i = some x) (hj : VInj vm')
    (hvm : ∀ j y, vm' j = some y → j ≠ i → vm j = some y ∧ scope.names.lookup y = some .free)
    (hc : TstOk W n (relabelS scope sc) vm' ifs c) (he : EvOk W n (relabelS scope sc) vm' elt e)
    {env : Env} {A : Around} {E : Value → Shared → Prop} {s : Shared} {loc : Loc} {h : AH} {Q : AV → AH → Prop} (st : St W n sc vm env A loc h s) (q : T.comp W.B it i c e loc h Q)
    {RR : Value → Addr → Result → Shared → Prop}
    (fin : ∀ D C hf hp tk, Step W h s.heap hf hp → Q (.ref D) hf → (∃ m, hp.Ns C m) → s.heap.get? C = none → hf C = none → RR (.ref D) C (.ok .next) { s with heap := hp, toks := tk }) :
    wpAny (model W.prog W.w) A (eval iter env) (fun xv s₁ => wpAny (model W.prog W.w) A (pyIter xv) (fun it s₂ => wpAny (model W.prog W.w) A (newList []) (fun acc s₃ =>
      wpAny (model W.prog W.w) A (newFunctionEnv scope env.globals (clOf env.cells scope.names []) [] env.qual none .none (some env)) (fun cenv s₄ =>
        codeAny (model W.prog W.w) A (.compStart (.ListComp elt [⟨.Name x px, iter, ifs, 0⟩] scope pos) 0 it acc { cenv with scope := relabel scope env }) (RR acc cenv.locals) s₄) E s₃) E s₂) E s₁) E s := by
  have hsome : ∀ y, (y, NameKind.free) ∈ scope.names → (env.cells.lookup y).isSome = true := fun y hy => by
    obtain ⟨d, hd⟩ := st.fr.hc y (by unfold Env.kindOf; rw [st.sc]; exact hfree y hy)
    rw [hd]; rfl
  refine wpAny_mono (hi env A E s loc h _ st q) ?_ fun _ _ x => x
  intro xv s1 h1
  refine wpAny_mono h1 ?_ fun _ _ x => x
  rintro _ _ ⟨src, I0, h1, hp1, tk1, rfl, rfl, S1, hnone, hI0, hB, hit, q1⟩
  have st1 : St W n sc vm env A loc h1 { s with heap := hp1, toks := tk1 } := st.step ok S1
  refine wpAny_newList ?_ (by decide)
  -- the list
  obtain ⟨I, N, hI, turn⟩ := q1 hp1.objs.size st1.rel.size (st1.rel.fresh (get_size_none _))
  have S2 : Step W h1 hp1 (upd h1 hp1.objs.size (.list [])) (hp1.push { cls := .type "list", data := .seq #[] }) := Step.push (c := .list []) st1.rel ⟨_, ⟨0, Heap.get?_push_size _ rfl⟩, rfl⟩
  have st2 : St W n sc vm env A loc (upd h1 hp1.objs.size (.list [])) { s with heap := hp1.push { cls := .type "list", data := .seq #[] }, toks := tk1 } := ⟨st1.sc, st1.cx, st1.fr.step S2, S2.rel ok st1.rel⟩
  have hDn : s.heap.get? hp1.objs.size = none := S1.free (get_size_none _) (st1.rel.fresh (get_size_none _))
  have hDI : hp1.objs.size ≠ I0 := by obtain ⟨o, ho, _⟩ := hit.obj; exact fun q => Nat.lt_irrefl _ (q ▸ Heap.lt_size ho)
  generalize hD : hp1.objs.size = D at *
  generalize hH2 : hp1.push { cls := .type "list", data := .seq #[] } = hp2 at *
  have hit2 : ItAt src hp2 I0 0 := hit.mono fun o e => by rw [← hH2]; exact Heap.get?_push_of_some _ e
  have hI2 : upd h1 D (.list []) I0 = none := by rw [upd_ne (Ne.symm hDI)]; exact hI0
  generalize upd h1 D (.list []) = h2 at *
  have S12 := S1.trans S2
  refine compEnv_ok fun hp3 hhp3 => ?_
  -- the block's environment
  have hC3 : ∀ b o, hp2.get? b = some o → hp3.get? b = some o := fun b o e => by rw [hhp3]; exact pushCells_keeps _ _ b o (Heap.get?_push_of_some _ e)
  have S3 : Step W h2 hp2 h2 hp3 := Step.keeps st2.rel hC3
  have R3 : Rel W h2 hp3 := S3.rel ok st2.rel
  have hCn2 : h2 hp2.objs.size = none := st2.rel.fresh (get_size_none _)
  have hge : ∀ b, hp2.objs.size ≤ b → hp2.get? b = none := fun b hb => by
    cases q : hp2.get? b with
    | none => rfl
    | some o => exact absurd (Heap.lt_size q) (Nat.not_lt.mpr hb)
  have hfr : ∀ b, hp2.objs.size ≤ b → h2 b = none ∧ s.heap.get? b = none := fun b hb => ⟨st2.rel.fresh (hge b hb), S12.free (hge b hb) (st2.rel.fresh (hge b hb))⟩
  have hclsrc : ∀ y d, (clOf env.cells scope.names []).lookup y = some d → env.cells.lookup y = some d := fun y d e => by
    rcases clOf_src hsome e with e | e
    · cases e
    · exact e
  have hsz3 : (hp2.push { cls := .type "dict", data := .dict #[] }).objs.size = hp2.objs.size + 1 := Heap.size_push ..
  have spec := cells_spec scope.names (hp2.push { cls := .type "dict", data := .dict #[] }) (clOf env.cells scope.names []) (fun a b d e1 e2 => st.fr.ap a b d (hclsrc _ _ e1) (hclsrc _ _ e2))
    (fun a d e => by
      obtain ⟨_, _, _, v, o, ho, _⟩ := st2.fr.cl a d (hclsrc _ _ e)
      rw [hsz3]; exact Nat.lt_succ_of_lt (Heap.lt_size ho))
  rw [hsz3, ← hhp3] at spec
  obtain ⟨spec1, spec2⟩ := spec
  have hNs3 : hp3.Ns hp2.objs.size fun _ => none := by rw [hhp3]; exact (Heap.Ns.new hp2 (.type "dict")).keeps (pushCells_keeps _ _)
  generalize hcells : cellsFrom (hp2.objs.size + 1) scope.names (clOf env.cells scope.names []) = cells at *
  generalize hcenv : ({ newEnv scope hp2.objs.size env.globals cells env.qual none .none (some env) builtinsNs with scope := relabel scope env } : Env) = cenv
  have ceL : cenv.locals = hp2.objs.size := by rw [← hcenv]; rfl
  have ceC : cenv.cells = cells := by rw [← hcenv]; rfl
  have ceS : cenv.scope = relabelS scope sc := by rw [← hcenv, ← relabel_eq st.sc]
  have ceK : ∀ y, cenv.kindOf y = (scope.names.lookup y).map fun k => if (k == .free && sc.kind == .function && sc.names.lookup y == some .cell) then .cell else k := fun y => by
    unfold Env.kindOf; rw [ceS]; exact relabelS_lookup
  have hfreeL : ∀ y, scope.names.lookup y = some .free → cells.lookup y = env.cells.lookup y := fun y hy => by
    have hmem := mem_of_lookup hy
    have hnc : (y, NameKind.cell) ∉ scope.names := fun q => by rw [lookup_of_mem hnd q] at hy; cases hy
    rw [← hcells, cells_other _ _ _ hnc, clOf_free hnd hmem]
    obtain ⟨d, hd⟩ := Option.isSome_iff_exists.mp (hsome y hmem)
    rw [hd]; rfl
  let locC : Loc := fun j => if j = i then none else loc j
  have hupd : ∀ v, upd locC i v = upd loc i v := fun v => by
    funext j
    by_cases hji : j = i
    · subst hji; rw [upd_same, upd_same]
    · rw [upd_ne hji, upd_ne hji]; exact if_neg hji
  have F3 : Frm W cenv vm' locC h2 hp3 := by
    refine ⟨by rw [ceS]; exact hk, by rw [← hcenv]; exact st.fr.hg, by rw [← hcenv]; exact st.fr.hb, by rw [ceL]; exact st2.rel.size, by rw [ceL]; exact hCn2, ⟨_, by rw [ceL]; exact hNs3, fun j y av e1 e2 e3 => ?_⟩, fun y d e => ?_, fun j y av e1 e2 e3 => ?_, fun a b d e1 e2 => ?_, fun y e => ?_⟩
    · by_cases hji : j = i
      · simp only [locC, if_pos hji] at e3; cases e3
      · obtain ⟨_, hfr'⟩ := hvm j y e1 hji
        rw [ceK, hfr'] at e2
        simp only [Option.map_some] at e2
        split at e2 <;> cases e2
    · rw [ceC] at e
      rw [ceL]
      rcases spec2 y d e with e | ⟨e1, e2⟩
      · obtain ⟨a1, a2, a3, v, o, ho, hv⟩ := st2.fr.cl y d (hclsrc _ _ e)
        exact ⟨a1, a2, fun q => Nat.lt_irrefl _ (q ▸ Heap.lt_size ho), v, o, hC3 _ _ ho, hv⟩
      · have e1' : hp2.objs.size < d := e1
        exact ⟨Nat.le_trans st2.rel.size (Nat.le_of_lt e1'), (hfr d (Nat.le_of_lt e1')).1, fun q => Nat.lt_irrefl _ (q ▸ e1'), none, e2⟩
    · by_cases hji : j = i
      · simp only [locC, if_pos hji] at e3; cases e3
      · simp only [locC, if_neg hji] at e3
        obtain ⟨hvo, hfr'⟩ := hvm j y e1 hji
        have hcell : sc.names.lookup y = some .cell := hfree y (mem_of_lookup hfr')
        obtain ⟨d, v, e4, ⟨o, ho, hv⟩, e5⟩ := st2.fr.cv j y av hvo (.inl (by unfold Env.kindOf; rw [st.sc]; exact hcell)) e3
        exact ⟨d, v, by rw [ceC, hfreeL y hfr']; exact e4, ⟨o, hC3 _ _ ho, hv⟩, e5⟩
    · rw [ceC] at e1 e2; exact spec1 a b d e1 e2
    · rw [ceC]
      rw [ceK] at e
      cases hl : scope.names.lookup y with
      | none => rw [hl] at e; cases e
      | some k =>
        rw [hl] at e
        simp only [Option.map_some] at e
        by_cases hkc : k = .cell
        · subst hkc
          have := cellsFrom_some (x := y) scope.names (hp2.objs.size + 1) (clOf env.cells scope.names []) (.inl hl)
          rw [hcells] at this
          exact Option.isSome_iff_exists.mp this
        · have hkf : k = .free := by
            split at e
            · rename_i q; simp only [Bool.and_eq_true, beq_iff_eq] at q; exact q.1.1
            · exact absurd (Option.some.inj e) hkc
          subst hkf
          rw [hfreeL y hl]
          exact Option.isSome_iff_exists.mp (hsome y (mem_of_lookup hl))
  have hI3 : ItAt src hp3 I0 0 := hit2.mono fun o e => hC3 _ o e
  have hown : ∀ b, b = cenv.locals ∨ (∃ y, (y, NameKind.cell) ∈ scope.names ∧ cenv.cells.lookup y = some b) → s.heap.get? b = none ∧ b ≠ I0 := fun b hb => by
    have hI0lt : I0 < hp2.objs.size := by obtain ⟨o, ho, _⟩ := hit2.obj; exact Heap.lt_size ho
    rcases hb with hb | ⟨y, hy, hb⟩
    · rw [hb, ceL]; exact ⟨(hfr _ (Nat.le_refl _)).2, fun q => Nat.lt_irrefl _ (q ▸ hI0lt)⟩
    · rw [ceC] at hb
      rcases spec2 y b hb with e | ⟨e, _⟩
      · exfalso
        have : (clOf env.cells scope.names []).lookup y = ([] : List (Str × Addr)).lookup y := clOf_lookup (fun p hp e q => by
          obtain ⟨a, k⟩ := p
          simp only at e q
          subst e; subst q
          have h1 := lookup_of_mem hnd hp
          rw [lookup_of_mem hnd hy] at h1; cases h1)
        rw [this] at e; cases e
      · have e1' : hp2.objs.size < b := e
        exact ⟨(hfr b (Nat.le_of_lt e1')).2, fun q => Nat.lt_irrefl _ (Nat.lt_trans (q ▸ e1') hI0lt)⟩
  have loop : ∀ s4 : Shared, s4 = { s with heap := hp3, toks := tk1 } → codeAny (model W.prog W.w) A (.compLoop (.ListComp elt [⟨.Name x px, iter, ifs, 0⟩] scope pos) 0 (.ref I0) (.ref D) cenv) (RR (.ref D) hp2.objs.size) s4 := by
    rintro s4 rfl
    refine codeAny_compLoop_tests (prog := W.prog) (w := W.w) (fun m s' => ∃ k ys h' hp tk, m = N + 1 - k ∧ s' = { s with heap := hp, toks := tk } ∧ Step W h s.heap h' hp ∧ Frm W cenv vm' locC h' hp ∧ h' I0 = none ∧ ItAt src hp I0 k ∧ I k ys h') ?_ (N + 1)
      ⟨0, [], h2, hp3, tk1, rfl, rfl, S12.trans S3, F3, hI2, hI3, hI⟩ (by intro _; rfl)
    rintro m _ ⟨k, ys, h4, hp4, tk4, rfl, rfl, S4, F4, hI4, hit4, hinv⟩
    obtain ⟨hDl, hylen, xs, hxs, hN, hm⟩ := turn k ys h4 hinv
    obtain ⟨o, ho, hnt⟩ := hit4.obj
    have hnt' : ∀ o', hp4.get? I0 = some o' → ¬ IsTupO o' := fun o' e => by rw [ho] at e; cases e; exact hnt
    have hownI : ¬ Own cenv I0 := fun q => by
      rcases q with q | ⟨y, q⟩
      · exact (hown I0 (.inl q)).2 rfl
      · have := (F4.cl y I0 q).2.2.2
        obtain ⟨v, o', ho', hv'⟩ := this
        rw [ho] at ho'; cases ho'
        cases src with
        | list a => obtain ⟨o'', e1, e2, e3⟩ := hit4; rw [ho] at e1; cases e1; rw [hv'] at e3; cases e3
        | tup a => obtain ⟨o'', e1, e2, e3⟩ := hit4; rw [ho] at e1; cases e1; rw [hv'] at e3; cases e3
        | range a b c => have e1 : hp4.get? I0 = some _ := hit4.2; rw [ho] at e1; cases e1; cases hv'
    refine next_ok st.cx S4.cells hit4 hxs (fun e hp5 hex => ?_) fun av e v hp5 tk5 hv hit5 hex => ?_
    · rw [e] at hm
      have S5 := S4.ext hex hI4 hnone hnt'
      have F5 := F4.ext hex hownI
      obtain ⟨mm, hmm, _⟩ := F5.ns
      rw [ceL] at hmm
      exact fin D hp2.objs.size h4 hp5 tk4 S5 hm ⟨mm, hmm⟩ (hfr _ (Nat.le_refl _)).2 (by have := F5.nL; rw [ceL] at this; exact this)
    · rw [e] at hm
      have S5 := S4.ext hex hI4 hnone hnt'
      have F5 := F4.ext hex hownI
      have hlt : k < xs.length := by
        rcases Nat.lt_or_ge k xs.length with q | q
        · exact q
        · rw [List.getElem?_eq_none q] at e; cases e
      have hxk : cenv.kindOf x = some .local ∨ cenv.kindOf x = some .cell := by
        rw [ceK]
        rcases hx with hx | hx <;> rw [hx]
        · exact .inl rfl
        · exact .inr rfl
      refine wpAny_assign_Name (store_core (vm := vm') hj F5 hvi hxk fun a hp6 tk6 ha hant han haB hsb F6 => ?_)
      have hab : s.heap.get? a = none ∧ a ≠ I0 := by
        refine hown a (ha.imp id fun q => ⟨x, ?_, q.2⟩)
        rcases hx with hx | hx
        · have := q.1; rw [ceK, hx] at this; cases this
        · exact mem_of_lookup hx
      have S6 := S5.ext hsb.extBut han hab.1 hant
      rw [hupd, hv] at F6
      have hit6 : ItAt src hp6 I0 (k + 1) := hit5.mono fun o e => hsb.extBut _ o (Ne.symm hab.2) e
      have hR6 : Rel W h4 hp6 := S6.rel ok st.rel
      have st6 : St W n (relabelS scope sc) vm' cenv A (upd loc i av) h4 { s with heap := hp6, toks := tk6 } := ⟨ceS, st.cx, F6, hR6⟩
      refine wpAny_mono (hc cenv A (fun _ _ => False) _ _ h4 _ st6 hm) ?_ fun _ _ x => x.elim
      rintro b s' ⟨h7, hp7, tk7, rfl, S7, q7⟩
      have F7 := F6.step S7
      have S67 := S6.trans S7
      obtain ⟨o6, ho6, _⟩ := hit6.obj
      have hI7 : h7 I0 = none := S7.stay ho6 hI4
      have hit7 : ItAt src hp7 I0 (k + 1) := hit6.mono fun o e => S7.keep I0 o e (.inl hI4)
      have wk : ∀ j av', locC j = some av' → upd loc i av j = some av' := fun j av' e => by
        by_cases hji : j = i
        · simp only [locC, if_pos hji] at e; cases e
        · rw [upd_ne hji]; simp only [locC, if_neg hji] at e; exact e
      cases b with
      | false => exact ⟨N + 1 - (k + 1), by omega, k + 1, ys, h7, hp7, tk7, rfl, rfl, S67, F7.weaken wk, hI7, hit7, q7⟩
      | true =>
        have st7 : St W n (relabelS scope sc) vm' cenv A (upd loc i av) h7 { s with heap := hp7, toks := tk7 } := ⟨ceS, st.cx, F7, S67.rel ok st.rel⟩
        refine wpAny_mono (he cenv A (fun _ _ => False) _ _ h7 _ st7 q7) ?_ fun _ _ x => x.elim
        rintro y s' ⟨h8, hp8, tk8, rfl, S8, hD8, q8⟩
        have F8 := F7.step S8
        have S78 := S67.trans S8
        have R8 : Rel W h8 hp8 := S78.rel ok st.rel
        obtain ⟨us, hpl, hus⟩ := R8.cells D _ hD8
        obtain ⟨o7, ho7, _⟩ := hit7.obj
        have hI8 : h8 I0 = none := S8.stay ho7 hI7
        have hit8 : ItAt src hp8 I0 (k + 1) := hit7.mono fun o e => S8.keep I0 o e (.inl hI7)
        have hDB : W.B ≤ D := by rw [← hD]; exact st1.rel.size
        refine wpAny_list_append_plain hpl (fun hp9 hpl9 hs9 => ?_) (by rw [map_len hus, sizeLine_eq]; omega)
        have S9 : Step W h8 hp8 (upd h8 D (.list (ys ++ [er y]))) hp9 := Step.set R8 hD8 hDB (list_notTup hpl) hs9 ⟨_, hpl9, by simp [hus]⟩
        have F9 := F8.step S9
        obtain ⟨o8, ho8, _⟩ := hit8.obj
        exact ⟨N + 1 - (k + 1), by omega, k + 1, ys ++ [er y], _, hp9, tk8, rfl, rfl, S78.trans S9, F9.weaken wk, S9.stay ho8 hI8, hit8.mono fun o e => S9.keep I0 o e (.inl hI8), q8⟩
  refine codeAny_compStart_list (loop _ rfl) ?_
  cases src with
  | list a => exact wpAny_pyIter_listiter hI3 (loop _ rfl)
  | tup a => exact wpAny_pyIter_tupleiter hI3 (loop _ rfl)
  | range a b c => exact wpAny_pyIter_rangeiter hI3.2 (loop _ rfl)
end
end Mini

/-! MiniI -/
namespace Mini

section
variable {W : Wd} (ok : WdOk W) {n : Nat} {sc : Scope} {vm vm' : VM}
include ok

theorem closure_st {scope : Scope} {env : Env} {A : Around} {s : Shared} {loc : Loc} {h : AH} (st : St W n sc vm env A loc h s) (hfree : ∀ y, (y, NameKind.free) ∈ scope.names → sc.names.lookup y = some .cell) :
    closureFor scope env = pure (clOf env.cells scope.names []) :=
  closure_ok fun y hy => by
    obtain ⟨d, hd⟩ := st.fr.hc y (by unfold Env.kindOf; rw [st.sc]; exact hfree y hy)
    rw [hd]; rfl

theorem ev_comp {elt iter : Expr} {x : Str} {px pos : Pos} {ifs : List Expr} {scope : Scope} {it : ItT} {i : Nat} {c : TT} {e : ET}
    (hi : ItOk W n sc vm iter it) (hk : scope.kind = .function) (hnd : (scope.names.map (·.1)).Nodup)
    (hfree : ∀ y, (y, NameKind.free) ∈ scope.names → sc.names.lookup y = some .cell) (hskn : sc.kind = .function)
    (hx : scope.names.lookup x = some .local ∨ scope.names.lookup x = some .cell) (hvi : vm' i = some x) (hj : VInj vm')
    (hvm : ∀ j y, vm' j = some y → j ≠ i → vm j = some y ∧ scope.names.lookup y = some .free)
    (hc : TstOk W n (relabelS scope sc) vm' ifs c) (he : EvOk W n (relabelS scope sc) vm' elt e)
    (hs : ∀ (env : Env) x, foldedSetIterable iter env x = pure x) :
    EvOk W n sc vm (.ListComp elt [⟨.Name x px, iter, ifs, 0⟩] scope pos) (T.comp W.B it i c e) := by
  intro env A E s loc h Q st q
  rw [eval_ListComp]
  refine wpAny_comprehension_free (use := none) rfl (hs env) (closure_st ok st hfree) hk (fun y hy hl => lookup_of_mem hnd (by rw [← hl]; exact hy)) ?_
  refine comp_core ok (vm' := vm') hi hk hnd hfree hskn hx hvi hj hvm hc he st q (RR := fun acc C => compPost (model W.prog W.w) A E none (Res W h s Q) acc C) ?_
  intro D C hf hp tk S hQ hC hCn hCf
  obtain ⟨m, hm⟩ := hC
  refine ⟨m, hm, fun h' hs' => ⟨hf, h', tk, rfl, S.ext hs'.extBut hCf hCn (ns_notTup hm), hQ⟩⟩

/-- a comprehension bound at once to a local name of the same row -/
theorem ex_asgcomp (hjo : VInj vm) {elt iter : Expr} {x y : Str} {px py pos spos : Pos} {ifs : List Expr} {scope : Scope} {it : ItT} {i k : Nat} {c : TT} {e : ET}
    (hi : ItOk W n sc vm iter it) (hk : scope.kind = .function) (hnd : (scope.names.map (·.1)).Nodup)
    (hfree : ∀ y, (y, NameKind.free) ∈ scope.names → sc.names.lookup y = some .cell) (hskn : sc.kind = .function)
    (hx : scope.names.lookup x = some .local ∨ scope.names.lookup x = some .cell) (hvi : vm' i = some x) (hj : VInj vm')
    (hvm : ∀ j y, vm' j = some y → j ≠ i → vm j = some y ∧ scope.names.lookup y = some .free)
    (hc : TstOk W n (relabelS scope sc) vm' ifs c) (he : EvOk W n (relabelS scope sc) vm' elt e)
    (hs : ∀ (env : Env) x, foldedSetIterable iter env x = pure x) (hvk : vm k = some y) (hly : sc.names.lookup y = some .local)
    (hsw : ∀ env : Env, env.scope = sc → swapsWith (.ListComp elt [⟨.Name x px, iter, ifs, 0⟩] scope pos) (some (.Name y py)) spos.line env = pure true) :
    ExOk W n sc vm (.Assign [.Name y py] (.ListComp elt [⟨.Name x px, iter, ifs, 0⟩] scope pos) spos) (T.asg k (T.comp W.B it i c e)) := by
  intro env A E s loc h Q st q
  rw [exec_Assign_Name_used _ _ _ _ (hsw env st.sc)]
  refine wpAny_bind (wpAny_standAt (wpAny_bind ?_))
  show wpAny _ A (do let _ ← comprehension (.ListComp elt [⟨.Name x px, iter, ifs, 0⟩] scope pos) scope env _ (newList []) false (eval iter env) (some (assign (.Name y py) env))) _ _ s
  refine wpAny_bind (wpAny_mono (wpAny_comprehension_free (use := some (assign (.Name y py) env)) (Q := fun _ s' => SRes W env vm h s Q .next s') rfl (hs env) (closure_st ok st hfree) hk
    (fun y hy hl => lookup_of_mem hnd (by rw [← hl]; exact hy)) ?_) (fun _ s' hq => wpAny_pure (wpAny_pure hq)) fun _ _ e => e)
  refine comp_core ok (vm' := vm') hi hk hnd hfree hskn hx hvi hj hvm hc he st q (RR := fun acc C => compPost (model W.prog W.w) A E (some (assign (.Name y py) env)) (fun _ s' => SRes W env vm h s Q .next s') acc C) ?_
  intro D C hf hp tk S hQ hC hCn hCf
  obtain ⟨m, hm⟩ := hC
  have F1 := st.fr.step S
  have R1 := S.rel ok st.rel
  show wpAny _ A (assign (.Name y py) env (.ref D)) _ _ _
  have hCo : ¬ Own env C := fun o => by obtain ⟨ob, e⟩ := st.fr.how C o; rw [hCn] at e; cases e
  refine wpAny_assign_Name (store_core hjo (s := { s with heap := hp, toks := tk }) F1 hvk (.inl (by unfold Env.kindOf; rw [st.sc]; exact hly)) fun a hp2 tk2 ha hnt hn hB hsb F2 => ?_)
  have ho : Own env a := ha.imp id fun q => ⟨y, q.2⟩
  have haC : a ≠ C := fun q => hCo (q ▸ ho)
  have S2 : SStep W env hf hp hf hp2 := by
    have hkk : ∀ b o, b ≠ a → hp.get? b = some o → hp2.get? b = some o := fun b o hb e => (hsb.2 b hb).trans e
    exact ⟨cells_ext R1.cells hsb.extBut hn hnt, fun b o e n _ => hkk b o (fun q => n (q ▸ ho)) e, fun b h1 h2 => absurd h1 h2, fun _ e => e⟩
  have hm2 : hp2.Ns C m := hm.sameBut hsb (Ne.symm haC)
  refine ⟨m, hm2, fun h' hs' => ⟨_, hf, h', tk2, rfl, (S.s.trans S2 F1.how).ext hs'.extBut hCf hCn (ns_notTup hm2), F2.ext hs'.extBut hCo, hQ⟩⟩
end

/-! equality of lists of ints -/
theorem ints_are {is : List Int} : ∀ {l : List Value}, l.map er = is.map AV.int → IntsAre l is := by
  induction is with
  | nil => intro l h; cases l with
    | nil => exact .nil
    | cons v r => simp at h
  | cons i is ih => intro l h; cases l with
    | nil => simp at h
    | cons v r =>
      simp only [List.map_cons, List.cons.injEq] at h
      obtain ⟨t, rfl⟩ := er_int h.1
      exact .cons i t (ih h.2)

namespace P
def eqIL : Cm := fun a b h Q => ∃ l m, ∃ is js : List Int, a = .ref l ∧ b = .ref m ∧ h l = some (.list (is.map AV.int)) ∧ h m = some (.list (js.map AV.int)) ∧ Q (decide (is = js)) h
def neIL : Cm := fun a b h Q => ∃ l m, ∃ is js : List Int, a = .ref l ∧ b = .ref m ∧ h l = some (.list (is.map AV.int)) ∧ h m = some (.list (js.map AV.int)) ∧ Q (!decide (is = js)) h
end P

section
variable {W : Wd} {n : Nat}
theorem cm_eqIL : CmpOk W n .Eq P.eqIL := by
  rintro A E s va vb h Q cx R ⟨l, m, is, js, ha, hb, hl, hm, q⟩
  obtain rfl := er_ref ha
  obtain rfl := er_ref hb
  obtain ⟨vs, hp1, e1⟩ := R.cells l _ hl
  obtain ⟨us, hp2, e2⟩ := R.cells m _ hm
  refine eq_intsK (vs := vs.toList) (us := us.toList) (by rw [Array.toArray_toList]; exact hp1.isList) (ints_are e1) (by rw [Array.toArray_toList]; exact hp2.isList) (ints_are e2) (by have := cx.un; omega) ?_
  exact ⟨h, s.heap, s.toks, rfl, Step.refl R, _, rfl, q⟩
theorem cm_neIL : CmpOk W n .NotEq P.neIL := by
  rintro A E s va vb h Q cx R ⟨l, m, is, js, ha, hb, hl, hm, q⟩
  obtain rfl := er_ref ha
  obtain rfl := er_ref hb
  obtain ⟨vs, hp1, e1⟩ := R.cells l _ hl
  obtain ⟨us, hp2, e2⟩ := R.cells m _ hm
  refine ne_intsK (vs := vs.toList) (us := us.toList) (by rw [Array.toArray_toList]; exact hp1.isList) (ints_are e1) (by rw [Array.toArray_toList]; exact hp2.isList) (ints_are e2) (by have := cx.un; omega) ?_
  exact ⟨h, s.heap, s.toks, rfl, Step.refl R, _, rfl, q⟩
end
end Mini

/-! MiniJ -/
namespace Mini

def vmOf (l : List (Nat × Str)) : VM := fun i => l.lookup i

theorem vm_mem : ∀ {l : List (Nat × Str)} {i : Nat} {x : Str}, l.lookup i = some x → (i, x) ∈ l
  | (j, y) :: r, i, x, h => by
    rw [List.lookup_cons] at h
    cases q : i == j with
    | true => rw [q] at h; cases h; rw [beq_iff_eq.mp q]; exact List.mem_cons_self ..
    | false => rw [q] at h; exact List.mem_cons_of_mem _ (vm_mem h)

theorem pair_inj : ∀ {l : List (Nat × Str)} {i j : Nat} {x : Str}, (l.map (·.2)).Nodup → (i, x) ∈ l → (j, x) ∈ l → i = j
  | (k, y) :: r, i, j, x, hn, h1, h2 => by
    simp only [List.map_cons, List.nodup_cons] at hn
    have out : ∀ {m}, (m, y) ∈ r → False := fun h => hn.1 (List.mem_map_of_mem (f := fun p : Nat × Str => p.2) h)
    rcases List.mem_cons.mp h1 with e1 | h1 <;> rcases List.mem_cons.mp h2 with e2 | h2
    · cases e1; cases e2; rfl
    · cases e1; exact (out h2).elim
    · cases e2; exact (out h1).elim
    · exact pair_inj hn.2 h1 h2

theorem vinj_of {l : List (Nat × Str)} (h : decide ((l.map (·.2)).Nodup) = true) : VInj (vmOf l) :=
  fun _ _ _ h1 h2 => pair_inj (of_decide_eq_true h) (vm_mem h1) (vm_mem h2)

def cvm (l : List (Nat × Str)) (scope : Scope) (i : Nat) (x : Str) : List (Nat × Str) := (i, x) :: l.filter fun p => scope.names.lookup p.2 == some .free

theorem lookup_filter {l : List (Nat × Str)} {f : Nat × Str → Bool} (hn : (l.map (·.1)).Nodup) {j : Nat} {y : Str} (h : (l.filter f).lookup j = some y) : l.lookup j = some y ∧ f (j, y) = true := by
  have hm := vm_mem h
  obtain ⟨h1, h2⟩ := List.mem_filter.mp hm
  refine ⟨?_, h2⟩
  clear h hm
  induction l with
  | nil => cases h1
  | cons p r ih =>
    obtain ⟨k, z⟩ := p
    simp only [List.map_cons, List.nodup_cons] at hn
    rcases List.mem_cons.mp h1 with e | h1
    · cases e; rw [List.lookup_cons, beq_self_eq_true]
    · have hk : (j == k) = false := by
        cases q : j == k with
        | false => rfl
        | true => exact absurd (by rw [← beq_iff_eq.mp q]; exact List.mem_map_of_mem (f := fun p : Nat × Str => p.1) h1) hn.1
      rw [List.lookup_cons, hk]
      exact ih hn.2 h1

def compChk (l : List (Nat × Str)) (sc scope : Scope) (i : Nat) (x : Str) : Bool :=
  decide ((scope.names.map (·.1)).Nodup) && scope.names.all (fun p => p.2 != .free || sc.names.lookup p.1 == some .cell) && (scope.names.lookup x == some .local || scope.names.lookup x == some .cell) &&
  decide ((l.map (·.1)).Nodup) && scope.kind == .function && sc.kind == .function && decide (((cvm l scope i x).map (·.2)).Nodup)

section
variable {W : Wd} (ok : WdOk W) {n : Nat} {sc : Scope} {l : List (Nat × Str)}
include ok

theorem ev_comp' {elt iter : Expr} {x : Str} {px pos : Pos} {ifs : List Expr} {scope : Scope} {it : ItT} {i : Nat} {c : TT} {e : ET}
    (chk : compChk l sc scope i x = true) (hi : ItOk W n sc (vmOf l) iter it)
    (hc : TstOk W n (relabelS scope sc) (vmOf (cvm l scope i x)) ifs c) (he : EvOk W n (relabelS scope sc) (vmOf (cvm l scope i x)) elt e)
    (hs : ∀ (env : Env) x, foldedSetIterable iter env x = pure x) :
    EvOk W n sc (vmOf l) (.ListComp elt [⟨.Name x px, iter, ifs, 0⟩] scope pos) (T.comp W.B it i c e) := by
  unfold compChk at chk
  simp only [Bool.and_eq_true, Bool.or_eq_true, decide_eq_true_eq, beq_iff_eq, List.all_eq_true] at chk
  obtain ⟨⟨⟨⟨⟨⟨c1, c2⟩, c3⟩, c4⟩, c5⟩, c6⟩, c7⟩ := chk
  refine ev_comp ok (vm' := vmOf (cvm l scope i x)) hi c5 c1 (fun y hy => ?_) c6 c3 ?_ (vinj_of (decide_eq_true c7)) (fun j y h hj => ?_) hc he hs
  · have := c2 _ hy
    simpa using this
  · show List.lookup i ((i, x) :: _) = some x
    rw [List.lookup_cons, beq_self_eq_true]
  · have h' : List.lookup j ((i, x) :: l.filter fun p => scope.names.lookup p.2 == some .free) = some y := h
    rw [List.lookup_cons] at h'
    have hji : (j == i) = false := by simpa using hj
    rw [hji] at h'
    obtain ⟨h1, h2⟩ := lookup_filter c4 h'
    exact ⟨h1, by simpa using h2⟩

theorem ex_asgcomp' {elt iter : Expr} {x y : Str} {px py pos spos : Pos} {ifs : List Expr} {scope : Scope} {it : ItT} {i k : Nat} {c : TT} {e : ET}
    (chk : compChk l sc scope i x = true) (hjo : VInj (vmOf l)) (hi : ItOk W n sc (vmOf l) iter it)
    (hc : TstOk W n (relabelS scope sc) (vmOf (cvm l scope i x)) ifs c) (he : EvOk W n (relabelS scope sc) (vmOf (cvm l scope i x)) elt e)
    (hs : ∀ (env : Env) x, foldedSetIterable iter env x = pure x) (hvk : vmOf l k = some y) (hly : sc.names.lookup y = some .local)
    (hsw : ∀ env : Env, env.scope = sc → swapsWith (.ListComp elt [⟨.Name x px, iter, ifs, 0⟩] scope pos) (some (.Name y py)) spos.line env = pure true) :
    ExOk W n sc (vmOf l) (.Assign [.Name y py] (.ListComp elt [⟨.Name x px, iter, ifs, 0⟩] scope pos) spos) (T.asg k (T.comp W.B it i c e)) := by
  unfold compChk at chk
  simp only [Bool.and_eq_true, Bool.or_eq_true, decide_eq_true_eq, beq_iff_eq, List.all_eq_true] at chk
  obtain ⟨⟨⟨⟨⟨⟨c1, c2⟩, c3⟩, c4⟩, c5⟩, c6⟩, c7⟩ := chk
  refine ex_asgcomp ok (vm' := vmOf (cvm l scope i x)) hjo hi c5 c1 (fun y hy => ?_) c6 c3 ?_ (vinj_of (decide_eq_true c7)) (fun j y h hj => ?_) hc he hs hvk hly hsw
  · have := c2 _ hy
    simpa using this
  · show List.lookup i ((i, x) :: _) = some x
    rw [List.lookup_cons, beq_self_eq_true]
  · have h' : List.lookup j ((i, x) :: l.filter fun p => scope.names.lookup p.2 == some .free) = some y := h
    rw [List.lookup_cons] at h'
    have hji : (j == i) = false := by simpa using hj
    rw [hji] at h'
    obtain ⟨h1, h2⟩ := lookup_filter c4 h'
    exact ⟨h1, by simpa using h2⟩
end

/-! what is not reached; minus -/
namespace T
def bad : ET := fun _ _ _ => False
def sbad : ST := fun _ _ _ => False
def neg (f : ET) : ET := fun loc h Q => f loc h fun v h1 => ∃ x, v = .int x ∧ Q (.int (-x)) h1
def ekw (t : EsT) (k : ET) : EsT := fun loc h Q => t loc h fun vs h1 => k loc h1 fun v h2 => Q (vs ++ [v]) h2
end T
section
variable {W : Wd} (ok : WdOk W) {n : Nat} {sc : Scope} {vm : VM}
theorem ev_bad {e : Expr} : EvOk W n sc vm e T.bad := fun _ _ _ _ _ _ _ _ q => q.elim
theorem ex_bad {e : Stmt} : ExOk W n sc vm e T.sbad := fun _ _ _ _ _ _ _ _ q => q.elim
theorem bk_bad {e : List Stmt} : BkOk W n sc vm e T.sbad := fun _ _ _ _ _ _ _ _ q => q.elim
include ok
theorem ev_neg {e : Expr} {f : ET} {pos : Pos} (he : EvOk W n sc vm e f) : EvOk W n sc vm (.UnaryOp .USub e pos) (T.neg f) := by
  intro env A E s loc h Q st q
  refine wpAny_UnaryOp (he.use ok st q fun v h1 hp1 tk1 q1 st1 S1 => ?_)
  obtain ⟨x, hx, q2⟩ := q1
  obtain ⟨t, rfl⟩ := er_int hx
  exact PyProof.Rows.neg_int ⟨h1, hp1, tk1 + 1, rfl, S1, q2⟩
end

structure DefAt (W : Wd) (x : Str) (f : Addr) : Prop where
  g : GlobAt W x (.ref f)
  obj : ∃ o fd, W.h₀.get? f = some o ∧ o.data = .func fd

section
variable {W : Wd} (ok : WdOk W) {n : Nat} {sc : Scope} {vm : VM}
include ok
theorem ev_def {x : Str} {f : Addr} {np pos : Pos} {e : Expr} {es : List Expr} {t : EsT} {p} (D : DefAt W x f) (hx : sc.names.lookup x = some .globalImplicit)
    (hd : (x == ("__debug__" : Str)) = false) (hes : EsOk W n sc vm (e :: es) t) (hp : FOk W n (.ref f) p)
    (hs : ∀ env, starEach (e :: es) env = (false, eval e env) :: starEach es env) :
    EvOk W n sc vm (.Call (.Name x np) (e :: es) [] pos) (T.call t p) := by
  obtain ⟨o, fd, ho, hod⟩ := D.obj
  exact ev_callF ok D.g hx hd ho hod hes hp hs
theorem ev_defK {x : Str} {f : Addr} {np pos kp : Pos} {e ke : Expr} {es : List Expr} {kn : Str} {t : EsT} {kt : ET} {p} (D : DefAt W x f) (hx : sc.names.lookup x = some .globalImplicit)
    (hd : (x == ("__debug__" : Str)) = false) (hes : EsOk W n sc vm (e :: es) t) (hk : EvOk W n sc vm ke kt) (hp : FkOk W n (.ref f) kn p)
    (hs : ∀ env, starEach (e :: es) env = (false, eval e env) :: starEach es env) :
    EvOk W n sc vm (.Call (.Name x np) (e :: es) [⟨some kn, ke, kp⟩] pos) (T.call (T.ekw t kt) p) := by
  obtain ⟨o, fd, ho, hod⟩ := D.obj
  exact ev_callK ok D.g hx hd ho hod hes hk hp hs
theorem ev_defV {y : Str} {i : Nat} {x : Str} {f : Addr} {np pos : Pos} {e : Expr} {es : List Expr} {t : EsT} {p} (D : DefAt W y f) (hv : EvOk W n sc vm (.Name x np) (T.var i)) (hes : EsOk W n sc vm (e :: es) t) (hp : FOk W n (.ref f) p)
    (hs : ∀ env, starEach (e :: es) env = (false, eval e env) :: starEach es env) :
    EvOk W n sc vm (.Call (.Name x np) (e :: es) [] pos) (T.callv i f t p) := by
  obtain ⟨o, fd, ho, hod⟩ := D.obj
  exact ev_callV ok hv ho hod hes hp hs
end

/-! the program's text -/
def bodyAt (p : Program) (k : Nat) : List Stmt := match p.main.body[k]? with
  | some (.FunctionDef _ _ b _ _ _ _ _ _ _) => b
  | _ => []
def scopeAt (p : Program) (k : Nat) : Scope := match p.main.body[k]? with
  | some (.FunctionDef _ _ _ _ _ _ s _ _ _) => s
  | _ => default
end Mini

/-! MiniK -/
namespace Mini

def Ext (h h' : AH) : Prop := ∀ a c, h a = some c → h' a = some c
theorem Ext.refl (h : AH) : Ext h h := fun _ _ e => e
theorem Ext.trans {a b c : AH} (x : Ext a b) (y : Ext b c) : Ext a c := fun p q e => y p q (x p q e)
theorem Ext.new {h : AH} {a : Addr} {c : Cell} (ha : h a = none) : Ext h (upd h a c) := fun p q e => by
  by_cases hp : p = a
  · subst hp; rw [ha] at e; cases e
  · rw [upd_ne hp]; exact e
theorem Ext.set {h h' : AH} {a : Addr} {c : Cell} (x : Ext h h') (ha : h a = none) : Ext h (upd h' a c) := fun p q e => by
  by_cases hp : p = a
  · subst hp; rw [ha] at e; cases e
  · rw [upd_ne hp]; exact x p q e
theorem Ext.none {h h' : AH} (x : Ext h h') {a : Addr} (ha : h' a = none) : h a = none := by
  cases q : h a with
  | none => rfl
  | some c => rw [x a c q] at ha; cases ha
theorem ne_of {h : AH} {a b : Addr} {c : Cell} (ha : h a = some c) (hb : h b = none) : a ≠ b := fun q => by rw [q, hb] at ha; cases ha

def Incr (is : List Int) : Prop := ∀ i j (hi : i < is.length) (hj : j < is.length), i ≤ j → is[i] ≤ is[j]
def SIncr (is : List Int) : Prop := is.Pairwise (· < ·)
theorem SIncr.incr {is : List Int} (h : SIncr is) : Incr is := fun i j hi hj hij => by
  rcases Nat.lt_or_eq_of_le hij with q | q
  · exact Int.le_of_lt (List.pairwise_iff_getElem.mp h i j hi hj q)
  · subst q; exact Int.le_refl _

theorem getI {is : List Int} {i : Nat} (h : i < is.length) : (is.map AV.int)[i]? = some (.int is[i]) := by
  rw [List.getElem?_map, List.getElem?_eq_getElem h]; rfl
theorem rangeL_get {lo st : Int} {n i : Nat} (h : i < n) : ((rangeL lo st n).map AV.int)[i]? = some (.int (lo + (i : Int) * st)) := by simp [rangeL, h]
theorem rangeL_end {lo st : Int} {n i : Nat} (h : n ≤ i) : ((rangeL lo st n).map AV.int)[i]? = none := by
  rw [List.getElem?_eq_none_iff]; simp [rangeL]; exact h
theorem rangeL_len {lo st : Int} {n : Nat} : ((rangeL lo st n).map AV.int).length = n := by simp [rangeL]
theorem items_list {h : AH} {a : Addr} {xs : List AV} (e : h a = some (.list xs)) : (Src.list a).items h = some xs := by simp only [Src.items, e]

/-- a comprehension whose test and element change nothing -/
theorem comp_pure {B : Addr} {src : Src} {h1 : AH} {xs : List AV} {loc : Loc} {i : Nat} {c : TT} {e : ET} {Q : AV → AH → Prop} {p : AV → Bool} {g : AV → AV}
    (hs : src.items h1 = some xs) (hl : xs.length ≤ 2 ^ 19)
    (he : ∀ v, v ∈ xs → ∀ h2 : AH, Ext h1 h2 → (∀ Q' : Bool → AH → Prop, Q' (p v) h2 → c (upd loc i v) h2 Q') ∧ (p v = true → ∀ Q' : AV → AH → Prop, Q' (g v) h2 → e (upd loc i v) h2 Q'))
    (hQ : ∀ D, B ≤ D → h1 D = none → Q (.ref D) (upd h1 D (.list ((xs.filter p).map g)))) :
    ∀ D, B ≤ D → h1 D = none → ∃ (I : Nat → List AV → AH → Prop) (N : Nat), I 0 [] (upd h1 D (.list [])) ∧ ∀ k ys h, I k ys h → h D = some (.list ys) ∧ ys.length < 2 ^ 20 ∧ ∃ xs, src.items h = some xs ∧ xs.length ≤ N ∧
      match xs[k]? with
      | Option.none => Q (.ref D) h
      | some v => c (upd loc i v) h fun b h2 => if b then e (upd loc i v) h2 fun y h3 => h3 D = some (.list ys) ∧ I (k + 1) (ys ++ [y]) (upd h3 D (.list (ys ++ [y]))) else I (k + 1) ys h2 := by
  intro D hB hD
  have hitems : ∀ ys, src.items (upd h1 D (.list ys)) = some xs := fun ys => by
    cases src with
    | list a =>
      simp only [Src.items] at hs ⊢
      have : a ≠ D := fun q => by rw [q, hD] at hs; cases hs
      rw [upd_ne this]; exact hs
    | tup a =>
      simp only [Src.items] at hs ⊢
      have : a ≠ D := fun q => by rw [q, hD] at hs; cases hs
      rw [upd_ne this]; exact hs
    | range _ _ _ => exact hs
  have hupd : ∀ ys zs, upd (upd h1 D (.list ys)) D (.list zs) = upd h1 D (.list zs) := fun ys zs => by
    funext b
    by_cases hb : b = D
    · subst hb; rw [upd_same, upd_same]
    · rw [upd_ne hb, upd_ne hb, upd_ne hb]
  refine ⟨fun k ys h => h = upd h1 D (.list ys) ∧ k ≤ xs.length ∧ ys = ((xs.take k).filter p).map g, xs.length, ⟨rfl, Nat.zero_le _, by simp⟩, ?_⟩
  rintro k _ _ ⟨rfl, hk, rfl⟩
  have hlen : (((xs.take k).filter p).map g).length < 2 ^ 20 := by
    rw [List.length_map]
    have h1 := List.length_filter_le p (xs.take k)
    rw [List.length_take] at h1
    omega
  refine ⟨upd_same .., hlen, xs, hitems _, Nat.le_refl _, ?_⟩
  cases q : xs[k]? with
  | none =>
    rw [List.getElem?_eq_none_iff] at q
    have : xs.take k = xs := List.take_of_length_le (by omega)
    rw [this]; exact hQ D hB hD
  | some v =>
    have hlt : k < xs.length := by
      rcases Nat.lt_or_ge k xs.length with r | r
      · exact r
      · rw [List.getElem?_eq_none r] at q; cases q
    have hv : v ∈ xs := List.mem_of_getElem? q
    have hstep : xs.take (k + 1) = xs.take k ++ [v] := by
      rw [List.take_add_one, q]; rfl
    obtain ⟨hc, hee⟩ := he v hv (upd h1 D (.list (((xs.take k).filter p).map g))) (Ext.new hD)
    refine hc _ ?_
    cases hp : p v with
    | true =>
      rw [if_pos rfl]
      refine hee hp _ ⟨upd_same .., hupd _ _, hlt, ?_⟩
      rw [hstep, List.filter_append]; simp [hp]
    | false =>
      rw [if_neg (by decide)]
      refine ⟨rfl, hlt, ?_⟩
      rw [hstep, List.filter_append]; simp [hp]

theorem T.yes_ok {loc : Loc} {h : AH} {Q : Bool → AH → Prop} (q : Q true h) : T.yes loc h Q := q

theorem comp_map {B : Addr} {src : Src} {h1 : AH} {xs : List AV} {loc : Loc} {i : Nat} {e : ET} {Q : AV → AH → Prop} {g : AV → AV}
    (hs : src.items h1 = some xs) (hl : xs.length ≤ 2 ^ 19)
    (he : ∀ v, v ∈ xs → ∀ h2 : AH, Ext h1 h2 → ∀ Q' : AV → AH → Prop, Q' (g v) h2 → e (upd loc i v) h2 Q')
    (hQ : ∀ D, B ≤ D → h1 D = none → Q (.ref D) (upd h1 D (.list (xs.map g)))) :
    ∀ D, B ≤ D → h1 D = none → ∃ (I : Nat → List AV → AH → Prop) (N : Nat), I 0 [] (upd h1 D (.list [])) ∧ ∀ k ys h, I k ys h → h D = some (.list ys) ∧ ys.length < 2 ^ 20 ∧ ∃ xs, src.items h = some xs ∧ xs.length ≤ N ∧
      match xs[k]? with
      | Option.none => Q (.ref D) h
      | some v => T.yes (upd loc i v) h fun b h2 => if b then e (upd loc i v) h2 fun y h3 => h3 D = some (.list ys) ∧ I (k + 1) (ys ++ [y]) (upd h3 D (.list (ys ++ [y]))) else I (k + 1) ys h2 :=
  comp_pure (p := fun _ => true) (g := g) hs hl (fun v hv h2 hx => ⟨fun Q' q => q, fun _ => he v hv h2 hx⟩) (fun D hB hD => by
    have : xs.filter (fun _ => true) = xs := List.filter_eq_self.mpr (fun _ _ => rfl)
    rw [this]; exact hQ D hB hD)

/-- a new item in its place keeps a rising list rising -/
theorem ins_sorted {ms : List Int} {v : Int} {p : Nat} (h : SIncr ms) (hp : p ≤ ms.length) (h1 : ∀ i (hi : i < ms.length), i < p → ms[i] < v) (h2 : ∀ i (hi : i < ms.length), p ≤ i → v < ms[i]) : SIncr (ms.take p ++ v :: ms.drop p) := by
  unfold SIncr at *
  rw [List.pairwise_append]
  refine ⟨h.sublist (List.take_sublist _ _), ?_, ?_⟩
  · rw [List.pairwise_cons]
    refine ⟨fun y hy => ?_, h.sublist (List.drop_sublist _ _)⟩
    obtain ⟨i, hi, rfl⟩ := List.getElem_of_mem hy
    rw [List.getElem_drop]
    exact h2 _ _ (by omega)
  · intro x hx y hy
    obtain ⟨i, hi, rfl⟩ := List.getElem_of_mem hx
    rw [List.length_take] at hi
    rw [List.getElem_take]
    have hxv := h1 i (by omega) (by omega)
    rcases List.mem_cons.mp hy with rfl | hy
    · exact hxv
    · obtain ⟨j, hj, rfl⟩ := List.getElem_of_mem hy
      rw [List.getElem_drop]
      rw [List.length_drop] at hj
      exact Int.lt_trans hxv (h2 _ (by omega) (by omega))
theorem mem_ins {ms : List Int} {v w : Int} {p : Nat} : w ∈ ms.take p ++ v :: ms.drop p ↔ w = v ∨ w ∈ ms := by
  rw [List.mem_append, List.mem_cons]
  constructor
  · rintro (h | h | h)
    · exact .inr (List.mem_of_mem_take h)
    · exact .inl h
    · exact .inr (List.mem_of_mem_drop h)
  · rintro (h | h)
    · exact .inr (.inl h)
    · rw [← List.take_append_drop p ms, List.mem_append] at h
      rcases h with h | h
      · exact .inl h
      · exact .inr (.inr h)
end Mini

/-! MiniL -/
namespace Mini

/-! the transformers, entered one at a time -/
section
variable {B : Addr} {loc : Loc} {h : AH} {i : Nat}
theorem i_seq {a b : ST} {Q : Fl → Loc → AH → Prop} (q : a loc h fun f loc1 h1 => match f with | .next => b loc1 h1 Q | f => Q f loc1 h1) : T.seq a b loc h Q := q
theorem i_asg {e : ET} {Q : Fl → Loc → AH → Prop} (q : e loc h fun v h1 => Q .next (upd loc i v) h1) : T.asg i e loc h Q := q
theorem i_ret {e : ET} {Q : Fl → Loc → AH → Prop} (q : e loc h fun v h1 => Q (.ret v) loc h1) : T.ret e loc h Q := q
theorem i_expr {e : ET} {Q : Fl → Loc → AH → Prop} (q : e loc h fun v h1 => Q .next loc h1) : T.expr e loc h Q := q
theorem i_skip {Q : Fl → Loc → AH → Prop} (q : Q .next loc h) : T.skip loc h Q := q
theorem i_ife {t : TT} {a b : ST} {Q : Fl → Loc → AH → Prop} (q : t loc h fun c h1 => if c then a loc h1 Q else b loc h1 Q) : T.ife t a b loc h Q := q
theorem i_var {v : AV} {Q : AV → AH → Prop} (hv : loc i = some v) (q : Q v h) : T.var i loc h Q := ⟨v, hv, q⟩
theorem i_int {k : Int} {Q : AV → AH → Prop} (q : Q (.int k) h) : T.int k loc h Q := q
theorem i_bin {p : P.Op} {a b : ET} {Q : AV → AH → Prop} (q : a loc h fun x h1 => b loc h1 fun y h2 => p x y h2 Q) : T.bin p a b loc h Q := q
theorem i_cmp {p : P.Cm} {a b : ET} {Q : Bool → AH → Prop} (q : a loc h fun x h1 => b loc h1 fun y h2 => p x y h2 Q) : T.cmp p a b loc h Q := q
theorem i_add {x y : Int} {Q : AV → AH → Prop} (q : Q (.int (x + y)) h) : P.add (.int x) (.int y) h Q := ⟨x, y, rfl, rfl, q⟩
theorem i_sub {x y : Int} {Q : AV → AH → Prop} (q : Q (.int (x - y)) h) : P.sub (.int x) (.int y) h Q := ⟨x, y, rfl, rfl, q⟩
theorem i_call {t : EsT} {p : F.Fn} {Q : AV → AH → Prop} (q : t loc h fun vs h1 => p vs h1 Q) : T.call t p loc h Q := q
theorem i_nil {Q : List AV → AH → Prop} (q : Q [] h) : T.enil loc h Q := q
theorem i_cons {f : ET} {g : EsT} {Q : List AV → AH → Prop} (q : f loc h fun v h1 => g loc h1 fun vs h2 => Q (v :: vs) h2) : T.econs f g loc h Q := q
theorem i_list {t : EsT} {Q : AV → AH → Prop} (q : t loc h fun vs h1 => vs.length ≤ 2 ^ 20 ∧ New B h1 (.list vs) Q) : T.list B t loc h Q := q
theorem i_itL {a : Addr} {xs : List AV} {Q : Src → AH → Prop} (hv : loc i = some (.ref a)) (ha : h a = some (.list xs)) (q : Q (.list a) h) : T.itL (T.var i) loc h Q := ⟨_, hv, a, xs, rfl, ha, q⟩
theorem i_itR1 {f : EsT} {Q : Src → AH → Prop} (q : f loc h fun vs h1 => ∃ b : Int, vs = [.int b] ∧ T.small b ∧ Q (.range 0 1 b.toNat) h1) : T.itR1 f loc h Q := q
theorem i_len {l : Addr} {xs : List AV} {Q : AV → AH → Prop} (hi : loc i = some (.ref l)) (hl : h l = some (.list xs)) (hs : xs.length < 2 ^ 24) (q : Q (.int xs.length) h) :
    T.call (T.econs (T.var i) T.enil) F.len loc h Q := ⟨_, hi, l, xs, rfl, hl, hs, q⟩
theorem i_idx {l : Addr} {xs : List AV} {k : Nat} {v : AV} {Q : AV → AH → Prop} (hi : loc i = some (.ref l)) (hl : h l = some (.list xs)) (hk : k < 2 ^ 62) (hx : xs[k]? = some v) (q : Q v h) :
    T.idx (T.var i) (T.int k) loc h Q := ⟨_, hi, l, xs, k, v, rfl, rfl, hl, by omega, by omega, hx, q⟩
theorem i_comp {it : ItT} {c : TT} {e : ET} {Q : AV → AH → Prop} (q : it loc h fun src h1 => ∀ D, B ≤ D → h1 D = none →
  ∃ (I : Nat → List AV → AH → Prop) (N : Nat), I 0 [] (upd h1 D (.list [])) ∧ ∀ k ys h, I k ys h → h D = some (.list ys) ∧ ys.length < 2 ^ 20 ∧ ∃ xs, src.items h = some xs ∧ xs.length ≤ N ∧
    match xs[k]? with
    | Option.none => Q (.ref D) h
    | some v => c (upd loc i v) h fun b h2 => if b then e (upd loc i v) h2 fun y h3 => h3 D = some (.list ys) ∧ I (k + 1) (ys ++ [y]) (upd h3 D (.list (ys ++ [y]))) else I (k + 1) ys h2) : T.comp B it i c e loc h Q := q
end
end Mini

/-! MiniM -/
namespace Mini

theorem cells_fresh {W : Wd} {h : AH} {hp : Heap} (Rc : ∀ a c, h a = some c → CellAt W hp a c) {a : Addr} (ha : hp.get? a = Option.none) : h a = Option.none := by
  cases q : h a with
  | none => rfl
  | some c =>
    have := Rc a c q
    cases c with
    | list xs => obtain ⟨vs, ⟨o, ho⟩, _⟩ := this; rw [ha] at ho; cases ho
    | tup xs => obtain ⟨vs, ⟨o, ho⟩, _⟩ := this; rw [ha] at ho; cases ho
    | idict es => exact this.elim
    | tdict es => exact this.elim

/-- the call at the top: the given heap has no witness of its own -/
theorem fn_top {W : Wd} (ok : WdOk W) {n : Nat} {f : Addr} {fd : FuncData} {body : List Stmt} {vm : VM} {t : ST} {names : List Str} (FA : FnAt W f fd body) (hb : BkOk W n fd.scope vm body t)
    (hvm : ∀ i x, vm i = some x → ∀ y, names[i]? = some y → x = y) (hnd : names.Nodup) (hkind : ∀ x ∈ names, fd.scope.names.lookup x = some .local ∨ fd.scope.names.lookup x = some .cell)
    {A : Around} {E : Value → Shared → Prop} {s : Shared} {args : Args} {vals : List Value} {h : AH} {Q : AV → AH → Prop} (cx : Cx (n + 1) A) (Rc : ∀ a c, h a = some c → CellAt W s.heap a c) (Rb : ∀ b o, W.h₀.get? b = some o → s.heap.get? b = some o) (Rs : W.B ≤ s.heap.objs.size)
    (hbind : ∀ s' : Shared, (∀ b o, W.h₀.get? b = some o → s'.heap.get? b = some o) → BindsTo s' fd args (names.zip vals)) (hlen : vals.length = names.length)
    (q : t (fun i => (vals.map er)[i]?) h (FnRet Q)) : codeAny (model W.prog W.w) A (.call (.ref f) args) (fun r s' => match r with | .ok (.ret v) => Res W h s Q v s' | .ok _ => False | .error e => E e s') s := by
  obtain ⟨o, ho, hd⟩ := FA.obj
  refine codeAny_call_function (by have := cx.dp; omega) (Rb _ _ ho) hd FA.cor FA.gen FA.bdy (FA.code.keeps Rb) (hbind s Rb _ _ _ _ ?_)
  have hfst : (names.zip vals).map (·.1) = names := List.map_fst_zip (by omega)
  rw [FA.clo, FA.glo, FA.blt]
  refine wpAny_newFunctionEnv_cells FA.knd (fun x hx => ?_) (fun env henv s' X => ?_)
  · have hm : x.1 ∈ names := by rw [← hfst]; exact List.mem_map_of_mem hx
    rcases hkind x.1 hm with e | e
    · exact .inl e
    · exact .inr ⟨e, cellsFrom_some _ _ _ (.inl e)⟩
  have keep := X.toInCall.keep
  refine ⟨(ok.nolimit.keeps Rb).keeps keep, codeAny_func ?_⟩
  obtain ⟨h1, tk1, rfl, -⟩ := X.done
  have hscope : env.scope = fd.scope := by rw [henv]; rfl
  have hloc : env.locals = s.heap.objs.size := by rw [henv]; rfl
  have hcells : env.cells = cellsFrom (s.heap.objs.size + 1) fd.scope.names [] := by rw [henv]; rfl
  have above : ∀ x c, env.cells.lookup x = some c → s.heap.objs.size < c := fun x c e => hloc ▸ X.above x c (mem_of_lookup e)
  have hnone : ∀ b, s.heap.objs.size ≤ b → h b = none := fun b hb' => by
    refine cells_fresh Rc ?_
    cases q : s.heap.get? b with
    | none => rfl
    | some o => exact absurd (Heap.lt_size q) (Nat.not_lt.mpr hb')
  have R1 : Rel W h h1 := by
    obtain ⟨oL, hoL⟩ := ns_some X.toInCall.ns
    exact ⟨fun a c e => (Rc a c e).mono (fun o => keep a o) (fun b o e _ => keep b o e), fun b o e => keep b o (Rb b o e), ⟨_, oL, by rw [hloc]; exact Rs, by rw [hloc]; exact hnone _ (Nat.le_refl _), hoL⟩⟩
  have inb : ∀ i x av, vm i = some x → (vals.map er)[i]? = some av → ∃ v, (x, v) ∈ names.zip vals ∧ er v = av := by
    intro i x av h1 h2
    rw [List.getElem?_map] at h2
    obtain ⟨v, hv, rfl⟩ := Option.map_eq_some_iff.mp h2
    have hi : i < vals.length := by
      rcases Nat.lt_or_ge i vals.length with q | q
      · exact q
      · rw [List.getElem?_eq_none q] at hv; cases hv
    have hn : names[i]? = some names[i] := List.getElem?_eq_getElem (by omega)
    have := hvm i x h1 _ hn
    refine ⟨v, ?_, rfl⟩
    have hz : (names.zip vals)[i]? = some (names[i], v) := by
      rw [List.getElem?_zip_eq_some]; exact ⟨hn, hv⟩
    rw [this]; exact List.mem_of_getElem? hz
  have F : Frm W env vm (fun i => (vals.map er)[i]?) h h1 := by
    refine ⟨by rw [hscope]; exact FA.knd, by rw [henv]; rfl, by rw [henv]; rfl, by rw [hloc]; exact Rs, by rw [hloc]; exact hnone _ (Nat.le_refl _), ⟨_, X.toInCall.ns, fun i x av e1 e2 e3 => ?_⟩, fun x c e => ?_, fun i x av e1 e2 e3 => ?_, fun x y c e1 e2 => ?_, fun x e => ?_⟩
    · obtain ⟨v, hv, hev⟩ := inb i x av e1 e3
      exact ⟨v, bindL_mem e2 (by rw [hfst]; exact hnd) hv, hev⟩
    · have := above x c e
      exact ⟨Nat.le_trans Rs (Nat.le_of_lt this), hnone c (Nat.le_of_lt this), by rw [hloc]; exact Nat.ne_of_gt this, _, X.cell x c e⟩
    · obtain ⟨v, hv, hev⟩ := inb i x av e1 e3
      have hc : env.kindOf x = some .cell := by
        rcases e2 with e2 | e2
        · exact e2
        · have hm : x ∈ names := by rw [← hfst]; exact List.mem_map_of_mem hv
          unfold Env.kindOf at e2
          rw [hscope] at e2
          rcases hkind x hm with e | e <;> rw [e] at e2 <;> cases e2
      have hs : (env.cells.lookup x).isSome = true := by
        rw [hcells]; exact cellsFrom_some _ _ _ (.inl (by unfold Env.kindOf at hc; rw [hscope] at hc; exact hc))
      obtain ⟨c, hc'⟩ := Option.isSome_iff_exists.mp hs
      refine ⟨c, v, hc', ?_, hev⟩
      have := X.cell x c hc'
      rw [bindC_mem hc (by rw [hfst]; exact hnd) hv] at this
      exact this
    · exact name_of_addr X.apart (mem_of_lookup e1) (mem_of_lookup e2)
    · have hs : (env.cells.lookup x).isSome = true := by
        rw [hcells]; exact cellsFrom_some _ _ _ (.inl (by unfold Env.kindOf at e; rw [hscope] at e; exact e))
      exact Option.isSome_iff_exists.mp hs
  have st : St W n fd.scope vm env (A.deeper env) (fun i => (vals.map er)[i]?) h { s with heap := h1, toks := tk1 } := ⟨hscope, cx.deeper env, F, R1⟩
  refine wpAny_mono (hb env (A.deeper env) (fun _ _ => False) _ _ h _ st q) ?_ fun _ _ x => x.elim
  rintro fl s2 ⟨loc2, h2, hp2, tk2, rfl, S2, F2, q2⟩
  have hS : Step W h s.heap h2 hp2 := by
    refine ⟨S2.cells, fun b o e c => ?_, fun b e1 e2 => ?_, S2.dom⟩
    · refine S2.keep b o (keep b o e) ?_ c
      have hlt := Heap.lt_size e
      rintro (q | ⟨x, q⟩)
      · rw [q, hloc] at hlt; exact Nat.lt_irrefl _ hlt
      · exact Nat.lt_irrefl _ (Nat.lt_trans (above x b q) hlt)
    · obtain ⟨e3, e4⟩ := S2.fresh b e1 e2
      refine ⟨?_, e4⟩
      cases q : s.heap.get? b with
      | none => rfl
      | some o => have := keep b o q; rw [e3] at this; cases this
  cases fl with
  | ret v => exact ⟨h2, hp2, tk2, rfl, hS, q2⟩
  | next => exact ⟨h2, hp2, tk2, rfl, hS, q2⟩
  | brk => exact ⟨h2, hp2, tk2, rfl, hS, q2⟩
  | cont => exact ⟨h2, hp2, tk2, rfl, hS, q2⟩

/-! what the written part of the heap says -/
section
variable {K : Frag} {prog : Program} {w : World} {h₀ : Heap} {B : Addr}
theorem glob_def {p : Program} {loose : List Str} {mean : ExcName → Option Value} {mg mb : Str → Option Value} (X : K.In h₀) (T : Top p loose mean mg mb h₀) {x : Str} {v : Value} (e : nsIn K mainGlobals x = some (some v)) :
    GlobAt ⟨prog, w, h₀, B⟩ x v := fun hp k => ⟨mg, mb, (T.keeps k).g, (T.keeps k).b, .inl (mg_of X T.g e)⟩
theorem glob_blt {p : Program} {loose : List Str} {mean : ExcName → Option Value} {mg mb : Str → Option Value} (X : K.In h₀) (T : Top p loose mean mg mb h₀) {x : Str} {v : Value} (e : nsIn K mainGlobals x = some none)
    (hv : bootBuiltins x = some v) (hn : x ≠ "__name__") : GlobAt ⟨prog, w, h₀, B⟩ x v := fun hp k => ⟨mg, mb, (T.keeps k).g, (T.keeps k).b, .inr ⟨mg_none_of X T.g e, (T.builtins x hn).trans hv⟩⟩

/-- a def's record in the written part -/
structure FnIn (K : Frag) (f : Addr) (fd : FuncData) (body : List Stmt) (sc : Scope) : Prop where
  obj : ∃ c d sl, K.lookup f = some ⟨c, d, .func fd, sl⟩
  code : codeIn K fd.code fd.qualname = true
  clo : fd.closure = []
  glo : fd.globals = mainGlobals
  blt : fd.builtins = builtinsNs
  bdy : fd.body = .stmts body
  scp : fd.scope = sc
theorem FnIn.at {f : Addr} {fd : FuncData} {body : List Stmt} {sc : Scope} (F : FnIn K f fd body sc) (X : K.In h₀) (knd : sc.kind = .function) (cor : sc.isCoroutine = false) (gen : sc.isGenerator = false) : FnAt ⟨prog, w, h₀, B⟩ f fd body := by
  obtain ⟨c, d, sl, e⟩ := F.obj
  exact ⟨⟨_, X _ _ e, rfl⟩, codeRec_of X F.code, F.clo, F.glo, F.blt, F.bdy, by rw [F.scp]; exact knd, by rw [F.scp]; exact cor, by rw [F.scp]; exact gen⟩
theorem FnIn.def {p : Program} {loose : List Str} {mean : ExcName → Option Value} {mg mb : Str → Option Value} {f : Addr} {fd : FuncData} {body : List Stmt} {sc : Scope} {x : Str} (F : FnIn K f fd body sc) (X : K.In h₀) (T : Top p loose mean mg mb h₀) (e : nsIn K mainGlobals x = some (some (.ref f))) :
    DefAt ⟨prog, w, h₀, B⟩ x f := by
  obtain ⟨c, d, sl, e2⟩ := F.obj
  exact ⟨glob_def X T e, _, _, X _ _ e2, rfl⟩
theorem binds_peek {fd : FuncData} {args : Args} {binds : List (Str × Value)} (X : K.In h₀) (e : ∀ S : Setting, peek K S (bindArgs fd args) = some binds) (s : Shared) (k : ∀ b o, h₀.get? b = some o → s.heap.get? b = some o) : BindsTo s fd args binds :=
  fun M A E Q q => Looks.of_peek (X.keeps k) (e _) A Q E s (fun _ _ e => e) q
end

theorem vm_names {l : List (Nat × Str)} {names : List Str} (h : (l.all fun p => match names[p.1]? with | some y => p.2 == y | none => true) = true) : ∀ i x, vmOf l i = some x → ∀ y, names[i]? = some y → x = y := by
  intro i x h1 y h2
  have := List.all_eq_true.mp h _ (vm_mem h1)
  dsimp only at this
  rw [h2] at this
  exact beq_iff_eq.mp this

def fdOf (K : Frag) (a : Addr) : FuncData := match K.lookup a with
  | some ⟨_, _, .func fd, _⟩ => fd
  | _ => default
end Mini

/-! L2T -/
namespace Mini
/-- bisect_left: 0 a, 1 x, 2 lo, 3 hi, 4 key, 5 mid -/
def t_bis (B : Addr) : ST :=
  (T.seq (T.ife (T.cmp P.lt (T.var 2) (T.int 0))
   T.sbad
   T.skip)
  (T.seq (T.ife (T.cmp P.isN (T.var 3) T.none)
   (T.asg 3 (T.call (T.econs (T.var 0) T.enil) F.len))
   T.skip)
  (T.seq (T.ife (T.cmp P.isN (T.var 4) T.none)
   (T.while_ (T.cmp P.lt (T.var 2) (T.var 3))
   (T.seq (T.asg 5 (T.bin P.fdiv (T.bin P.add (T.var 2) (T.var 3)) (T.int 2)))
  (T.ife (T.cmp P.lt (T.idx (T.var 0) (T.var 5)) (T.var 1))
   (T.asg 2 (T.bin P.add (T.var 5) (T.int 1)))
   (T.asg 3 (T.var 5)))))
   T.sbad)
  (T.ret (T.var 2)))))
def v_bis : List (Nat × Str) := [(0, "a"), (1, "x"), (2, "lo"), (3, "hi"), (4, "key"), (5, "mid")]
def n_bis : List Str := ["a", "x", "lo", "hi", "key"]
def f_bis2 (B : Addr) : F.Fn := fun avs h Q => avs.length = 2 ∧ fnT (fun avs => avs ++ [.int 0, .none, .none]) (t_bis B) avs h Q

/-- _law_marks: 0 values, 1 marks, 2 v, 3 place -/
def t_marks (B : Addr) : ST :=
  (T.seq (T.asg 1 (T.list B T.enil))
  (T.seq (T.for_ (T.itL (T.var 0)) (T.asN 2)
   (T.seq (T.asg 3 (T.call (T.econs (T.var 1) (T.econs (T.var 2) T.enil)) (f_bis2 B)))
  (T.ife (T.or (T.cmp P.eqI (T.var 3) (T.call (T.econs (T.var 1) T.enil) F.len)) (T.cmp P.neI (T.idx (T.var 1) (T.var 3)) (T.var 2)))
   (T.expr (T.meth (T.var 1) (T.econs (T.var 3) (T.econs (T.var 2) T.enil)) (F.insert B)))
   T.skip)))
  (T.ret (T.var 1))))
def v_marks : List (Nat × Str) := [(0, "values"), (1, "marks"), (2, "v"), (3, "place")]
def n_marks : List Str := ["values"]
def f_marks (B : Addr) : F.Fn := fun avs h Q => avs.length = 1 ∧ fnT (fun avs => avs) (t_marks B) avs h Q

/-- _law_sweep: 0 boxes, 1 lefts, 2 lows, 3 changes, 4 one, 5 lower, 6 upper, 7 depth, 8 told, 9 s, 10 step, 11 c -/
def t_sweep (B : Addr) : ST :=
  (T.seq (T.asg 1 (T.call (T.econs (T.bin (P.addL B) (T.comp B (T.itL (T.var 0)) 15 T.yes (T.idx (T.var 15) (T.int 0))) (T.comp B (T.itL (T.var 0)) 16 T.yes (T.idx (T.var 16) (T.int 1)))) T.enil) (f_marks B)))
  (T.seq (T.asg 2 (T.call (T.econs (T.bin (P.addL B) (T.comp B (T.itL (T.var 0)) 13 T.yes (T.idx (T.var 13) (T.int 2))) (T.comp B (T.itL (T.var 0)) 14 T.yes (T.idx (T.var 14) (T.int 3)))) T.enil) (f_marks B)))
  (T.seq (T.asg 3 (T.comp B (T.itL (T.var 1)) 12 T.yes (T.list B T.enil)))
  (T.seq (T.for_ (T.itL (T.var 0)) (T.asN 4)
   (T.seq (T.asg 5 (T.call (T.econs (T.var 2) (T.econs (T.idx (T.var 4) (T.int 2)) T.enil)) (f_bis2 B)))
  (T.seq (T.asg 6 (T.call (T.econs (T.var 2) (T.econs (T.idx (T.var 4) (T.int 3)) T.enil)) (f_bis2 B)))
  (T.seq (T.expr (T.meth (T.idx (T.var 3) (T.call (T.econs (T.var 1) (T.econs (T.idx (T.var 4) (T.int 0)) T.enil)) (f_bis2 B))) (T.econs (T.list B (T.econs (T.var 5) (T.econs (T.var 6) (T.econs (T.int 1) T.enil)))) T.enil) (F.append B)))
  (T.expr (T.meth (T.idx (T.var 3) (T.call (T.econs (T.var 1) (T.econs (T.idx (T.var 4) (T.int 1)) T.enil)) (f_bis2 B))) (T.econs (T.list B (T.econs (T.var 5) (T.econs (T.var 6) (T.econs (T.neg (T.int 1)) T.enil)))) T.enil) (F.append B)))))))
  (T.seq (T.asg 7 (T.bin (P.mulL B) (T.list B (T.econs (T.int 0) T.enil)) (T.call (T.econs (T.var 2) T.enil) F.len)))
  (T.seq (T.asg 8 (T.bin (P.mulL B) (T.list B (T.econs (T.int 0) T.enil)) (T.bin P.add (T.call (T.econs (T.var 0) T.enil) F.len) (T.int 1))))
  (T.seq (T.for_ (T.itR1 (T.econs (T.bin P.sub (T.call (T.econs (T.var 1) T.enil) F.len) (T.int 1)) T.enil)) (T.asN 9)
   (T.seq (T.for_ (T.itL (T.idx (T.var 3) (T.var 9))) (T.asT [5, 6, 10])
   (T.for_ (T.itR2 (T.econs (T.var 5) (T.econs (T.var 6) T.enil))) (T.asN 11)
   (T.setidx B (T.var 7) (T.var 11) (T.bin P.add (T.idx (T.var 7) (T.var 11)) (T.var 10)))))
  (T.for_ (T.itR1 (T.econs (T.bin P.sub (T.call (T.econs (T.var 2) T.enil) F.len) (T.int 1)) T.enil)) (T.asN 11)
   (T.augidx B (T.var 8) (T.idx (T.var 7) (T.var 11)) (T.bin P.mul (T.bin P.sub (T.idx (T.var 1) (T.bin P.add (T.var 9) (T.int 1))) (T.idx (T.var 1) (T.var 9))) (T.bin P.sub (T.idx (T.var 2) (T.bin P.add (T.var 11) (T.int 1))) (T.idx (T.var 2) (T.var 11))))))))
  (T.ret (T.var 8)))))))))
def v_sweep : List (Nat × Str) := [(0, "boxes"), (1, "lefts"), (2, "lows"), (3, "changes"), (4, "one"), (5, "lower"), (6, "upper"), (7, "depth"), (8, "told"), (9, "s"), (10, "step"), (11, "c")]
def n_sweep : List Str := ["boxes"]
def f_sweep (B : Addr) : F.Fn := fun avs h Q => avs.length = 1 ∧ fnT (fun avs => avs) (t_sweep B) avs h Q

/-- _law_common: 0 boxes, 1 around, 2 sums, 3 mask, 4 held, 5 left, 6 right, 7 low, 8 high -/
def t_common (B : Addr) : ST :=
  (T.seq (T.asg 1 (T.list B (T.econs (T.call (T.econs (T.comp B (T.itL (T.var 0)) 17 T.yes (T.idx (T.var 17) (T.int 0))) T.enil) F.minL) (T.econs (T.call (T.econs (T.comp B (T.itL (T.var 0)) 16 T.yes (T.idx (T.var 16) (T.int 1))) T.enil) F.maxL) (T.econs (T.call (T.econs (T.comp B (T.itL (T.var 0)) 15 T.yes (T.idx (T.var 15) (T.int 2))) T.enil) F.minL) (T.econs (T.call (T.econs (T.comp B (T.itL (T.var 0)) 14 T.yes (T.idx (T.var 14) (T.int 3))) T.enil) F.maxL) T.enil))))))
  (T.seq (T.asg 2 (T.bin (P.mulL B) (T.list B (T.econs (T.int 0) T.enil)) (T.bin P.add (T.call (T.econs (T.var 0) T.enil) F.len) (T.int 1))))
  (T.seq (T.for_ (T.itR1 (T.econs (T.bin P.pow (T.int 2) (T.call (T.econs (T.var 0) T.enil) F.len)) T.enil)) (T.asN 3)
   (T.seq (T.asg 4 (T.comp B (T.itR1 (T.econs (T.call (T.econs (T.var 0) T.enil) F.len) T.enil)) 13 (T.cmp P.eqI (T.bin P.band (T.bin P.shr (T.var 3) (T.var 13)) (T.int 1)) (T.int 1)) (T.idx (T.var 0) (T.var 13))))
  (T.seq (T.asg 5 (T.call (T.econs (T.bin (P.addL B) (T.list B (T.econs (T.idx (T.var 1) (T.int 0)) T.enil)) (T.comp B (T.itL (T.var 4)) 12 T.yes (T.idx (T.var 12) (T.int 0)))) T.enil) F.maxL))
  (T.seq (T.asg 6 (T.call (T.econs (T.bin (P.addL B) (T.list B (T.econs (T.idx (T.var 1) (T.int 1)) T.enil)) (T.comp B (T.itL (T.var 4)) 11 T.yes (T.idx (T.var 11) (T.int 1)))) T.enil) F.minL))
  (T.seq (T.asg 7 (T.call (T.econs (T.bin (P.addL B) (T.list B (T.econs (T.idx (T.var 1) (T.int 2)) T.enil)) (T.comp B (T.itL (T.var 4)) 10 T.yes (T.idx (T.var 10) (T.int 2)))) T.enil) F.maxL))
  (T.seq (T.asg 8 (T.call (T.econs (T.bin (P.addL B) (T.list B (T.econs (T.idx (T.var 1) (T.int 3)) T.enil)) (T.comp B (T.itL (T.var 4)) 9 T.yes (T.idx (T.var 9) (T.int 3)))) T.enil) F.minL))
  (T.ife (T.and (T.cmp P.lt (T.var 5) (T.var 6)) (T.cmp P.lt (T.var 7) (T.var 8)))
   (T.augidx B (T.var 2) (T.call (T.econs (T.var 4) T.enil) F.len) (T.bin P.mul (T.bin P.sub (T.var 6) (T.var 5)) (T.bin P.sub (T.var 8) (T.var 7))))
   T.skip)))))))
  (T.ret (T.var 2)))))
def v_common : List (Nat × Str) := [(0, "boxes"), (1, "around"), (2, "sums"), (3, "mask"), (4, "held"), (5, "left"), (6, "right"), (7, "low"), (8, "high")]
def n_common : List Str := ["boxes"]
def f_common (B : Addr) : F.Fn := fun avs h Q => avs.length = 1 ∧ fnT (fun avs => avs) (t_common B) avs h Q

/-- _law_choose: 0 top, 1 rows, 2 j -/
def t_choose (B : Addr) : ST :=
  (T.seq (T.asg 1 (T.list B (T.econs (T.list B (T.econs (T.int 1) T.enil)) T.enil)))
  (T.seq (T.for_ (T.itR1 (T.econs (T.var 0) T.enil)) (T.asN 2)
   (T.expr (T.meth (T.var 1) (T.econs (T.bin (P.addL B) (T.bin (P.addL B) (T.list B (T.econs (T.int 1) T.enil)) (T.comp B (T.itR1 (T.econs (T.var 2) T.enil)) 3 T.yes (T.bin P.add (T.idx (T.idx (T.var 1) (T.var 2)) (T.var 3)) (T.idx (T.idx (T.var 1) (T.var 2)) (T.bin P.add (T.var 3) (T.int 1)))))) (T.list B (T.econs (T.int 1) T.enil))) T.enil) (F.append B))))
  (T.ret (T.var 1))))
def v_choose : List (Nat × Str) := [(0, "top"), (1, "rows"), (2, "j")]
def n_choose : List Str := ["top"]
def f_choose (B : Addr) : F.Fn := fun avs h Q => avs.length = 1 ∧ fnT (fun avs => avs) (t_choose B) avs h Q

/-- law: 0 script, 1 first, 2 count, 3 numbers, 4 boxes, 5 k, 6 a, 7 b, 8 c, 9 d, 10 told, 11 sums, 12 rows, 13 due -/
def t_law (B : Addr) (g_MORE : Addr) : ST :=
  (T.seq (T.asg 1 (T.ifx (T.truL (T.var 0)) (T.call (T.econs (T.idx (T.var 0) (T.int 0)) T.enil) F.abs) (T.int 3)))
  (T.seq (T.asg 2 (T.bin P.add (T.int 1) (T.bin P.fmod (T.var 1) (T.int 6))))
  (T.seq (T.asg 3 (T.slice B (T.bin (P.addL B) (T.call (T.econs (T.slice B (T.var 0) (some (T.int 1)) none) T.enil) (F.listOf B)) (T.glob (.ref g_MORE))) none (some (T.bin P.mul (T.int 4) (T.var 2)))))
  (T.seq (T.ife (T.cmp P.eqI (T.bin P.fmod (T.bin P.fdiv (T.var 1) (T.int 6)) (T.int 2)) (T.int 1))
   (T.asg 3 (T.comp B (T.itL (T.var 3)) 16 T.yes (T.bin P.fmod (T.var 16) (T.int 7))))
   T.skip)
  (T.seq (T.asg 4 (T.list B T.enil))
  (T.seq (T.for_ (T.itR1 (T.econs (T.var 2) T.enil)) (T.asN 5)
   (T.seq (T.asgT [6, 7, 8, 9] (T.slice B (T.var 3) (some (T.bin P.mul (T.int 4) (T.var 5))) (some (T.bin P.add (T.bin P.mul (T.int 4) (T.var 5)) (T.int 4)))))
  (T.expr (T.meth (T.var 4) (T.econs (T.list B (T.econs (T.call (T.econs (T.var 6) (T.econs (T.var 7) T.enil)) F.min2) (T.econs (T.call (T.econs (T.var 6) (T.econs (T.var 7) T.enil)) F.max2) (T.econs (T.call (T.econs (T.var 8) (T.econs (T.var 9) T.enil)) F.min2) (T.econs (T.call (T.econs (T.var 8) (T.econs (T.var 9) T.enil)) F.max2) T.enil))))) T.enil) (F.append B)))))
  (T.seq (T.asg 10 (T.call (T.econs (T.var 4) T.enil) (f_sweep B)))
  (T.seq (T.asg 11 (T.call (T.econs (T.var 4) T.enil) (f_common B)))
  (T.seq (T.asg 12 (T.call (T.econs (T.var 2) T.enil) (f_choose B)))
  (T.seq (T.asg 13 (T.comp B (T.itR1 (T.econs (T.bin P.add (T.var 2) (T.int 1)) T.enil)) 14 T.yes (T.call (T.econs (T.comp B (T.itR2 (T.econs (T.var 14) (T.econs (T.bin P.add (T.var 2) (T.int 1)) T.enil))) 15 T.yes (T.bin P.mul (T.bin P.mul (T.bin P.pow (T.neg (T.int 1)) (T.bin P.sub (T.var 15) (T.var 14))) (T.idx (T.idx (T.var 12) (T.var 15)) (T.var 14))) (T.idx (T.var 11) (T.var 15)))) T.enil) F.sum)))
  (T.ret (T.val (T.cmp P.eqIL (T.var 10) (T.var 13))))))))))))))
def v_law : List (Nat × Str) := [(0, "script"), (1, "first"), (2, "count"), (3, "numbers"), (4, "boxes"), (5, "k"), (6, "a"), (7, "b"), (8, "c"), (9, "d"), (10, "told"), (11, "sums"), (12, "rows"), (13, "due")]
def n_law : List Str := ["script"]
def f_law (B : Addr) (g_MORE : Addr) : F.Fn := fun avs h Q => avs.length = 1 ∧ fnT (fun avs => avs) (t_law B g_MORE) avs h Q

end Mini

/-! L2A -/
namespace Mini
open PySem.Challenge
set_option maxHeartbeats 8000000 in
theorem bk_bis {W : Wd} (ok : WdOk W) {n : Nat}
    (g_len : GlobAt W "len" (.builtin "len")) :
    BkOk W n (scopeAt pw_ec5002_02 1) (vmOf v_bis) (bodyAt pw_ec5002_02 1) (t_bis W.B) := by
  have hj : VInj (vmOf v_bis) := vinj_of (by decide +kernel)
  exact (bk_cons ok (ex_if ok (ts_cmp ok cm_lt (by first | exact ev_local ok rfl rfl rfl | exact ev_cell ok rfl rfl rfl | exact ev_free ok rfl rfl rfl rfl) (ev_int ok) rfl)
   (bk_one ok ex_bad)
   (bk_nil ok))
  (bk_cons ok (ex_if ok (ts_cmp ok cm_isN (by first | exact ev_local ok rfl rfl rfl | exact ev_cell ok rfl rfl rfl | exact ev_free ok rfl rfl rfl rfl) (ev_none ok) rfl)
   (bk_one ok (ex_asg ok hj (ev_callB ok (.inl ⟨_, rfl⟩) g_len rfl rfl (es_cons ok (by first | exact ev_local ok rfl rfl rfl | exact ev_cell ok rfl rfl rfl | exact ev_free ok rfl rfl rfl rfl) (es_nil ok) (fun _ => rfl)) (fo_len ok) (fun _ => rfl) (fun _ _ => rfl)) rfl (by first | exact .inl rfl | exact .inr rfl) (fun _ _ => rfl)))
   (bk_nil ok))
  (bk_cons ok (ex_if ok (ts_cmp ok cm_isN (by first | exact ev_local ok rfl rfl rfl | exact ev_cell ok rfl rfl rfl | exact ev_free ok rfl rfl rfl rfl) (ev_none ok) rfl)
   (bk_one ok (ex_while ok (ts_cmp ok cm_lt (by first | exact ev_local ok rfl rfl rfl | exact ev_cell ok rfl rfl rfl | exact ev_free ok rfl rfl rfl rfl) (by first | exact ev_local ok rfl rfl rfl | exact ev_cell ok rfl rfl rfl | exact ev_free ok rfl rfl rfl rfl) rfl)
   (bk_cons ok (ex_asg ok hj (ev_bin ok op_fdiv (ev_bin ok op_add (by first | exact ev_local ok rfl rfl rfl | exact ev_cell ok rfl rfl rfl | exact ev_free ok rfl rfl rfl rfl) (by first | exact ev_local ok rfl rfl rfl | exact ev_cell ok rfl rfl rfl | exact ev_free ok rfl rfl rfl rfl)) (ev_int ok)) rfl (by first | exact .inl rfl | exact .inr rfl) (fun _ _ => rfl))
  (bk_one ok (ex_if ok (ts_cmp ok cm_lt (ev_idx ok (by first | exact ev_local ok rfl rfl rfl | exact ev_cell ok rfl rfl rfl | exact ev_free ok rfl rfl rfl rfl) (by first | exact ev_local ok rfl rfl rfl | exact ev_cell ok rfl rfl rfl | exact ev_free ok rfl rfl rfl rfl) (fun _ _ => rfl)) (by first | exact ev_local ok rfl rfl rfl | exact ev_cell ok rfl rfl rfl | exact ev_free ok rfl rfl rfl rfl) rfl)
   (bk_one ok (ex_asg ok hj (ev_bin ok op_add (by first | exact ev_local ok rfl rfl rfl | exact ev_cell ok rfl rfl rfl | exact ev_free ok rfl rfl rfl rfl) (ev_int ok)) rfl (by first | exact .inl rfl | exact .inr rfl) (fun _ _ => rfl)))
   (bk_one ok (ex_asg ok hj (by first | exact ev_local ok rfl rfl rfl | exact ev_cell ok rfl rfl rfl | exact ev_free ok rfl rfl rfl rfl) rfl (by first | exact .inl rfl | exact .inr rfl) (fun _ _ => rfl))))))))
   bk_bad)
  (bk_one ok (ex_return ok (by first | exact ev_local ok rfl rfl rfl | exact ev_cell ok rfl rfl rfl | exact ev_free ok rfl rfl rfl rfl))))))

set_option maxHeartbeats 8000000 in
theorem bk_marks {W : Wd} (ok : WdOk W) {n : Nat} {g_bis : Addr}
    (d_bis : DefAt W "bisect_left" g_bis)
    (h_bis2 : FOk W n (.ref g_bis) (f_bis2 W.B))
    (g_len : GlobAt W "len" (.builtin "len")) :
    BkOk W n (scopeAt pw_ec5002_02 4) (vmOf v_marks) (bodyAt pw_ec5002_02 4) (t_marks W.B) := by
  have hj : VInj (vmOf v_marks) := vinj_of (by decide +kernel)
  exact (bk_cons ok (ex_asg ok hj (ev_list ok (es_nil ok)) rfl (by first | exact .inl rfl | exact .inr rfl) (fun _ _ => rfl))
  (bk_cons ok (ex_for ok (it_list ok (by first | exact ev_local ok rfl rfl rfl | exact ev_cell ok rfl rfl rfl | exact ev_free ok rfl rfl rfl rfl)) (as_name ok hj rfl (by first | exact .inl rfl | exact .inr rfl))
   (bk_cons ok (ex_asg ok hj (ev_def ok d_bis rfl rfl (es_cons ok (by first | exact ev_local ok rfl rfl rfl | exact ev_cell ok rfl rfl rfl | exact ev_free ok rfl rfl rfl rfl) (es_cons ok (by first | exact ev_local ok rfl rfl rfl | exact ev_cell ok rfl rfl rfl | exact ev_free ok rfl rfl rfl rfl) (es_nil ok) (fun _ => rfl)) (fun _ => rfl)) h_bis2 (fun _ => rfl)) rfl (by first | exact .inl rfl | exact .inr rfl) (fun _ _ => rfl))
  (bk_one ok (ex_if ok (ts_or2 ok (ts_cmp ok cm_eqI (by first | exact ev_local ok rfl rfl rfl | exact ev_cell ok rfl rfl rfl | exact ev_free ok rfl rfl rfl rfl) (ev_callB ok (.inl ⟨_, rfl⟩) g_len rfl rfl (es_cons ok (by first | exact ev_local ok rfl rfl rfl | exact ev_cell ok rfl rfl rfl | exact ev_free ok rfl rfl rfl rfl) (es_nil ok) (fun _ => rfl)) (fo_len ok) (fun _ => rfl) (fun _ _ => rfl)) rfl) (ts_cmp ok cm_neI (ev_idx ok (by first | exact ev_local ok rfl rfl rfl | exact ev_cell ok rfl rfl rfl | exact ev_free ok rfl rfl rfl rfl) (by first | exact ev_local ok rfl rfl rfl | exact ev_cell ok rfl rfl rfl | exact ev_free ok rfl rfl rfl rfl) (fun _ _ => rfl)) (by first | exact ev_local ok rfl rfl rfl | exact ev_cell ok rfl rfl rfl | exact ev_free ok rfl rfl rfl rfl) rfl))
   (bk_one ok (ex_expr ok (ev_meth ok F.slot_list_insert F.type_list_insert (fun _ => rfl) (fun _ => rfl) rfl (by first | exact ev_local ok rfl rfl rfl | exact ev_cell ok rfl rfl rfl | exact ev_free ok rfl rfl rfl rfl) (es_cons ok (by first | exact ev_local ok rfl rfl rfl | exact ev_cell ok rfl rfl rfl | exact ev_free ok rfl rfl rfl rfl) (es_cons ok (by first | exact ev_local ok rfl rfl rfl | exact ev_cell ok rfl rfl rfl | exact ev_free ok rfl rfl rfl rfl) (es_nil ok) (fun _ => rfl)) (fun _ => rfl)) (fo_insert ok) (fun _ => rfl) (fun _ _ => rfl)) (fun _ => rfl)))
   (bk_nil ok)))) lg_name (fun _ _ => rfl))
  (bk_one ok (ex_return ok (by first | exact ev_local ok rfl rfl rfl | exact ev_cell ok rfl rfl rfl | exact ev_free ok rfl rfl rfl rfl)))))

set_option maxHeartbeats 8000000 in
theorem bk_sweep {W : Wd} (ok : WdOk W) {n : Nat} {g_marks g_bis : Addr}
    (d_marks : DefAt W "_law_marks" g_marks)
    (h_marks : FOk W n (.ref g_marks) (f_marks W.B))
    (g_range : GlobAt W "range" (.type "range"))
    (d_bis : DefAt W "bisect_left" g_bis)
    (h_bis2 : FOk W n (.ref g_bis) (f_bis2 W.B))
    (g_len : GlobAt W "len" (.builtin "len")) :
    BkOk W n (scopeAt pw_ec5002_02 5) (vmOf v_sweep) (bodyAt pw_ec5002_02 5) (t_sweep W.B) := by
  have hj : VInj (vmOf v_sweep) := vinj_of (by decide +kernel)
  exact (bk_cons ok (ex_asg ok hj (ev_def ok d_marks rfl rfl (es_cons ok (ev_bin ok (op_addL ok) (ev_comp' ok (by decide +kernel) (it_list ok (by first | exact ev_local ok rfl rfl rfl | exact ev_cell ok rfl rfl rfl | exact ev_free ok rfl rfl rfl rfl)) tst_nil (ev_idx ok (by first | exact ev_local ok rfl rfl rfl | exact ev_cell ok rfl rfl rfl | exact ev_free ok rfl rfl rfl rfl) (ev_int ok) (fun _ _ => rfl)) (fun _ _ => rfl)) (ev_comp' ok (by decide +kernel) (it_list ok (by first | exact ev_local ok rfl rfl rfl | exact ev_cell ok rfl rfl rfl | exact ev_free ok rfl rfl rfl rfl)) tst_nil (ev_idx ok (by first | exact ev_local ok rfl rfl rfl | exact ev_cell ok rfl rfl rfl | exact ev_free ok rfl rfl rfl rfl) (ev_int ok) (fun _ _ => rfl)) (fun _ _ => rfl))) (es_nil ok) (fun _ => rfl)) h_marks (fun _ => rfl)) rfl (by first | exact .inl rfl | exact .inr rfl) (fun _ _ => rfl))
  (bk_cons ok (ex_asg ok hj (ev_def ok d_marks rfl rfl (es_cons ok (ev_bin ok (op_addL ok) (ev_comp' ok (by decide +kernel) (it_list ok (by first | exact ev_local ok rfl rfl rfl | exact ev_cell ok rfl rfl rfl | exact ev_free ok rfl rfl rfl rfl)) tst_nil (ev_idx ok (by first | exact ev_local ok rfl rfl rfl | exact ev_cell ok rfl rfl rfl | exact ev_free ok rfl rfl rfl rfl) (ev_int ok) (fun _ _ => rfl)) (fun _ _ => rfl)) (ev_comp' ok (by decide +kernel) (it_list ok (by first | exact ev_local ok rfl rfl rfl | exact ev_cell ok rfl rfl rfl | exact ev_free ok rfl rfl rfl rfl)) tst_nil (ev_idx ok (by first | exact ev_local ok rfl rfl rfl | exact ev_cell ok rfl rfl rfl | exact ev_free ok rfl rfl rfl rfl) (ev_int ok) (fun _ _ => rfl)) (fun _ _ => rfl))) (es_nil ok) (fun _ => rfl)) h_marks (fun _ => rfl)) rfl (by first | exact .inl rfl | exact .inr rfl) (fun _ _ => rfl))
  (bk_cons ok (ex_asgcomp' ok (by decide +kernel) hj (it_list ok (by first | exact ev_local ok rfl rfl rfl | exact ev_cell ok rfl rfl rfl | exact ev_free ok rfl rfl rfl rfl)) tst_nil (ev_list ok (es_nil ok)) (fun _ _ => rfl) rfl rfl (fun _ h => by unfold swapsWith; simp only [Env.blockKind, Env.kindOf, h]; rfl))
  (bk_cons ok (ex_for ok (it_list ok (by first | exact ev_local ok rfl rfl rfl | exact ev_cell ok rfl rfl rfl | exact ev_free ok rfl rfl rfl rfl)) (as_name ok hj rfl (by first | exact .inl rfl | exact .inr rfl))
   (bk_cons ok (ex_asg ok hj (ev_def ok d_bis rfl rfl (es_cons ok (by first | exact ev_local ok rfl rfl rfl | exact ev_cell ok rfl rfl rfl | exact ev_free ok rfl rfl rfl rfl) (es_cons ok (ev_idx ok (by first | exact ev_local ok rfl rfl rfl | exact ev_cell ok rfl rfl rfl | exact ev_free ok rfl rfl rfl rfl) (ev_int ok) (fun _ _ => rfl)) (es_nil ok) (fun _ => rfl)) (fun _ => rfl)) h_bis2 (fun _ => rfl)) rfl (by first | exact .inl rfl | exact .inr rfl) (fun _ _ => rfl))
  (bk_cons ok (ex_asg ok hj (ev_def ok d_bis rfl rfl (es_cons ok (by first | exact ev_local ok rfl rfl rfl | exact ev_cell ok rfl rfl rfl | exact ev_free ok rfl rfl rfl rfl) (es_cons ok (ev_idx ok (by first | exact ev_local ok rfl rfl rfl | exact ev_cell ok rfl rfl rfl | exact ev_free ok rfl rfl rfl rfl) (ev_int ok) (fun _ _ => rfl)) (es_nil ok) (fun _ => rfl)) (fun _ => rfl)) h_bis2 (fun _ => rfl)) rfl (by first | exact .inl rfl | exact .inr rfl) (fun _ _ => rfl))
  (bk_cons ok (ex_expr ok (ev_meth ok slot_list_append type_list_append (fun _ => rfl) (fun _ => rfl) rfl (ev_idx ok (by first | exact ev_local ok rfl rfl rfl | exact ev_cell ok rfl rfl rfl | exact ev_free ok rfl rfl rfl rfl) (ev_def ok d_bis rfl rfl (es_cons ok (by first | exact ev_local ok rfl rfl rfl | exact ev_cell ok rfl rfl rfl | exact ev_free ok rfl rfl rfl rfl) (es_cons ok (ev_idx ok (by first | exact ev_local ok rfl rfl rfl | exact ev_cell ok rfl rfl rfl | exact ev_free ok rfl rfl rfl rfl) (ev_int ok) (fun _ _ => rfl)) (es_nil ok) (fun _ => rfl)) (fun _ => rfl)) h_bis2 (fun _ => rfl)) (fun _ _ => rfl)) (es_cons ok (ev_list ok (es_cons ok (by first | exact ev_local ok rfl rfl rfl | exact ev_cell ok rfl rfl rfl | exact ev_free ok rfl rfl rfl rfl) (es_cons ok (by first | exact ev_local ok rfl rfl rfl | exact ev_cell ok rfl rfl rfl | exact ev_free ok rfl rfl rfl rfl) (es_cons ok (ev_int ok) (es_nil ok) (fun _ => rfl)) (fun _ => rfl)) (fun _ => rfl))) (es_nil ok) (fun _ => rfl)) (fo_append ok) (fun _ => rfl) (fun _ _ => rfl)) (fun _ => rfl))
  (bk_one ok (ex_expr ok (ev_meth ok slot_list_append type_list_append (fun _ => rfl) (fun _ => rfl) rfl (ev_idx ok (by first | exact ev_local ok rfl rfl rfl | exact ev_cell ok rfl rfl rfl | exact ev_free ok rfl rfl rfl rfl) (ev_def ok d_bis rfl rfl (es_cons ok (by first | exact ev_local ok rfl rfl rfl | exact ev_cell ok rfl rfl rfl | exact ev_free ok rfl rfl rfl rfl) (es_cons ok (ev_idx ok (by first | exact ev_local ok rfl rfl rfl | exact ev_cell ok rfl rfl rfl | exact ev_free ok rfl rfl rfl rfl) (ev_int ok) (fun _ _ => rfl)) (es_nil ok) (fun _ => rfl)) (fun _ => rfl)) h_bis2 (fun _ => rfl)) (fun _ _ => rfl)) (es_cons ok (ev_list ok (es_cons ok (by first | exact ev_local ok rfl rfl rfl | exact ev_cell ok rfl rfl rfl | exact ev_free ok rfl rfl rfl rfl) (es_cons ok (by first | exact ev_local ok rfl rfl rfl | exact ev_cell ok rfl rfl rfl | exact ev_free ok rfl rfl rfl rfl) (es_cons ok (ev_neg ok (ev_int ok)) (es_nil ok) (fun _ => rfl)) (fun _ => rfl)) (fun _ => rfl))) (es_nil ok) (fun _ => rfl)) (fo_append ok) (fun _ => rfl) (fun _ _ => rfl)) (fun _ => rfl)))))) lg_name (fun _ _ => rfl))
  (bk_cons ok (ex_asg ok hj (ev_bin ok (op_mulL ok) (ev_list ok (es_cons ok (ev_int ok) (es_nil ok) (fun _ => rfl))) (ev_callB ok (.inl ⟨_, rfl⟩) g_len rfl rfl (es_cons ok (by first | exact ev_local ok rfl rfl rfl | exact ev_cell ok rfl rfl rfl | exact ev_free ok rfl rfl rfl rfl) (es_nil ok) (fun _ => rfl)) (fo_len ok) (fun _ => rfl) (fun _ _ => rfl))) rfl (by first | exact .inl rfl | exact .inr rfl) (fun _ _ => rfl))
  (bk_cons ok (ex_asg ok hj (ev_bin ok (op_mulL ok) (ev_list ok (es_cons ok (ev_int ok) (es_nil ok) (fun _ => rfl))) (ev_bin ok op_add (ev_callB ok (.inl ⟨_, rfl⟩) g_len rfl rfl (es_cons ok (by first | exact ev_local ok rfl rfl rfl | exact ev_cell ok rfl rfl rfl | exact ev_free ok rfl rfl rfl rfl) (es_nil ok) (fun _ => rfl)) (fo_len ok) (fun _ => rfl) (fun _ _ => rfl)) (ev_int ok))) rfl (by first | exact .inl rfl | exact .inr rfl) (fun _ _ => rfl))
  (bk_cons ok (ex_for ok (it_range1 ok g_range rfl rfl (es_cons ok (ev_bin ok op_sub (ev_callB ok (.inl ⟨_, rfl⟩) g_len rfl rfl (es_cons ok (by first | exact ev_local ok rfl rfl rfl | exact ev_cell ok rfl rfl rfl | exact ev_free ok rfl rfl rfl rfl) (es_nil ok) (fun _ => rfl)) (fo_len ok) (fun _ => rfl) (fun _ _ => rfl)) (ev_int ok)) (es_nil ok) (fun _ => rfl)) (fun _ => rfl)) (as_name ok hj rfl (by first | exact .inl rfl | exact .inr rfl))
   (bk_cons ok (ex_for ok (it_list ok (ev_idx ok (by first | exact ev_local ok rfl rfl rfl | exact ev_cell ok rfl rfl rfl | exact ev_free ok rfl rfl rfl rfl) (by first | exact ev_local ok rfl rfl rfl | exact ev_cell ok rfl rfl rfl | exact ev_free ok rfl rfl rfl rfl) (fun _ _ => rfl))) (as_tuple ok hj (fun _ => rfl) (fun _ => rfl) (asl_cons ok hj rfl (by first | exact .inl rfl | exact .inr rfl) (asl_cons ok hj rfl (by first | exact .inl rfl | exact .inr rfl) (asl_cons ok hj rfl (by first | exact .inl rfl | exact .inr rfl) (fun _ _ _ _ _ _ _ _ st q => asl_nil st q)))))
   (bk_one ok (ex_for ok (it_range2 ok g_range rfl rfl (es_cons ok (by first | exact ev_local ok rfl rfl rfl | exact ev_cell ok rfl rfl rfl | exact ev_free ok rfl rfl rfl rfl) (es_cons ok (by first | exact ev_local ok rfl rfl rfl | exact ev_cell ok rfl rfl rfl | exact ev_free ok rfl rfl rfl rfl) (es_nil ok) (fun _ => rfl)) (fun _ => rfl)) (fun _ => rfl) (fun _ => rfl)) (as_name ok hj rfl (by first | exact .inl rfl | exact .inr rfl))
   (bk_one ok (ex_setidx ok (by first | exact ev_local ok rfl rfl rfl | exact ev_cell ok rfl rfl rfl | exact ev_free ok rfl rfl rfl rfl) (by first | exact ev_local ok rfl rfl rfl | exact ev_cell ok rfl rfl rfl | exact ev_free ok rfl rfl rfl rfl) (ev_bin ok op_add (ev_idx ok (by first | exact ev_local ok rfl rfl rfl | exact ev_cell ok rfl rfl rfl | exact ev_free ok rfl rfl rfl rfl) (by first | exact ev_local ok rfl rfl rfl | exact ev_cell ok rfl rfl rfl | exact ev_free ok rfl rfl rfl rfl) (fun _ _ => rfl)) (by first | exact ev_local ok rfl rfl rfl | exact ev_cell ok rfl rfl rfl | exact ev_free ok rfl rfl rfl rfl)) (fun _ _ => rfl))) lg_name (fun _ _ => rfl))) lg_tuple (fun _ _ => rfl))
  (bk_one ok (ex_for ok (it_range1 ok g_range rfl rfl (es_cons ok (ev_bin ok op_sub (ev_callB ok (.inl ⟨_, rfl⟩) g_len rfl rfl (es_cons ok (by first | exact ev_local ok rfl rfl rfl | exact ev_cell ok rfl rfl rfl | exact ev_free ok rfl rfl rfl rfl) (es_nil ok) (fun _ => rfl)) (fo_len ok) (fun _ => rfl) (fun _ _ => rfl)) (ev_int ok)) (es_nil ok) (fun _ => rfl)) (fun _ => rfl)) (as_name ok hj rfl (by first | exact .inl rfl | exact .inr rfl))
   (bk_one ok (ex_augidx ok (by first | exact ev_local ok rfl rfl rfl | exact ev_cell ok rfl rfl rfl | exact ev_free ok rfl rfl rfl rfl) (ev_idx ok (by first | exact ev_local ok rfl rfl rfl | exact ev_cell ok rfl rfl rfl | exact ev_free ok rfl rfl rfl rfl) (by first | exact ev_local ok rfl rfl rfl | exact ev_cell ok rfl rfl rfl | exact ev_free ok rfl rfl rfl rfl) (fun _ _ => rfl)) (ev_bin ok op_mul (ev_bin ok op_sub (ev_idx ok (by first | exact ev_local ok rfl rfl rfl | exact ev_cell ok rfl rfl rfl | exact ev_free ok rfl rfl rfl rfl) (ev_bin ok op_add (by first | exact ev_local ok rfl rfl rfl | exact ev_cell ok rfl rfl rfl | exact ev_free ok rfl rfl rfl rfl) (ev_int ok)) (fun _ _ => rfl)) (ev_idx ok (by first | exact ev_local ok rfl rfl rfl | exact ev_cell ok rfl rfl rfl | exact ev_free ok rfl rfl rfl rfl) (by first | exact ev_local ok rfl rfl rfl | exact ev_cell ok rfl rfl rfl | exact ev_free ok rfl rfl rfl rfl) (fun _ _ => rfl))) (ev_bin ok op_sub (ev_idx ok (by first | exact ev_local ok rfl rfl rfl | exact ev_cell ok rfl rfl rfl | exact ev_free ok rfl rfl rfl rfl) (ev_bin ok op_add (by first | exact ev_local ok rfl rfl rfl | exact ev_cell ok rfl rfl rfl | exact ev_free ok rfl rfl rfl rfl) (ev_int ok)) (fun _ _ => rfl)) (ev_idx ok (by first | exact ev_local ok rfl rfl rfl | exact ev_cell ok rfl rfl rfl | exact ev_free ok rfl rfl rfl rfl) (by first | exact ev_local ok rfl rfl rfl | exact ev_cell ok rfl rfl rfl | exact ev_free ok rfl rfl rfl rfl) (fun _ _ => rfl)))) (fun _ _ _ => rfl))) lg_name (fun _ _ => rfl)))) lg_name (fun _ _ => rfl))
  (bk_one ok (ex_return ok (by first | exact ev_local ok rfl rfl rfl | exact ev_cell ok rfl rfl rfl | exact ev_free ok rfl rfl rfl rfl))))))))))

set_option maxHeartbeats 8000000 in
theorem bk_common {W : Wd} (ok : WdOk W) {n : Nat}
    (g_range : GlobAt W "range" (.type "range"))
    (g_min : GlobAt W "min" (.builtin "min"))
    (g_max : GlobAt W "max" (.builtin "max"))
    (g_len : GlobAt W "len" (.builtin "len")) :
    BkOk W n (scopeAt pw_ec5002_02 6) (vmOf v_common) (bodyAt pw_ec5002_02 6) (t_common W.B) := by
  have hj : VInj (vmOf v_common) := vinj_of (by decide +kernel)
  exact (bk_cons ok (ex_asg ok hj (ev_list ok (es_cons ok (ev_callB ok (.inl ⟨_, rfl⟩) g_min rfl rfl (es_cons ok (ev_comp' ok (by decide +kernel) (it_list ok (by first | exact ev_local ok rfl rfl rfl | exact ev_cell ok rfl rfl rfl | exact ev_free ok rfl rfl rfl rfl)) tst_nil (ev_idx ok (by first | exact ev_local ok rfl rfl rfl | exact ev_cell ok rfl rfl rfl | exact ev_free ok rfl rfl rfl rfl) (ev_int ok) (fun _ _ => rfl)) (fun _ _ => rfl)) (es_nil ok) (fun _ => rfl)) (fo_minL ok) (fun _ => rfl) (fun _ _ => rfl)) (es_cons ok (ev_callB ok (.inl ⟨_, rfl⟩) g_max rfl rfl (es_cons ok (ev_comp' ok (by decide +kernel) (it_list ok (by first | exact ev_local ok rfl rfl rfl | exact ev_cell ok rfl rfl rfl | exact ev_free ok rfl rfl rfl rfl)) tst_nil (ev_idx ok (by first | exact ev_local ok rfl rfl rfl | exact ev_cell ok rfl rfl rfl | exact ev_free ok rfl rfl rfl rfl) (ev_int ok) (fun _ _ => rfl)) (fun _ _ => rfl)) (es_nil ok) (fun _ => rfl)) (fo_maxL ok) (fun _ => rfl) (fun _ _ => rfl)) (es_cons ok (ev_callB ok (.inl ⟨_, rfl⟩) g_min rfl rfl (es_cons ok (ev_comp' ok (by decide +kernel) (it_list ok (by first | exact ev_local ok rfl rfl rfl | exact ev_cell ok rfl rfl rfl | exact ev_free ok rfl rfl rfl rfl)) tst_nil (ev_idx ok (by first | exact ev_local ok rfl rfl rfl | exact ev_cell ok rfl rfl rfl | exact ev_free ok rfl rfl rfl rfl) (ev_int ok) (fun _ _ => rfl)) (fun _ _ => rfl)) (es_nil ok) (fun _ => rfl)) (fo_minL ok) (fun _ => rfl) (fun _ _ => rfl)) (es_cons ok (ev_callB ok (.inl ⟨_, rfl⟩) g_max rfl rfl (es_cons ok (ev_comp' ok (by decide +kernel) (it_list ok (by first | exact ev_local ok rfl rfl rfl | exact ev_cell ok rfl rfl rfl | exact ev_free ok rfl rfl rfl rfl)) tst_nil (ev_idx ok (by first | exact ev_local ok rfl rfl rfl | exact ev_cell ok rfl rfl rfl | exact ev_free ok rfl rfl rfl rfl) (ev_int ok) (fun _ _ => rfl)) (fun _ _ => rfl)) (es_nil ok) (fun _ => rfl)) (fo_maxL ok) (fun _ => rfl) (fun _ _ => rfl)) (es_nil ok) (fun _ => rfl)) (fun _ => rfl)) (fun _ => rfl)) (fun _ => rfl))) rfl (by first | exact .inl rfl | exact .inr rfl) (fun _ _ => rfl))
  (bk_cons ok (ex_asg ok hj (ev_bin ok (op_mulL ok) (ev_list ok (es_cons ok (ev_int ok) (es_nil ok) (fun _ => rfl))) (ev_bin ok op_add (ev_callB ok (.inl ⟨_, rfl⟩) g_len rfl rfl (es_cons ok (by first | exact ev_local ok rfl rfl rfl | exact ev_cell ok rfl rfl rfl | exact ev_free ok rfl rfl rfl rfl) (es_nil ok) (fun _ => rfl)) (fo_len ok) (fun _ => rfl) (fun _ _ => rfl)) (ev_int ok))) rfl (by first | exact .inl rfl | exact .inr rfl) (fun _ _ => rfl))
  (bk_cons ok (ex_for ok (it_range1 ok g_range rfl rfl (es_cons ok (ev_bin ok op_pow (ev_int ok) (ev_callB ok (.inl ⟨_, rfl⟩) g_len rfl rfl (es_cons ok (by first | exact ev_local ok rfl rfl rfl | exact ev_cell ok rfl rfl rfl | exact ev_free ok rfl rfl rfl rfl) (es_nil ok) (fun _ => rfl)) (fo_len ok) (fun _ => rfl) (fun _ _ => rfl))) (es_nil ok) (fun _ => rfl)) (fun _ => rfl)) (as_name ok hj rfl (by first | exact .inl rfl | exact .inr rfl))
   (bk_cons ok (ex_asgcomp' ok (by decide +kernel) hj (it_range1 ok g_range rfl rfl (es_cons ok (ev_callB ok (.inl ⟨_, rfl⟩) g_len rfl rfl (es_cons ok (by first | exact ev_local ok rfl rfl rfl | exact ev_cell ok rfl rfl rfl | exact ev_free ok rfl rfl rfl rfl) (es_nil ok) (fun _ => rfl)) (fo_len ok) (fun _ => rfl) (fun _ _ => rfl)) (es_nil ok) (fun _ => rfl)) (fun _ => rfl)) (tst_one (ts_cmp ok cm_eqI (ev_bin ok op_band (ev_bin ok op_shr (by first | exact ev_local ok rfl rfl rfl | exact ev_cell ok rfl rfl rfl | exact ev_free ok rfl rfl rfl rfl) (by first | exact ev_local ok rfl rfl rfl | exact ev_cell ok rfl rfl rfl | exact ev_free ok rfl rfl rfl rfl)) (ev_int ok)) (ev_int ok) rfl)) (ev_idx ok (by first | exact ev_local ok rfl rfl rfl | exact ev_cell ok rfl rfl rfl | exact ev_free ok rfl rfl rfl rfl) (by first | exact ev_local ok rfl rfl rfl | exact ev_cell ok rfl rfl rfl | exact ev_free ok rfl rfl rfl rfl) (fun _ _ => rfl)) (fun _ _ => rfl) rfl rfl (fun _ h => by unfold swapsWith; simp only [Env.blockKind, Env.kindOf, h]; rfl))
  (bk_cons ok (ex_asg ok hj (ev_callB ok (.inl ⟨_, rfl⟩) g_max rfl rfl (es_cons ok (ev_bin ok (op_addL ok) (ev_list ok (es_cons ok (ev_idx ok (by first | exact ev_local ok rfl rfl rfl | exact ev_cell ok rfl rfl rfl | exact ev_free ok rfl rfl rfl rfl) (ev_int ok) (fun _ _ => rfl)) (es_nil ok) (fun _ => rfl))) (ev_comp' ok (by decide +kernel) (it_list ok (by first | exact ev_local ok rfl rfl rfl | exact ev_cell ok rfl rfl rfl | exact ev_free ok rfl rfl rfl rfl)) tst_nil (ev_idx ok (by first | exact ev_local ok rfl rfl rfl | exact ev_cell ok rfl rfl rfl | exact ev_free ok rfl rfl rfl rfl) (ev_int ok) (fun _ _ => rfl)) (fun _ _ => rfl))) (es_nil ok) (fun _ => rfl)) (fo_maxL ok) (fun _ => rfl) (fun _ _ => rfl)) rfl (by first | exact .inl rfl | exact .inr rfl) (fun _ _ => rfl))
  (bk_cons ok (ex_asg ok hj (ev_callB ok (.inl ⟨_, rfl⟩) g_min rfl rfl (es_cons ok (ev_bin ok (op_addL ok) (ev_list ok (es_cons ok (ev_idx ok (by first | exact ev_local ok rfl rfl rfl | exact ev_cell ok rfl rfl rfl | exact ev_free ok rfl rfl rfl rfl) (ev_int ok) (fun _ _ => rfl)) (es_nil ok) (fun _ => rfl))) (ev_comp' ok (by decide +kernel) (it_list ok (by first | exact ev_local ok rfl rfl rfl | exact ev_cell ok rfl rfl rfl | exact ev_free ok rfl rfl rfl rfl)) tst_nil (ev_idx ok (by first | exact ev_local ok rfl rfl rfl | exact ev_cell ok rfl rfl rfl | exact ev_free ok rfl rfl rfl rfl) (ev_int ok) (fun _ _ => rfl)) (fun _ _ => rfl))) (es_nil ok) (fun _ => rfl)) (fo_minL ok) (fun _ => rfl) (fun _ _ => rfl)) rfl (by first | exact .inl rfl | exact .inr rfl) (fun _ _ => rfl))
  (bk_cons ok (ex_asg ok hj (ev_callB ok (.inl ⟨_, rfl⟩) g_max rfl rfl (es_cons ok (ev_bin ok (op_addL ok) (ev_list ok (es_cons ok (ev_idx ok (by first | exact ev_local ok rfl rfl rfl | exact ev_cell ok rfl rfl rfl | exact ev_free ok rfl rfl rfl rfl) (ev_int ok) (fun _ _ => rfl)) (es_nil ok) (fun _ => rfl))) (ev_comp' ok (by decide +kernel) (it_list ok (by first | exact ev_local ok rfl rfl rfl | exact ev_cell ok rfl rfl rfl | exact ev_free ok rfl rfl rfl rfl)) tst_nil (ev_idx ok (by first | exact ev_local ok rfl rfl rfl | exact ev_cell ok rfl rfl rfl | exact ev_free ok rfl rfl rfl rfl) (ev_int ok) (fun _ _ => rfl)) (fun _ _ => rfl))) (es_nil ok) (fun _ => rfl)) (fo_maxL ok) (fun _ => rfl) (fun _ _ => rfl)) rfl (by first | exact .inl rfl | exact .inr rfl) (fun _ _ => rfl))
  (bk_cons ok (ex_asg ok hj (ev_callB ok (.inl ⟨_, rfl⟩) g_min rfl rfl (es_cons ok (ev_bin ok (op_addL ok) (ev_list ok (es_cons ok (ev_idx ok (by first | exact ev_local ok rfl rfl rfl | exact ev_cell ok rfl rfl rfl | exact ev_free ok rfl rfl rfl rfl) (ev_int ok) (fun _ _ => rfl)) (es_nil ok) (fun _ => rfl))) (ev_comp' ok (by decide +kernel) (it_list ok (by first | exact ev_local ok rfl rfl rfl | exact ev_cell ok rfl rfl rfl | exact ev_free ok rfl rfl rfl rfl)) tst_nil (ev_idx ok (by first | exact ev_local ok rfl rfl rfl | exact ev_cell ok rfl rfl rfl | exact ev_free ok rfl rfl rfl rfl) (ev_int ok) (fun _ _ => rfl)) (fun _ _ => rfl))) (es_nil ok) (fun _ => rfl)) (fo_minL ok) (fun _ => rfl) (fun _ _ => rfl)) rfl (by first | exact .inl rfl | exact .inr rfl) (fun _ _ => rfl))
  (bk_one ok (ex_if ok (ts_and2 ok (ts_cmp ok cm_lt (by first | exact ev_local ok rfl rfl rfl | exact ev_cell ok rfl rfl rfl | exact ev_free ok rfl rfl rfl rfl) (by first | exact ev_local ok rfl rfl rfl | exact ev_cell ok rfl rfl rfl | exact ev_free ok rfl rfl rfl rfl) rfl) (ts_cmp ok cm_lt (by first | exact ev_local ok rfl rfl rfl | exact ev_cell ok rfl rfl rfl | exact ev_free ok rfl rfl rfl rfl) (by first | exact ev_local ok rfl rfl rfl | exact ev_cell ok rfl rfl rfl | exact ev_free ok rfl rfl rfl rfl) rfl))
   (bk_one ok (ex_augidx ok (by first | exact ev_local ok rfl rfl rfl | exact ev_cell ok rfl rfl rfl | exact ev_free ok rfl rfl rfl rfl) (ev_callB ok (.inl ⟨_, rfl⟩) g_len rfl rfl (es_cons ok (by first | exact ev_local ok rfl rfl rfl | exact ev_cell ok rfl rfl rfl | exact ev_free ok rfl rfl rfl rfl) (es_nil ok) (fun _ => rfl)) (fo_len ok) (fun _ => rfl) (fun _ _ => rfl)) (ev_bin ok op_mul (ev_bin ok op_sub (by first | exact ev_local ok rfl rfl rfl | exact ev_cell ok rfl rfl rfl | exact ev_free ok rfl rfl rfl rfl) (by first | exact ev_local ok rfl rfl rfl | exact ev_cell ok rfl rfl rfl | exact ev_free ok rfl rfl rfl rfl)) (ev_bin ok op_sub (by first | exact ev_local ok rfl rfl rfl | exact ev_cell ok rfl rfl rfl | exact ev_free ok rfl rfl rfl rfl) (by first | exact ev_local ok rfl rfl rfl | exact ev_cell ok rfl rfl rfl | exact ev_free ok rfl rfl rfl rfl))) (fun _ _ _ => rfl)))
   (bk_nil ok)))))))) lg_name (fun _ _ => rfl))
  (bk_one ok (ex_return ok (by first | exact ev_local ok rfl rfl rfl | exact ev_cell ok rfl rfl rfl | exact ev_free ok rfl rfl rfl rfl))))))

set_option maxHeartbeats 8000000 in
theorem bk_choose {W : Wd} (ok : WdOk W) {n : Nat}
    (g_range : GlobAt W "range" (.type "range")) :
    BkOk W n (scopeAt pw_ec5002_02 7) (vmOf v_choose) (bodyAt pw_ec5002_02 7) (t_choose W.B) := by
  have hj : VInj (vmOf v_choose) := vinj_of (by decide +kernel)
  exact (bk_cons ok (ex_asg ok hj (ev_list ok (es_cons ok (ev_list ok (es_cons ok (ev_int ok) (es_nil ok) (fun _ => rfl))) (es_nil ok) (fun _ => rfl))) rfl (by first | exact .inl rfl | exact .inr rfl) (fun _ _ => rfl))
  (bk_cons ok (ex_for ok (it_range1 ok g_range rfl rfl (es_cons ok (by first | exact ev_local ok rfl rfl rfl | exact ev_cell ok rfl rfl rfl | exact ev_free ok rfl rfl rfl rfl) (es_nil ok) (fun _ => rfl)) (fun _ => rfl)) (as_name ok hj rfl (by first | exact .inl rfl | exact .inr rfl))
   (bk_one ok (ex_expr ok (ev_meth ok slot_list_append type_list_append (fun _ => rfl) (fun _ => rfl) rfl (by first | exact ev_local ok rfl rfl rfl | exact ev_cell ok rfl rfl rfl | exact ev_free ok rfl rfl rfl rfl) (es_cons ok (ev_bin ok (op_addL ok) (ev_bin ok (op_addL ok) (ev_list ok (es_cons ok (ev_int ok) (es_nil ok) (fun _ => rfl))) (ev_comp' ok (by decide +kernel) (it_range1 ok g_range rfl rfl (es_cons ok (by first | exact ev_local ok rfl rfl rfl | exact ev_cell ok rfl rfl rfl | exact ev_free ok rfl rfl rfl rfl) (es_nil ok) (fun _ => rfl)) (fun _ => rfl)) tst_nil (ev_bin ok op_add (ev_idx ok (ev_idx ok (by first | exact ev_local ok rfl rfl rfl | exact ev_cell ok rfl rfl rfl | exact ev_free ok rfl rfl rfl rfl) (by first | exact ev_local ok rfl rfl rfl | exact ev_cell ok rfl rfl rfl | exact ev_free ok rfl rfl rfl rfl) (fun _ _ => rfl)) (by first | exact ev_local ok rfl rfl rfl | exact ev_cell ok rfl rfl rfl | exact ev_free ok rfl rfl rfl rfl) (fun _ _ => rfl)) (ev_idx ok (ev_idx ok (by first | exact ev_local ok rfl rfl rfl | exact ev_cell ok rfl rfl rfl | exact ev_free ok rfl rfl rfl rfl) (by first | exact ev_local ok rfl rfl rfl | exact ev_cell ok rfl rfl rfl | exact ev_free ok rfl rfl rfl rfl) (fun _ _ => rfl)) (ev_bin ok op_add (by first | exact ev_local ok rfl rfl rfl | exact ev_cell ok rfl rfl rfl | exact ev_free ok rfl rfl rfl rfl) (ev_int ok)) (fun _ _ => rfl))) (fun _ _ => rfl))) (ev_list ok (es_cons ok (ev_int ok) (es_nil ok) (fun _ => rfl)))) (es_nil ok) (fun _ => rfl)) (fo_append ok) (fun _ => rfl) (fun _ _ => rfl)) (fun _ => rfl))) lg_name (fun _ _ => rfl))
  (bk_one ok (ex_return ok (by first | exact ev_local ok rfl rfl rfl | exact ev_cell ok rfl rfl rfl | exact ev_free ok rfl rfl rfl rfl)))))

set_option maxHeartbeats 8000000 in
theorem bk_law {W : Wd} (ok : WdOk W) {n : Nat} {g_sweep g_common g_choose a_MORE : Addr}
    (g_range : GlobAt W "range" (.type "range"))
    (d_sweep : DefAt W "_law_sweep" g_sweep)
    (h_sweep : FOk W n (.ref g_sweep) (f_sweep W.B))
    (d_common : DefAt W "_law_common" g_common)
    (h_common : FOk W n (.ref g_common) (f_common W.B))
    (d_choose : DefAt W "_law_choose" g_choose)
    (h_choose : FOk W n (.ref g_choose) (f_choose W.B))
    (g_abs : GlobAt W "abs" (.builtin "abs"))
    (g_MORE : GlobAt W "_law_MORE" (.ref a_MORE))
    (g_sum : GlobAt W "sum" (.builtin "sum"))
    (g_list : GlobAt W "list" (.type "list"))
    (g_min : GlobAt W "min" (.builtin "min"))
    (g_max : GlobAt W "max" (.builtin "max")) :
    BkOk W n (scopeAt pw_ec5002_02 8) (vmOf v_law) (bodyAt pw_ec5002_02 8) (t_law W.B a_MORE) := by
  have hj : VInj (vmOf v_law) := vinj_of (by decide +kernel)
  exact (bk_cons ok (ex_asg ok hj (ev_ifx ok (ts_list ok (by first | exact ev_local ok rfl rfl rfl | exact ev_cell ok rfl rfl rfl | exact ev_free ok rfl rfl rfl rfl) (fun _ => rfl)) (ev_callB ok (.inl ⟨_, rfl⟩) g_abs rfl rfl (es_cons ok (ev_idx ok (by first | exact ev_local ok rfl rfl rfl | exact ev_cell ok rfl rfl rfl | exact ev_free ok rfl rfl rfl rfl) (ev_int ok) (fun _ _ => rfl)) (es_nil ok) (fun _ => rfl)) (fo_abs ok) (fun _ => rfl) (fun _ _ => rfl)) (ev_int ok)) rfl (by first | exact .inl rfl | exact .inr rfl) (fun _ _ => rfl))
  (bk_cons ok (ex_asg ok hj (ev_bin ok op_add (ev_int ok) (ev_bin ok op_fmod (by first | exact ev_local ok rfl rfl rfl | exact ev_cell ok rfl rfl rfl | exact ev_free ok rfl rfl rfl rfl) (ev_int ok))) rfl (by first | exact .inl rfl | exact .inr rfl) (fun _ _ => rfl))
  (bk_cons ok (ex_asg ok hj (ev_slice ok (ev_bin ok (op_addL ok) (ev_callB ok (.inr ⟨_, rfl⟩) g_list rfl rfl (es_cons ok (ev_slice ok (by first | exact ev_local ok rfl rfl rfl | exact ev_cell ok rfl rfl rfl | exact ev_free ok rfl rfl rfl rfl) (ev_int ok) trivial) (es_nil ok) (fun _ => rfl)) (fo_list ok) (fun _ => rfl) (fun _ _ => rfl)) (ev_glob ok g_MORE rfl rfl)) trivial (ev_bin ok op_mul (ev_int ok) (by first | exact ev_local ok rfl rfl rfl | exact ev_cell ok rfl rfl rfl | exact ev_free ok rfl rfl rfl rfl))) rfl (by first | exact .inl rfl | exact .inr rfl) (fun _ _ => rfl))
  (bk_cons ok (ex_if ok (ts_cmp ok cm_eqI (ev_bin ok op_fmod (ev_bin ok op_fdiv (by first | exact ev_local ok rfl rfl rfl | exact ev_cell ok rfl rfl rfl | exact ev_free ok rfl rfl rfl rfl) (ev_int ok)) (ev_int ok)) (ev_int ok) rfl)
   (bk_one ok (ex_asgcomp' ok (by decide +kernel) hj (it_list ok (by first | exact ev_local ok rfl rfl rfl | exact ev_cell ok rfl rfl rfl | exact ev_free ok rfl rfl rfl rfl)) tst_nil (ev_bin ok op_fmod (by first | exact ev_local ok rfl rfl rfl | exact ev_cell ok rfl rfl rfl | exact ev_free ok rfl rfl rfl rfl) (ev_int ok)) (fun _ _ => rfl) rfl rfl (fun _ h => by unfold swapsWith; simp only [Env.blockKind, Env.kindOf, h]; rfl)))
   (bk_nil ok))
  (bk_cons ok (ex_asg ok hj (ev_list ok (es_nil ok)) rfl (by first | exact .inl rfl | exact .inr rfl) (fun _ _ => rfl))
  (bk_cons ok (ex_for ok (it_range1 ok g_range rfl rfl (es_cons ok (by first | exact ev_local ok rfl rfl rfl | exact ev_cell ok rfl rfl rfl | exact ev_free ok rfl rfl rfl rfl) (es_nil ok) (fun _ => rfl)) (fun _ => rfl)) (as_name ok hj rfl (by first | exact .inl rfl | exact .inr rfl))
   (bk_cons ok (ex_asgT ok (ev_slice ok (by first | exact ev_local ok rfl rfl rfl | exact ev_cell ok rfl rfl rfl | exact ev_free ok rfl rfl rfl rfl) (ev_bin ok op_mul (ev_int ok) (by first | exact ev_local ok rfl rfl rfl | exact ev_cell ok rfl rfl rfl | exact ev_free ok rfl rfl rfl rfl)) (ev_bin ok op_add (ev_bin ok op_mul (ev_int ok) (by first | exact ev_local ok rfl rfl rfl | exact ev_cell ok rfl rfl rfl | exact ev_free ok rfl rfl rfl rfl)) (ev_int ok))) (as_tuple ok hj (fun _ => rfl) (fun _ => rfl) (asl_cons ok hj rfl (by first | exact .inl rfl | exact .inr rfl) (asl_cons ok hj rfl (by first | exact .inl rfl | exact .inr rfl) (asl_cons ok hj rfl (by first | exact .inl rfl | exact .inr rfl) (asl_cons ok hj rfl (by first | exact .inl rfl | exact .inr rfl) (fun _ _ _ _ _ _ _ _ st q => asl_nil st q)))))) (fun _ _ => rfl) (fun _ _ => rfl))
  (bk_one ok (ex_expr ok (ev_meth ok slot_list_append type_list_append (fun _ => rfl) (fun _ => rfl) rfl (by first | exact ev_local ok rfl rfl rfl | exact ev_cell ok rfl rfl rfl | exact ev_free ok rfl rfl rfl rfl) (es_cons ok (ev_list ok (es_cons ok (ev_callB ok (.inl ⟨_, rfl⟩) g_min rfl rfl (es_cons ok (by first | exact ev_local ok rfl rfl rfl | exact ev_cell ok rfl rfl rfl | exact ev_free ok rfl rfl rfl rfl) (es_cons ok (by first | exact ev_local ok rfl rfl rfl | exact ev_cell ok rfl rfl rfl | exact ev_free ok rfl rfl rfl rfl) (es_nil ok) (fun _ => rfl)) (fun _ => rfl)) (fo_min2 ok) (fun _ => rfl) (fun _ _ => rfl)) (es_cons ok (ev_callB ok (.inl ⟨_, rfl⟩) g_max rfl rfl (es_cons ok (by first | exact ev_local ok rfl rfl rfl | exact ev_cell ok rfl rfl rfl | exact ev_free ok rfl rfl rfl rfl) (es_cons ok (by first | exact ev_local ok rfl rfl rfl | exact ev_cell ok rfl rfl rfl | exact ev_free ok rfl rfl rfl rfl) (es_nil ok) (fun _ => rfl)) (fun _ => rfl)) (fo_max2 ok) (fun _ => rfl) (fun _ _ => rfl)) (es_cons ok (ev_callB ok (.inl ⟨_, rfl⟩) g_min rfl rfl (es_cons ok (by first | exact ev_local ok rfl rfl rfl | exact ev_cell ok rfl rfl rfl | exact ev_free ok rfl rfl rfl rfl) (es_cons ok (by first | exact ev_local ok rfl rfl rfl | exact ev_cell ok rfl rfl rfl | exact ev_free ok rfl rfl rfl rfl) (es_nil ok) (fun _ => rfl)) (fun _ => rfl)) (fo_min2 ok) (fun _ => rfl) (fun _ _ => rfl)) (es_cons ok (ev_callB ok (.inl ⟨_, rfl⟩) g_max rfl rfl (es_cons ok (by first | exact ev_local ok rfl rfl rfl | exact ev_cell ok rfl rfl rfl | exact ev_free ok rfl rfl rfl rfl) (es_cons ok (by first | exact ev_local ok rfl rfl rfl | exact ev_cell ok rfl rfl rfl | exact ev_free ok rfl rfl rfl rfl) (es_nil ok) (fun _ => rfl)) (fun _ => rfl)) (fo_max2 ok) (fun _ => rfl) (fun _ _ => rfl)) (es_nil ok) (fun _ => rfl)) (fun _ => rfl)) (fun _ => rfl)) (fun _ => rfl))) (es_nil ok) (fun _ => rfl)) (fo_append ok) (fun _ => rfl) (fun _ _ => rfl)) (fun _ => rfl)))) lg_name (fun _ _ => rfl))
  (bk_cons ok (ex_asg ok hj (ev_def ok d_sweep rfl rfl (es_cons ok (by first | exact ev_local ok rfl rfl rfl | exact ev_cell ok rfl rfl rfl | exact ev_free ok rfl rfl rfl rfl) (es_nil ok) (fun _ => rfl)) h_sweep (fun _ => rfl)) rfl (by first | exact .inl rfl | exact .inr rfl) (fun _ _ => rfl))
  (bk_cons ok (ex_asg ok hj (ev_def ok d_common rfl rfl (es_cons ok (by first | exact ev_local ok rfl rfl rfl | exact ev_cell ok rfl rfl rfl | exact ev_free ok rfl rfl rfl rfl) (es_nil ok) (fun _ => rfl)) h_common (fun _ => rfl)) rfl (by first | exact .inl rfl | exact .inr rfl) (fun _ _ => rfl))
  (bk_cons ok (ex_asg ok hj (ev_def ok d_choose rfl rfl (es_cons ok (by first | exact ev_local ok rfl rfl rfl | exact ev_cell ok rfl rfl rfl | exact ev_free ok rfl rfl rfl rfl) (es_nil ok) (fun _ => rfl)) h_choose (fun _ => rfl)) rfl (by first | exact .inl rfl | exact .inr rfl) (fun _ _ => rfl))
  (bk_cons ok (ex_asgcomp' ok (by decide +kernel) hj (it_range1 ok g_range rfl rfl (es_cons ok (ev_bin ok op_add (by first | exact ev_local ok rfl rfl rfl | exact ev_cell ok rfl rfl rfl | exact ev_free ok rfl rfl rfl rfl) (ev_int ok)) (es_nil ok) (fun _ => rfl)) (fun _ => rfl)) tst_nil (ev_callB ok (.inl ⟨_, rfl⟩) g_sum rfl rfl (es_cons ok (ev_comp' ok (by decide +kernel) (it_range2 ok g_range rfl rfl (es_cons ok (by first | exact ev_local ok rfl rfl rfl | exact ev_cell ok rfl rfl rfl | exact ev_free ok rfl rfl rfl rfl) (es_cons ok (ev_bin ok op_add (by first | exact ev_local ok rfl rfl rfl | exact ev_cell ok rfl rfl rfl | exact ev_free ok rfl rfl rfl rfl) (ev_int ok)) (es_nil ok) (fun _ => rfl)) (fun _ => rfl)) (fun _ => rfl) (fun _ => rfl)) tst_nil (ev_bin ok op_mul (ev_bin ok op_mul (ev_bin ok op_pow (ev_neg ok (ev_int ok)) (ev_bin ok op_sub (by first | exact ev_local ok rfl rfl rfl | exact ev_cell ok rfl rfl rfl | exact ev_free ok rfl rfl rfl rfl) (by first | exact ev_local ok rfl rfl rfl | exact ev_cell ok rfl rfl rfl | exact ev_free ok rfl rfl rfl rfl))) (ev_idx ok (ev_idx ok (by first | exact ev_local ok rfl rfl rfl | exact ev_cell ok rfl rfl rfl | exact ev_free ok rfl rfl rfl rfl) (by first | exact ev_local ok rfl rfl rfl | exact ev_cell ok rfl rfl rfl | exact ev_free ok rfl rfl rfl rfl) (fun _ _ => rfl)) (by first | exact ev_local ok rfl rfl rfl | exact ev_cell ok rfl rfl rfl | exact ev_free ok rfl rfl rfl rfl) (fun _ _ => rfl))) (ev_idx ok (by first | exact ev_local ok rfl rfl rfl | exact ev_cell ok rfl rfl rfl | exact ev_free ok rfl rfl rfl rfl) (by first | exact ev_local ok rfl rfl rfl | exact ev_cell ok rfl rfl rfl | exact ev_free ok rfl rfl rfl rfl) (fun _ _ => rfl))) (fun _ _ => rfl)) (es_nil ok) (fun _ => rfl)) (fo_sum ok) (fun _ => rfl) (fun _ _ => rfl)) (fun _ _ => rfl) rfl rfl (fun _ h => by unfold swapsWith; simp only [Env.blockKind, Env.kindOf, h]; rfl))
  (bk_one ok (ex_return ok (ev_cmp ok cm_eqIL (by first | exact ev_local ok rfl rfl rfl | exact ev_cell ok rfl rfl rfl | exact ev_free ok rfl rfl rfl rfl) (by first | exact ev_local ok rfl rfl rfl | exact ev_cell ok rfl rfl rfl | exact ev_free ok rfl rfl rfl rfl) rfl)))))))))))))

end Mini

/-! L2B -/
namespace Mini

theorem bis2_spec {B a : Addr} {is : List Int} {x : Int} {h : AH} {Q : AV → AH → Prop} (ha : h a = some (.list (is.map AV.int))) (hs : Incr is) (hlen : is.length < 2 ^ 20)
    (q : ∀ p : Nat, p ≤ is.length → (∀ i (hi : i < is.length), i < p → is[i] < x) → (∀ i (hi : i < is.length), p ≤ i → x ≤ is[i]) → Q (.int p) h) : f_bis2 B [.ref a, .int x] h Q := by
  refine ⟨rfl, ?_⟩
  dsimp only [fnT, t_bis, T.seq, T.ife, T.cmp, T.var, T.int, T.none, P.lt, P.isN, T.asg, T.call, T.econs, T.enil, F.len, T.skip, T.while_]
  refine ⟨.int 0, rfl, 0, 0, rfl, rfl, ?_⟩
  rw [if_neg (by decide)]
  refine ⟨.none, rfl, rfl, nofun, ?_⟩
  rw [if_pos (show P.isNone AV.none = true from rfl)]
  refine ⟨.ref a, rfl, a, _, rfl, ha, by rw [List.length_map]; omega, .none, rfl, rfl, nofun, ?_⟩
  rw [if_pos (show P.isNone AV.none = true from rfl)]
  refine ⟨fun k loc h' => h' = h ∧ loc 0 = some (.ref a) ∧ loc 1 = some (.int x) ∧ ∃ lo hi : Nat, loc 2 = some (.int lo) ∧ loc 3 = some (.int hi) ∧ lo ≤ hi ∧ hi ≤ is.length ∧ k = hi - lo ∧
    (∀ i (hi : i < is.length), i < lo → is[i] < x) ∧ (∀ i (hi' : i < is.length), hi ≤ i → x ≤ is[i]), is.length, ⟨rfl, rfl, rfl, 0, is.length, rfl, ?_, by omega, by omega, by omega, fun i _ h => absurd h (Nat.not_lt_zero _), fun i h1 h2 => by omega⟩, ?_⟩
  · rw [upd_same, List.length_map]
  rintro k loc _ ⟨rfl, e0, e1, lo, hi, e2, e3, hle, hhi, rfl, hlo, hhi'⟩
  refine ⟨_, e2, _, e3, _, _, rfl, rfl, ?_⟩
  by_cases hlt : (lo : Int) < hi
  · rw [if_pos (decide_eq_true hlt)]
    dsimp only [T.bin, T.var, T.int, P.add, P.fdiv, T.idx]
    refine ⟨_, e2, _, e3, lo, hi, rfl, rfl, _, _, rfl, rfl, by decide, PyProof.noPylong_small (by decide), ?_⟩
    have hmid : ((lo : Int) + hi).fdiv 2 = ((lo + hi) / 2 : Nat) := by
      rw [Int.fdiv_eq_ediv_of_nonneg _ (by omega)]; omega
    rw [hmid]
    generalize hm : (lo + hi) / 2 = mid
    have hml : mid < is.length := by omega
    refine ⟨_, (upd_ne (by decide)).trans e0, _, upd_same .., a, _, _, _, rfl, rfl, ha, by omega, by omega, getI (by simpa using hml), _, (upd_ne (by decide)).trans e1, _, _, rfl, rfl, ?_⟩
    dsimp only [Int.toNat_natCast]
    by_cases hx : is[mid] < x
    · rw [if_pos (decide_eq_true hx)]
      refine ⟨_, upd_same .., _, _, rfl, rfl, hi - (mid + 1), by omega, rfl, ?_, ?_, mid + 1, hi, ?_, ?_, by omega, hhi, rfl, fun i h1 h2 => ?_, hhi'⟩
      · rw [upd_ne (by decide), upd_ne (by decide)]; exact e0
      · rw [upd_ne (by decide), upd_ne (by decide)]; exact e1
      · rw [upd_same]; rfl
      · rw [upd_ne (by decide), upd_ne (by decide)]; exact e3
      · exact Int.lt_of_le_of_lt (hs i mid h1 hml (by omega)) hx
    · rw [if_neg (by simpa using hx)]
      refine ⟨_, upd_same .., mid - lo, by omega, rfl, ?_, ?_, lo, mid, ?_, ?_, by omega, by omega, rfl, hlo, fun i h1 h2 => ?_⟩
      · rw [upd_ne (by decide), upd_ne (by decide)]; exact e0
      · rw [upd_ne (by decide), upd_ne (by decide)]; exact e1
      · rw [upd_ne (by decide), upd_ne (by decide)]; exact e2
      · rw [upd_same]
      · exact Int.le_trans (Int.not_lt.mp hx) (hs mid i hml h1 h2)
  · rw [if_neg (by simpa using hlt)]
    dsimp only [T.ret, T.var, FnRet]
    have hlh : lo = hi := by omega
    subst hlh
    exact ⟨_, e2, q lo hhi hlo hhi'⟩
theorem marks_spec {B a : Addr} {is : List Int} {h : AH} {Q : AV → AH → Prop} (ha : h a = some (.list (is.map AV.int))) (hlen : is.length < 2 ^ 19)
    (q : ∀ m ms, B ≤ m → h m = none → SIncr ms → (∀ v, v ∈ ms ↔ v ∈ is) → ms.length ≤ is.length → Q (.ref m) (upd h m (.list (ms.map AV.int)))) : f_marks B [.ref a] h Q := by
  refine ⟨rfl, ?_⟩
  dsimp only [fnT, t_marks, T.seq, T.asg, T.list, T.enil]
  refine ⟨by decide, fun m hB hm => ?_⟩
  dsimp only [T.for_, T.itL, T.var]
  have ham : a ≠ m := ne_of ha hm
  refine ⟨.ref a, by rw [upd_ne (by decide)]; rfl, a, _, rfl, by rw [upd_ne ham]; exact ha, ?_⟩
  refine ⟨fun k loc h' => loc 0 = some (.ref a) ∧ loc 1 = some (.ref m) ∧ k ≤ is.length ∧ ∃ ms : List Int, h' = upd h m (.list (ms.map AV.int)) ∧ SIncr ms ∧ (∀ v, v ∈ ms ↔ v ∈ is.take k) ∧ ms.length ≤ k, is.length,
    ⟨by rw [upd_ne (by decide)]; rfl, upd_same .., Nat.zero_le _, [], rfl, List.Pairwise.nil, by simp, Nat.le_refl _⟩, ?_⟩
  rintro k loc _ ⟨e0, e1, hk, ms, rfl, hs, hmem, hml⟩
  refine ⟨_, items_list (by rw [upd_ne ham]; exact ha), by rw [List.length_map]; exact Nat.le_refl _, ?_⟩
  rcases Nat.lt_or_ge k is.length with hlt | hge
  · rw [getI hlt]
    dsimp only [T.asN, T.call, T.econs, T.enil, T.var]
    refine ⟨_, (upd_ne (by decide)).trans e1, _, upd_same .., bis2_spec (upd_same ..) hs.incr (by omega) fun p hp h1 h2 => ?_⟩
    dsimp only [T.ife, T.or, T.cmp, T.var, P.eqI, P.neI, T.call, T.econs, T.enil, F.len, T.idx, T.expr, T.meth, F.insert, T.skip]
    have hupd : ∀ ys zs, upd (upd h m (.list ys)) m (.list zs) = upd h m (.list zs) := fun ys zs => by
      funext b
      by_cases hb : b = m
      · subst hb; rw [upd_same, upd_same]
      · rw [upd_ne hb, upd_ne hb, upd_ne hb]
    have l0 : ∀ (w : AV) (z : AV), upd (upd loc 2 w) 3 z 0 = some (.ref a) := fun w z => by rw [upd_ne (by decide), upd_ne (by decide)]; exact e0
    have l1 : ∀ (w : AV) (z : AV), upd (upd loc 2 w) 3 z 1 = some (.ref m) := fun w z => by rw [upd_ne (by decide), upd_ne (by decide)]; exact e1
    have l2 : ∀ (w : AV) (z : AV), upd (upd loc 2 w) 3 z 2 = some w := fun w z => by rw [upd_ne (by decide)]; exact upd_same ..
    have htk : is.take (k + 1) = is.take k ++ [is[k]] := by rw [List.take_add_one, List.getElem?_eq_getElem hlt]; rfl
    have insert : ∀ (hp2 : ∀ i (hi : i < ms.length), p ≤ i → is[k] < ms[i]), (upd h m (Cell.list ((ms.take p ++ is[k] :: ms.drop p).map AV.int)) = upd h m (.list ((ms.take p ++ is[k] :: ms.drop p).map AV.int)) ∧ SIncr (ms.take p ++ is[k] :: ms.drop p) ∧ (∀ v, v ∈ ms.take p ++ is[k] :: ms.drop p ↔ v ∈ is.take (k + 1)) ∧ (ms.take p ++ is[k] :: ms.drop p).length ≤ k + 1) := by
      intro hp2
      refine ⟨rfl, ins_sorted hs hp h1 hp2, fun v => ?_, by simp; omega⟩
      rw [mem_ins, htk, List.mem_append, List.mem_singleton, hmem]
      exact Or.comm
    refine ⟨_, upd_same .., _, l1 _ _, m, _, rfl, upd_same .., by rw [List.length_map]; omega, _, _, rfl, rfl, ?_⟩
    rw [List.length_map]
    by_cases hpe : p = ms.length
    · rw [if_pos (by simp [hpe]), if_pos rfl]
      refine ⟨_, l1 _ _, ⟨m, _, rfl, upd_same ..⟩, _, upd_same .., _, l2 _ _, m, _, p, _, rfl, upd_same .., hB, by rw [List.length_map]; omega, by omega, by rw [List.length_map]; omega, ?_⟩
      refine ⟨l0 _ _, l1 _ _, hlt, ms.take p ++ is[k] :: ms.drop p, ?_, (insert fun i hi hpi => absurd hi (by omega)).2⟩
      rw [hupd]; simp [List.map_take, List.map_drop]
    · have hpl : p < ms.length := by omega
      rw [if_neg (by simp; omega)]
      refine ⟨_, l1 _ _, _, upd_same .., m, _, p, _, rfl, rfl, upd_same .., by omega, by omega, getI (by simpa using hpl), _, l2 _ _, _, _, rfl, rfl, ?_⟩
      by_cases hne : ms[p] = is[k]
      · rw [if_neg (by simp [hne])]
        refine ⟨l0 _ _, l1 _ _, hlt, ms, rfl, hs, fun v => ?_, by omega⟩
        rw [htk, List.mem_append, List.mem_singleton, ← hmem]
        constructor
        · exact .inl
        · rintro (h | rfl)
          · exact h
          · rw [← hne]; exact List.getElem_mem _
      · rw [if_pos (by simpa using hne)]
        refine ⟨_, l1 _ _, ⟨m, _, rfl, upd_same ..⟩, _, upd_same .., _, l2 _ _, m, _, p, _, rfl, upd_same .., hB, by rw [List.length_map]; omega, by omega, by rw [List.length_map]; omega, ?_⟩
        refine ⟨l0 _ _, l1 _ _, hlt, ms.take p ++ is[k] :: ms.drop p, ?_, (insert fun i hi hpi => ?_).2⟩
        · rw [hupd]; simp [List.map_take, List.map_drop]
        · have := hs.incr p i hpl hi hpi
          have := h2 p hpl (Nat.le_refl _)
          omega
  · rw [List.getElem?_eq_none (by rw [List.length_map]; exact hge)]
    dsimp only [T.ret, T.var, FnRet]
    have : is.take k = is := List.take_of_length_le hge
    rw [this] at hmem
    exact ⟨_, e1, q m ms hB hm hs hmem (by omega)⟩
end Mini

/-! L2C -/
namespace Mini

/-! sizes of products -/
theorem bits_le {x : Int} {K : Nat} (h : x.natAbs < 2 ^ K) : Builtin.Int.intBits x ≤ K := by
  unfold Builtin.Int.intBits
  split
  · exact Nat.zero_le _
  · rename_i hx
    have hx0 : x.natAbs ≠ 0 := by simpa using hx
    have := (Nat.log2_lt hx0).mpr h
    omega
theorem mul_ok {x y : Int} {K : Nat} (hK : K ≤ 2000000) (hx : x.natAbs < 2 ^ K) (hy : y.natAbs < 2 ^ K) : IntMulOk x y := by
  have h1 := bits_le hx
  have h2 := bits_le hy
  unfold IntMulOk
  have h3 : Builtin.Int.intTooBig ((Builtin.Int.intBits x : Int) + Builtin.Int.intBits y) = false := by
    unfold Builtin.Int.intTooBig bitsLine
    simp only [decide_eq_false_iff_not]
    omega
  rw [h3]; simp
theorem sub_lt {a b : Int} {K : Nat} (ha : a.natAbs < 2 ^ K) (hb : b.natAbs < 2 ^ K) : (a - b).natAbs < 2 ^ (K + 1) := by
  rw [Nat.pow_succ]
  generalize 2 ^ K = M at *
  omega

/-! places -/
def pos (is : List Int) (x : Int) : Nat := (is.filter fun y => decide (y < x)).length

theorem pos_eq {is : List Int} {x : Int} {p : Nat} (hp : p ≤ is.length) (h1 : ∀ i (hi : i < is.length), i < p → is[i] < x) (h2 : ∀ i (hi : i < is.length), p ≤ i → x ≤ is[i]) : pos is x = p := by
  unfold pos
  have e : is.filter (fun y => decide (y < x)) = is.take p := by
    conv => lhs; rw [← List.take_append_drop p is]
    rw [List.filter_append]
    have a1 : (is.take p).filter (fun y => decide (y < x)) = is.take p := List.filter_eq_self.mpr fun y hy => by
      obtain ⟨i, hi, rfl⟩ := List.getElem_of_mem hy
      rw [List.length_take] at hi
      rw [List.getElem_take]
      exact decide_eq_true (h1 i (by omega) (by omega))
    have a2 : (is.drop p).filter (fun y => decide (y < x)) = [] := List.filter_eq_nil_iff.mpr fun y hy => by
      obtain ⟨i, hi, rfl⟩ := List.getElem_of_mem hy
      rw [List.getElem_drop]
      have := h2 (p + i) (by rw [List.length_drop] at hi; omega) (by omega)
      simp; omega
    rw [a1, a2, List.append_nil]
  rw [e, List.length_take]; omega

theorem bis2_pos {B a : Addr} {is : List Int} {x : Int} {h : AH} {Q : AV → AH → Prop} (ha : h a = some (.list (is.map AV.int))) (hs : Incr is) (hlen : is.length < 2 ^ 20)
    (q : Q (.int (pos is x)) h) : f_bis2 B [.ref a, .int x] h Q :=
  bis2_spec ha hs hlen fun p hp h1 h2 => by rw [← pos_eq hp h1 h2]; exact q

theorem pos_le (is : List Int) (x : Int) : pos is x ≤ is.length := List.length_filter_le _ _

/-- what lies below x is the first part -/
theorem pos_lt_iff {is : List Int} (hs : Incr is) {x : Int} {i : Nat} (hi : i < is.length) : is[i] < x ↔ i < pos is x := by
  -- the first place whose item is not below x
  have key : ∃ p, p ≤ is.length ∧ (∀ i (hi : i < is.length), i < p → is[i] < x) ∧ (∀ i (hi : i < is.length), p ≤ i → x ≤ is[i]) := by
    have gen : ∀ n, n ≤ is.length → ∃ p, p ≤ n ∧ (∀ i (hi : i < is.length), i < p → is[i] < x) ∧ (∀ i (hi : i < is.length), p ≤ i → i < n → x ≤ is[i]) := by
      intro n
      induction n with
      | zero => exact fun _ => ⟨0, Nat.le_refl _, fun i _ h => absurd h (Nat.not_lt_zero _), fun i _ _ h => absurd h (Nat.not_lt_zero _)⟩
      | succ n ih =>
        intro hn
        obtain ⟨p, h1, h2, h3⟩ := ih (by omega)
        by_cases hp : p = n
        · by_cases hx : is[n] < x
          · refine ⟨n + 1, Nat.le_refl _, fun i hi hlt => ?_, fun i hi h4 h5 => by omega⟩
            exact Int.lt_of_le_of_lt (hs i n hi (by omega) (by omega)) hx
          · refine ⟨p, by omega, h2, fun i hi h4 h5 => ?_⟩
            have : i = n := by omega
            subst this; omega
        · refine ⟨p, by omega, h2, fun i hi h4 h5 => ?_⟩
          by_cases hin : i = n
          · subst hin
            have := h3 p (by omega) (Nat.le_refl _) (by omega)
            exact Int.le_trans this (hs p i (by omega) hi (by omega))
          · exact h3 i hi h4 (by omega)
    obtain ⟨p, h1, h2, h3⟩ := gen is.length (Nat.le_refl _)
    exact ⟨p, h1, h2, fun i hi h => h3 i hi h hi⟩
  obtain ⟨p, h1, h2, h3⟩ := key
  rw [pos_eq h1 h2 h3]
  constructor
  · intro h
    rcases Nat.lt_or_ge i p with q | q
    · exact q
    · have := h3 i hi q; omega
  · exact h2 i hi

theorem pos_mem {is : List Int} (hs : SIncr is) {x : Int} (hx : x ∈ is) : ∃ h : pos is x < is.length, is[pos is x] = x := by
  obtain ⟨j, hj, rfl⟩ := List.getElem_of_mem hx
  have h1 : ¬ j < pos is is[j] := fun h => by have := (pos_lt_iff hs.incr hj).mpr h; omega
  have hp : pos is is[j] < is.length := by omega
  refine ⟨hp, ?_⟩
  have h2 : ¬ is[pos is is[j]] < is[j] := fun h => by have := (pos_lt_iff hs.incr hp).mp h; omega
  have h3 := hs.incr _ j hp hj (by omega)
  omega
theorem pos_mono {is : List Int} {x y : Int} (h : x ≤ y) : pos is x ≤ pos is y := by
  unfold pos
  induction is with
  | nil => simp
  | cons a r ih =>
    simp only [List.filter_cons]
    split <;> split <;> simp_all <;> omega

/-! boxes -/
structure Box where
  l : Int
  r : Int
  b : Int
  t : Int
def Box.cell (p : Box) : Cell := .list [.int p.l, .int p.r, .int p.b, .int p.t]
def Box.at (p : Box) : Nat → Int
  | 0 => p.l
  | 1 => p.r
  | 2 => p.b
  | _ => p.t
def BoxesAt (h : AH) (a : Addr) (bx : List (Addr × Box)) : Prop := h a = some (.list (bx.map fun p => AV.ref p.1)) ∧ ∀ p ∈ bx, h p.1 = some p.2.cell
theorem BoxesAt.ext {h h' : AH} {a : Addr} {bx : List (Addr × Box)} (x : BoxesAt h a bx) (e : Ext h h') : BoxesAt h' a bx := ⟨e _ _ x.1, fun p hp => e _ _ (x.2 p hp)⟩

/-- an item of a box -/
theorem box_idx {h : AH} {p : Addr × Box} {k : Nat} {loc : Loc} {i : Nat} {Q : AV → AH → Prop} (hp : h p.1 = some p.2.cell) (hk : k < 4) (hi : loc i = some (.ref p.1)) (q : Q (.int (p.2.at k)) h) :
    T.idx (T.var i) (T.int k) loc h Q := by
  dsimp only [T.idx, T.var, T.int]
  refine ⟨_, hi, p.1, _, k, _, rfl, rfl, hp, by omega, by omega, ?_, q⟩
  rw [Int.toNat_natCast]
  match k, hk with
  | 0, _ => rfl
  | 1, _ => rfl
  | 2, _ => rfl
  | 3, _ => rfl

/-- the column of the k-th items -/
theorem col_ok {B a : Addr} {h : AH} {bx : List (Addr × Box)} {k i j : Nat} {loc : Loc} {Q : AV → AH → Prop} (hb : BoxesAt h a bx) (hlen : bx.length ≤ 2 ^ 18) (hk : k < 4) (hj : loc j = some (.ref a))
    (q : ∀ D, B ≤ D → h D = none → Q (.ref D) (upd h D (.list ((bx.map fun p => p.2.at k).map AV.int)))) :
    T.comp B (T.itL (T.var j)) i T.yes (T.idx (T.var i) (T.int k)) loc h Q := by
  dsimp only [T.comp, T.itL, T.var]
  refine ⟨_, hj, a, _, rfl, hb.1, ?_⟩
  refine comp_map (g := fun v => match v with | .ref c => (match h c with | some (.list xs) => (xs[k]?).getD .none | _ => .none) | _ => .none) (items_list hb.1) (by rw [List.length_map]; omega) ?_ ?_
  · intro v hv h2 hx Q' q'
    obtain ⟨p, hp, rfl⟩ := List.mem_map.mp hv
    refine box_idx (p := p) (hx _ _ (hb.2 p hp)) hk (upd_same ..) ?_
    dsimp only at q'
    rw [hb.2 p hp] at q'
    match k, hk, q' with
    | 0, _, q' => exact q'
    | 1, _, q' => exact q'
    | 2, _, q' => exact q'
    | 3, _, q' => exact q'
  · intro D hB hD
    have : List.map (fun v => match v with | .ref c => (match h c with | some (.list xs) => (xs[k]?).getD .none | _ => .none) | _ => .none) (bx.map fun p => AV.ref p.1) = (bx.map fun p => p.2.at k).map AV.int := by
      rw [List.map_map, List.map_map]
      refine List.map_congr_left fun p hp => ?_
      simp only [Function.comp]
      rw [hb.2 p hp]
      match k, hk with
      | 0, _ => rfl
      | 1, _ => rfl
      | 2, _ => rfl
      | 3, _ => rfl
    rw [this]; exact q D hB hD
end Mini

/-! L2D -/
namespace Mini

/-- a comprehension of new empty lists -/
theorem comp_new {B : Addr} {src : Src} {h1 : AH} {xs : List AV} {loc : Loc} {i : Nat} {Q : AV → AH → Prop} (hs : src.items h1 = some xs) (hl : xs.length ≤ 2 ^ 19)
    (hQ : ∀ (D : Addr) (cs : List Addr) (h' : AH), B ≤ D → h1 D = none → Ext h1 h' → h' D = some (.list (cs.map AV.ref)) → cs.length = xs.length → cs.Nodup → (∀ c ∈ cs, B ≤ c ∧ h1 c = none ∧ c ≠ D ∧ h' c = some (.list [])) → Q (.ref D) h') :
    ∀ D, B ≤ D → h1 D = none → ∃ (I : Nat → List AV → AH → Prop) (N : Nat), I 0 [] (upd h1 D (.list [])) ∧ ∀ k ys h, I k ys h → h D = some (.list ys) ∧ ys.length < 2 ^ 20 ∧ ∃ xs, src.items h = some xs ∧ xs.length ≤ N ∧
      match xs[k]? with
      | Option.none => Q (.ref D) h
      | some v => T.yes (upd loc i v) h fun b h2 => if b then T.list B T.enil (upd loc i v) h2 fun y h3 => h3 D = some (.list ys) ∧ I (k + 1) (ys ++ [y]) (upd h3 D (.list (ys ++ [y]))) else I (k + 1) ys h2 := by
  intro D hB hD
  have hitems : ∀ h', Ext h1 h' → src.items h' = some xs := fun h' e => by
    cases src with
    | list a =>
      simp only [Src.items] at hs ⊢
      split at hs
      · rename_i ys hy; rw [e _ _ hy]; exact hs
      · cases hs
    | tup a =>
      simp only [Src.items] at hs ⊢
      split at hs
      · rename_i ys hy; rw [e _ _ hy]; exact hs
      · cases hs
    | range _ _ _ => exact hs
  refine ⟨fun k ys h => k ≤ xs.length ∧ ∃ cs, ys = cs.map AV.ref ∧ cs.length = k ∧ Ext h1 h ∧ h D = some (.list (cs.map AV.ref)) ∧ cs.Nodup ∧ ∀ c ∈ cs, B ≤ c ∧ h1 c = none ∧ c ≠ D ∧ h c = some (.list []), xs.length,
    ⟨Nat.zero_le _, [], rfl, rfl, Ext.new hD, upd_same .., List.nodup_nil, nofun⟩, ?_⟩
  rintro k _ h ⟨hk, cs, rfl, hcl, he, hd, hnd, hcs⟩
  refine ⟨hd, by rw [List.length_map]; omega, xs, hitems h he, Nat.le_refl _, ?_⟩
  cases q : xs[k]? with
  | none =>
    rw [List.getElem?_eq_none_iff] at q
    exact hQ D cs h hB hD he hd (by omega) hnd hcs
  | some v =>
    have hlt : k < xs.length := by
      rcases Nat.lt_or_ge k xs.length with r | r
      · exact r
      · rw [List.getElem?_eq_none r] at q; cases q
    dsimp only [T.yes, T.list, T.enil]
    rw [if_pos rfl]
    refine ⟨by decide, fun a hBa ha => ⟨?_, hlt, cs ++ [a], by simp, by simp [hcl], ?_, ?_, ?_, ?_⟩⟩
    · rw [upd_ne (ne_of hd ha)]; exact hd
    · exact (he.trans (Ext.new ha)).set hD
    · rw [upd_same]; simp
    · rw [List.nodup_append]
      refine ⟨hnd, by simp, fun x hx y hy e => ?_⟩
      rw [List.mem_singleton] at hy
      subst hy; subst e
      rw [(hcs _ hx).2.2.2] at ha; cases ha
    · intro c hc
      rcases List.mem_append.mp hc with hc | hc
      · obtain ⟨a1, a2, a3, a4⟩ := hcs c hc
        exact ⟨a1, a2, a3, by rw [upd_ne a3, upd_ne (ne_of a4 ha)]; exact a4⟩
      · rw [List.mem_singleton] at hc
        subst hc
        exact ⟨hBa, he.none ha, (ne_of hd ha).symm, by rw [upd_ne (ne_of hd ha).symm, upd_same]⟩

/-! the changes that a strip's left side brings -/
structure Trip where
  lo : Nat
  up : Nat
  st : Int
def TripAt (h : AH) (v : AV) (t : Trip) : Prop := ∃ a, v = .ref a ∧ h a = some (.list [.int t.lo, .int t.up, .int t.st])
inductive TripsAt (h : AH) : List AV → List Trip → Prop
  | nil : TripsAt h [] []
  | cons {v t vs ts} : TripAt h v t → TripsAt h vs ts → TripsAt h (v :: vs) (t :: ts)
theorem TripsAt.snoc {h : AH} {vs : List AV} {ts : List Trip} {v : AV} {t : Trip} (x : TripsAt h vs ts) (y : TripAt h v t) : TripsAt h (vs ++ [v]) (ts ++ [t]) := by
  induction x with
  | nil => exact .cons y .nil
  | cons a b ih => exact .cons a ih
theorem TripsAt.len {h : AH} {vs : List AV} {ts : List Trip} (x : TripsAt h vs ts) : vs.length = ts.length := by
  induction x with
  | nil => rfl
  | cons a b ih => simp [ih]
theorem TripsAt.get {h : AH} {vs : List AV} {ts : List Trip} (x : TripsAt h vs ts) {i : Nat} {v : AV} (hv : vs[i]? = some v) : ∃ t, ts[i]? = some t ∧ TripAt h v t := by
  induction x generalizing i with
  | nil => simp at hv
  | cons a b ih =>
    cases i with
    | zero => simp at hv; subst hv; exact ⟨_, rfl, a⟩
    | succ i => simpa using ih (by simpa using hv)
theorem TripsAt.mono {h h' : AH} {vs : List AV} {ts : List Trip} (x : TripsAt h vs ts) (k : ∀ v t, TripAt h v t → TripAt h' v t) : TripsAt h' vs ts := by
  induction x with
  | nil => exact .nil
  | cons a b ih => exact .cons (k _ _ a) ih

/-- the lists of changes, one a left or right side -/
structure ChAt (h : AH) (cs : List Addr) (T : Nat → List Trip) : Prop where
  ls : ∀ i (hi : i < cs.length), ∃ vs, h cs[i] = some (.list vs) ∧ TripsAt h vs (T i)
theorem ChAt.ext {h h' : AH} {cs : List Addr} {T : Nat → List Trip} (x : ChAt h cs T) (e : Ext h h') : ChAt h' cs T := ⟨fun i hi => by
  obtain ⟨vs, h1, h2⟩ := x.ls i hi
  exact ⟨vs, e _ _ h1, h2.mono fun v t ⟨a, e1, e2⟩ => ⟨a, e1, e _ _ e2⟩⟩⟩

/-- a change's own list is none of the lists of changes -/
theorem trip_ne {h : AH} {cs : List Addr} {T : Nat → List Trip} (x : ChAt h cs T) {v : AV} {t : Trip} {a : Addr} (hv : v = .ref a) (ha : h a = some (.list [.int t.lo, .int t.up, .int t.st])) {i : Nat} (hi : i < cs.length) : a ≠ cs[i] := by
  rintro rfl
  obtain ⟨vs, h1, h2⟩ := x.ls i hi
  rw [ha] at h1
  cases h1
  generalize T i = ts at h2
  cases h2 with
  | cons y _ => obtain ⟨a, e, _⟩ := y; cases e

theorem ChAt.push {h : AH} {cs : List Addr} {T : Nat → List Trip} (x : ChAt h cs T) (hnd : cs.Nodup) {i : Nat} (hi : i < cs.length) {vs : List AV} (hvs : h cs[i] = some (.list vs)) {a : Addr} {t : Trip}
    (ha : h a = some (.list [.int t.lo, .int t.up, .int t.st])) : ChAt (upd h cs[i] (.list (vs ++ [.ref a]))) cs (fun j => if j = i then T j ++ [t] else T j) := by
  have keep : ∀ v t, TripAt h v t → TripAt (upd h cs[i] (.list (vs ++ [.ref a]))) v t := fun v t ⟨b, e1, e2⟩ => ⟨b, e1, by rw [upd_ne (trip_ne x e1 e2 hi)]; exact e2⟩
  refine ⟨fun j hj => ?_⟩
  by_cases hji : j = i
  · subst hji
    obtain ⟨us, h1, h2⟩ := x.ls j hj
    rw [hvs] at h1; cases h1
    refine ⟨_, upd_same .., ?_⟩
    rw [if_pos rfl]
    exact (h2.mono keep).snoc (keep _ _ ⟨a, rfl, ha⟩)
  · obtain ⟨us, h1, h2⟩ := x.ls j hj
    have hne : cs[j] ≠ cs[i] := fun q => hji ((List.getElem_inj hnd).mp q)
    refine ⟨us, by rw [upd_ne hne]; exact h1, ?_⟩
    rw [if_neg hji]
    exact h2.mono keep
end Mini

/-! L2E -/
namespace Mini

def sumN : Nat → (Nat → Int) → Int
  | 0, _ => 0
  | n + 1, f => sumN n f + f n
theorem sumN_congr {n : Nat} {f g : Nat → Int} (h : ∀ i, i < n → f i = g i) : sumN n f = sumN n g := by
  induction n with
  | zero => rfl
  | succ n ih => rw [sumN, sumN, ih fun i hi => h i (by omega), h n (by omega)]

def mk (n : Nat) (f : Nat → Int) : List Int := (List.range n).map f
theorem mk_len (n : Nat) (f : Nat → Int) : (mk n f).length = n := by simp [mk]
theorem mk_get {n : Nat} {f : Nat → Int} {i : Nat} (hi : i < (mk n f).length) : (mk n f)[i] = f i := by simp [mk]
theorem mk_congr {n : Nat} {f g : Nat → Int} (h : ∀ i, i < n → f i = g i) : mk n f = mk n g := by
  unfold mk; exact List.map_congr_left fun i hi => h i (List.mem_range.mp hi)
theorem mk_set {n : Nat} {f : Nat → Int} {i : Nat} {v : Int} : (mk n f).set i v = mk n fun c => if c = i then v else f c := by
  apply List.ext_getElem
  · simp [mk]
  · intro j h1 h2
    rw [List.getElem_set, mk_get]
    rw [mk_get]
    by_cases hij : i = j
    · subst hij; simp
    · rw [if_neg hij, if_neg (Ne.symm hij)]
theorem mk_rep (n : Nat) : (mk n fun _ => 0).map AV.int = List.replicate n (AV.int 0) := by
  apply List.ext_getElem
  · simp [mk]
  · intro j h1 h2; simp [mk]
theorem getMk {n : Nat} {f : Nat → Int} {i : Nat} (hi : i < n) : ((mk n f).map AV.int)[i]? = some (.int (f i)) := by
  rw [getI (by rw [mk_len]; exact hi), mk_get]
theorem setMk {n : Nat} {f : Nat → Int} {i : Nat} {v : Int} : ((mk n f).map AV.int).set i (.int v) = (mk n fun c => if c = i then v else f c).map AV.int := by
  rw [← mk_set, List.map_set]

theorem upd_upd {h : AH} {a : Addr} {c d : Cell} : upd (upd h a c) a d = upd h a d := by
  funext b
  by_cases hb : b = a
  · subst hb; rw [upd_same, upd_same]
  · rw [upd_ne hb, upd_ne hb, upd_ne hb]
theorem upd_id {h : AH} {a : Addr} {c : Cell} (e : h a = some c) : upd h a c = h := by
  funext b
  by_cases hb : b = a
  · subst hb; rw [upd_same, e]
  · rw [upd_ne hb]
theorem upd_comm {h : AH} {a b : Addr} {c d : Cell} (hab : a ≠ b) : upd (upd h a c) b d = upd (upd h b d) a c := by
  funext x
  by_cases h1 : x = a
  · subst h1; rw [upd_ne hab, upd_same, upd_same]
  · by_cases h2 : x = b
    · subst h2; rw [upd_same, upd_ne (Ne.symm hab), upd_same]
    · rw [upd_ne h2, upd_ne h1, upd_ne h1, upd_ne h2]

/-- the marks of two columns -/
theorem marks2 {B a : Addr} {h : AH} {bx : List (Addr × Box)} {k1 k2 i1 i2 j : Nat} {loc : Loc} {Q : AV → AH → Prop} (hb : BoxesAt h a bx) (hlen : bx.length ≤ 1000) (hk1 : k1 < 4) (hk2 : k2 < 4) (hj : loc j = some (.ref a))
    (q : ∀ m ms h', Ext h h' → B ≤ m → h m = none → h' m = some (.list (ms.map AV.int)) → SIncr ms → (∀ v, v ∈ ms ↔ ∃ p ∈ bx, v = p.2.at k1 ∨ v = p.2.at k2) → ms.length ≤ 2 * bx.length → Q (.ref m) h') :
    T.call (T.econs (T.bin (P.addL B) (T.comp B (T.itL (T.var j)) i1 T.yes (T.idx (T.var i1) (T.int k1))) (T.comp B (T.itL (T.var j)) i2 T.yes (T.idx (T.var i2) (T.int k2)))) T.enil) (f_marks B) loc h Q := by
  dsimp only [T.call, T.econs, T.bin, T.enil]
  refine col_ok hb (by omega) hk1 hj fun D1 hB1 hD1 => ?_
  have e1 : Ext h (upd h D1 (.list ((bx.map fun p => p.2.at k1).map AV.int))) := Ext.new hD1
  refine col_ok (hb.ext e1) (by omega) hk2 hj fun D2 hB2 hD2 => ?_
  have hne : D1 ≠ D2 := ne_of (upd_same ..) hD2
  refine ⟨D1, D2, _, _, rfl, rfl, by rw [upd_ne hne, upd_same], upd_same .., by simp; omega, fun D3 hB3 hD3 => ?_⟩
  rw [← List.map_append]
  have e2 := e1.trans (Ext.new (c := .list ((bx.map fun p => p.2.at k2).map AV.int)) hD2)
  refine marks_spec (upd_same ..) (by simp; omega) fun m ms hBm hm hs hmem hml => ?_
  have e3 := (e2.trans (Ext.new hD3)).trans (Ext.new (c := .list (ms.map AV.int)) hm)
  refine q m ms _ e3 hBm ((e2.trans (Ext.new hD3)).none hm) (upd_same ..) hs (fun v => ?_) (by simp at hml; omega)
  rw [hmem, List.mem_append, List.mem_map, List.mem_map]
  constructor
  · rintro (⟨p, hp, rfl⟩ | ⟨p, hp, rfl⟩)
    · exact ⟨p, hp, .inl rfl⟩
    · exact ⟨p, hp, .inr rfl⟩
  · rintro ⟨p, hp, rfl | rfl⟩
    · exact .inl ⟨p, hp, rfl⟩
    · exact .inr ⟨p, hp, rfl⟩

/-! what the sweep reckons -/
def trips (X Y : List Int) (p : Box) (s : Nat) : List Trip :=
  (if pos X p.l = s then [⟨pos Y p.b, pos Y p.t, 1⟩] else []) ++ (if pos X p.r = s then [⟨pos Y p.b, pos Y p.t, -1⟩] else [])
def tripsOf (X Y : List Int) (bx : List (Addr × Box)) (s : Nat) : List Trip := bx.flatMap fun p => trips X Y p.2 s
def depT (X Y : List Int) (p : Box) (s c : Nat) : Int :=
  ((if pos X p.l < s then 1 else 0) - (if pos X p.r < s then 1 else 0)) * (if pos Y p.b ≤ c ∧ c < pos Y p.t then (1 : Int) else 0)
def dep (X Y : List Int) (bx : List (Addr × Box)) (s c : Nat) : Int := (bx.map fun p => depT X Y p.2 s c).sum
theorem dep_cons {X Y : List Int} {p : Addr × Box} {r : List (Addr × Box)} {s c : Nat} : dep X Y (p :: r) s c = depT X Y p.2 s c + dep X Y r s c := by simp [dep]
def eff (ts : List Trip) (c : Nat) : Int := (ts.map fun t => if t.lo ≤ c ∧ c < t.up then t.st else 0).sum
def wgt (X Y : List Int) (s c : Nat) : Int := (X.getD (s + 1) 0 - X.getD s 0) * (Y.getD (c + 1) 0 - Y.getD c 0)
def toldF (X Y : List Int) (bx : List (Addr × Box)) (m k : Nat) : Int :=
  sumN m fun s => sumN (Y.length - 1) fun c => if dep X Y bx (s + 1) c = k then wgt X Y s c else 0

theorem eff_append (a b : List Trip) (c : Nat) : eff (a ++ b) c = eff a c + eff b c := by simp [eff, List.sum_append]
theorem eff_trips (X Y : List Int) (bx : List (Addr × Box)) (s c : Nat) : eff (tripsOf X Y bx s) c = dep X Y bx (s + 1) c - dep X Y bx s c := by
  induction bx with
  | nil => rfl
  | cons p r ih =>
    have e1 : tripsOf X Y (p :: r) s = trips X Y p.2 s ++ tripsOf X Y r s := by simp [tripsOf]
    rw [e1, eff_append, ih, dep_cons, dep_cons]
    have key : eff (trips X Y p.2 s) c = depT X Y p.2 (s + 1) c - depT X Y p.2 s c := by
      unfold trips eff depT
      generalize pos X p.2.l = x
      generalize pos X p.2.r = y
      by_cases hc : pos Y p.2.b ≤ c ∧ c < pos Y p.2.t
      · rw [if_pos hc]
        by_cases h1 : x = s <;> by_cases h2 : y = s <;> simp only [h1, h2, if_true, if_false, List.map_append, List.map_cons, List.map_nil, List.nil_append, List.append_nil, List.sum_cons, List.sum_nil, List.cons_append, if_pos hc] <;> (repeat' split) <;> omega
      · rw [if_neg hc]
        by_cases h1 : x = s <;> by_cases h2 : y = s <;> simp only [h1, h2, if_true, if_false, List.map_append, List.map_cons, List.map_nil, List.nil_append, List.append_nil, List.sum_cons, List.sum_nil, List.cons_append, if_neg hc] <;> omega
    omega
theorem dep_zero (X Y : List Int) (bx : List (Addr × Box)) (c : Nat) : dep X Y bx 0 c = 0 := by
  induction bx with
  | nil => rfl
  | cons p r ih => rw [dep_cons, ih]; simp [depT]
theorem dep_range (X Y : List Int) (bx : List (Addr × Box)) (hb : ∀ p ∈ bx, p.2.l ≤ p.2.r) (s c : Nat) : 0 ≤ dep X Y bx s c ∧ dep X Y bx s c ≤ bx.length := by
  induction bx with
  | nil => exact ⟨Int.le_refl _, Int.le_refl _⟩
  | cons p r ih =>
    obtain ⟨h1, h2⟩ := ih fun q hq => hb q (List.mem_cons_of_mem _ hq)
    have hm := pos_mono (is := X) (hb p (List.mem_cons_self ..))
    rw [dep_cons, List.length_cons]
    generalize dep X Y r s c = u at *
    have key : depT X Y p.2 s c = 0 ∨ depT X Y p.2 s c = 1 := by
      unfold depT
      by_cases hc : pos Y p.2.b ≤ c ∧ c < pos Y p.2.t
      · rw [if_pos hc]
        split <;> split <;> omega
      · rw [if_neg hc, Int.mul_zero]; exact .inl rfl
    rcases key with k | k <;> rw [k] <;> omega
end Mini

/-! L2F -/
namespace Mini

theorem tripsOf_len (X Y : List Int) (bx : List (Addr × Box)) (s : Nat) : (tripsOf X Y bx s).length ≤ 2 * bx.length := by
  induction bx with
  | nil => simp [tripsOf]
  | cons p r ih =>
    have e1 : tripsOf X Y (p :: r) s = trips X Y p.2 s ++ tripsOf X Y r s := by simp [tripsOf]
    rw [e1, List.length_append, List.length_cons]
    have : (trips X Y p.2 s).length ≤ 2 := by
      unfold trips
      split <;> split <;> simp
    omega
theorem tripsOf_snoc (X Y : List Int) (bx : List (Addr × Box)) (k : Nat) (hk : k < bx.length) (s : Nat) : tripsOf X Y (bx.take (k + 1)) s = tripsOf X Y (bx.take k) s ++ trips X Y bx[k].2 s := by
  unfold tripsOf
  rw [List.take_add_one, List.getElem?_eq_getElem hk, List.flatMap_append]
  simp only [Option.toList, List.flatMap_cons, List.flatMap_nil, List.append_nil]

/-- a new change, put where its side's list is -/
theorem push_ok {B ch a : Addr} {h h0 : AH} {cs : List Addr} {Tr : Nat → List Trip} {X Y : List Int} {lx : Addr} {p : Addr × Box} {k : Nat} {st : Int} {se : ET} {loc : Loc} {Q : Fl → Loc → AH → Prop}
    (hk : k < 4) (hch : h ch = some (.list (cs.map AV.ref))) (C : ChAt h cs Tr) (hnd : cs.Nodup) (hcs : ∀ c ∈ cs, B ≤ c ∧ h0 c = none ∧ c ≠ ch) (hX : h lx = some (.list (X.map AV.int))) (hs : SIncr X) (hXl : X.length < 2 ^ 20)
    (hlen : cs.length = X.length) (hT : ∀ i, (Tr i).length < 1000000) (hp : h p.1 = some p.2.cell) (hi : pos X (p.2.at k) < X.length) (he : Ext h0 h)
    (l1 : loc 1 = some (.ref lx)) (l3 : loc 3 = some (.ref ch)) (l4 : loc 4 = some (.ref p.1)) (l5 : loc 5 = some (.int (pos Y p.2.b))) (l6 : loc 6 = some (.int (pos Y p.2.t)))
    (hse : ∀ h' (Q' : AV → AH → Prop), Q' (.int st) h' → se loc h' Q')
    (q : ∀ h', Ext h0 h' → h' ch = some (.list (cs.map AV.ref)) → ChAt h' cs (fun j => if j = pos X (p.2.at k) then Tr j ++ [⟨pos Y p.2.b, pos Y p.2.t, st⟩] else Tr j) → Q .next loc h') :
    T.expr (T.meth (T.idx (T.var 3) (T.call (T.econs (T.var 1) (T.econs (T.idx (T.var 4) (T.int k)) T.enil)) (f_bis2 B))) (T.econs (T.list B (T.econs (T.var 5) (T.econs (T.var 6) (T.econs se T.enil)))) T.enil) (F.append B)) loc h Q := by
  dsimp only [T.expr, T.meth]
  have hi' : pos X (p.2.at k) < cs.length := by omega
  obtain ⟨vs, hvs, htr⟩ := C.ls _ hi'
  have hget : (cs.map AV.ref)[(pos X (p.2.at k) : Nat)]? = some (.ref cs[pos X (p.2.at k)]) := by rw [List.getElem?_map, List.getElem?_eq_getElem hi']; rfl
  show T.idx (T.var 3) (T.call (T.econs (T.var 1) (T.econs (T.idx (T.var 4) (T.int k)) T.enil)) (f_bis2 B)) loc h _
  dsimp only [T.idx, T.call, T.econs, T.enil, T.var]
  refine ⟨_, l3, _, l1, ?_⟩
  show T.idx (T.var 4) (T.int k) loc h _
  refine box_idx hp hk l4 ?_
  refine bis2_pos hX hs.incr hXl ?_
  refine ⟨ch, _, _, _, rfl, rfl, hch, by omega, by omega, by simpa using hget, ⟨_, vs, rfl, hvs⟩, ?_⟩
  dsimp only [T.list, T.econs, T.enil, T.var]
  refine ⟨_, l5, _, l6, hse _ _ ⟨by show (3 : Nat) ≤ 2 ^ 20; decide, fun a hB ha => ?_⟩⟩
  have e1 : Ext h (upd h a (.list [.int (pos Y p.2.b), .int (pos Y p.2.t), .int st])) := Ext.new ha
  have hc := hcs _ (List.getElem_mem hi')
  have C1 := C.ext e1
  have hvs1 := e1 _ _ hvs
  have C2 := C1.push hnd hi' hvs1 (a := a) (t := ⟨pos Y p.2.b, pos Y p.2.t, st⟩) (upd_same ..)
  refine ⟨_, vs, _, rfl, hvs1, hc.1, by rw [htr.len]; have := hT (pos X (p.2.at k)); omega, q _ ((he.trans e1).set hc.2.1) ?_ C2⟩
  rw [upd_ne (Ne.symm hc.2.2)]
  exact e1 _ _ hch
end Mini

/-! L2G -/
namespace Mini

/-- the two numbers' lists in their places -/
def two (hb : AH) (dp tl : Addr) (ny : Nat) (D : Nat → Int) (nt : Nat) (U : Nat → Int) : AH := upd (upd hb dp (.list ((mk ny D).map AV.int))) tl (.list ((mk nt U).map AV.int))

theorem two_dp {hb : AH} {dp tl : Addr} {ny nt : Nat} {D U : Nat → Int} (h : dp ≠ tl) : two hb dp tl ny D nt U dp = some (.list ((mk ny D).map AV.int)) := by
  unfold two; rw [upd_ne h, upd_same]
theorem two_tl {hb : AH} {dp tl : Addr} {ny nt : Nat} {D U : Nat → Int} : two hb dp tl ny D nt U tl = some (.list ((mk nt U).map AV.int)) := upd_same ..
theorem two_set_dp {hb : AH} {dp tl : Addr} {ny nt : Nat} {D U D' : Nat → Int} (h : dp ≠ tl) : upd (two hb dp tl ny D nt U) dp (.list ((mk ny D').map AV.int)) = two hb dp tl ny D' nt U := by
  unfold two; rw [upd_comm (Ne.symm h), upd_upd]
theorem two_set_tl {hb : AH} {dp tl : Addr} {ny nt : Nat} {D U U' : Nat → Int} : upd (two hb dp tl ny D nt U) tl (.list ((mk nt U').map AV.int)) = two hb dp tl ny D nt U' := by
  unfold two; rw [upd_upd]

/-- the changes of one strip's left side, done to the depths -/
theorem strip_ok {B ch dp tl : Addr} {hb : AH} {cs : List Addr} {Tr : Nat → List Trip} {ny nt s : Nat} {D0 U : Nat → Int} {loc : Loc} {Q : Fl → Loc → AH → Prop} (hBd : B ≤ dp) (hne : dp ≠ tl) (hny : ny ≤ 2 ^ 19)
    (hch : ∀ D U, two hb dp tl ny D nt U ch = some (.list (cs.map AV.ref))) (C : ∀ D U, ChAt (two hb dp tl ny D nt U) cs Tr) (hs : s < cs.length) (hs2 : s < 2 ^ 40) (hup : ∀ t ∈ Tr s, t.up < ny ∧ t.lo ≤ ny)
    (l3 : loc 3 = some (.ref ch)) (l7 : loc 7 = some (.ref dp)) (l9 : loc 9 = some (.int s))
    (q : ∀ loc', (∀ i, i ≠ 5 → i ≠ 6 → i ≠ 10 → i ≠ 11 → loc' i = loc i) → Q .next loc' (two hb dp tl ny (fun c => D0 c + eff (Tr s) c) nt U)) :
    T.for_ (T.itL (T.idx (T.var 3) (T.var 9))) (T.asT [5, 6, 10])
      (T.for_ (T.itR2 (T.econs (T.var 5) (T.econs (T.var 6) T.enil))) (T.asN 11)
        (T.setidx B (T.var 7) (T.var 11) (T.bin P.add (T.idx (T.var 7) (T.var 11)) (T.var 10)))) loc (two hb dp tl ny D0 nt U) Q := by
  dsimp only [T.for_, T.itL, T.idx, T.var]
  obtain ⟨vs, hvs, htr⟩ := (C D0 U).ls s hs
  have hget : (cs.map AV.ref)[s]? = some (.ref cs[s]) := by rw [List.getElem?_map, List.getElem?_eq_getElem hs]; rfl
  refine ⟨_, l3, _, l9, ch, _, s, _, rfl, rfl, hch _ _, by omega, by omega, by rw [Int.toNat_natCast]; exact hget, cs[s], vs, rfl, hvs, ?_⟩
  refine ⟨fun j loc' h' => j ≤ (Tr s).length ∧ (∀ i, i ≠ 5 → i ≠ 6 → i ≠ 10 → i ≠ 11 → loc' i = loc i) ∧ h' = two hb dp tl ny (fun c => D0 c + eff ((Tr s).take j) c) nt U, (Tr s).length,
    ⟨Nat.zero_le _, fun _ _ _ _ _ => rfl, by simp [eff]⟩, ?_⟩
  rintro j loc1 _ ⟨hj, hl, rfl⟩
  obtain ⟨vs', hvs', htr'⟩ := (C (fun c => D0 c + eff ((Tr s).take j) c) U).ls s hs
  refine ⟨vs', items_list hvs', by rw [htr'.len]; exact Nat.le_refl _, ?_⟩
  cases hv : vs'[j]? with
  | none =>
    rw [List.getElem?_eq_none_iff, htr'.len] at hv
    have : (Tr s).take j = Tr s := List.take_of_length_le hv
    rw [this]
    exact q loc1 hl
  | some v =>
    obtain ⟨t, ht, a, rfl, ha⟩ := htr'.get hv
    have hjl : j < (Tr s).length := by
      rcases Nat.lt_or_ge j (Tr s).length with r | r
      · exact r
      · rw [List.getElem?_eq_none r] at ht; cases ht
    have htm : t ∈ Tr s := List.mem_of_getElem? ht
    have htk : (Tr s).take (j + 1) = (Tr s).take j ++ [t] := by rw [List.take_add_one, ht]; rfl
    dsimp only [T.asT]
    refine ⟨a, _, rfl, .inl ha, rfl, ?_⟩
    dsimp only [T.asL, T.itR2, T.econs, T.enil, T.var]
    refine ⟨_, by rw [upd_ne (by decide), upd_ne (by decide)]; exact upd_same .., _, by rw [upd_ne (by decide)]; exact upd_same .., t.lo, t.up, rfl, ?_⟩
    obtain ⟨hup1, hlo1⟩ := hup t htm
    · refine ⟨⟨by omega, by omega⟩, ⟨by omega, by omega⟩, ?_⟩
      refine ⟨fun i loc2 h' => i ≤ ((t.up : Int) - t.lo).toNat ∧ (∀ x, x ≠ 5 → x ≠ 6 → x ≠ 10 → x ≠ 11 → loc2 x = loc x) ∧ loc2 10 = some (.int t.st) ∧
          h' = two hb dp tl ny (fun c => D0 c + eff ((Tr s).take j) c + if t.lo ≤ c ∧ c < t.lo + i then t.st else 0) nt U, ((t.up : Int) - t.lo).toNat,
        ⟨Nat.zero_le _, fun x h1 h2 h3 h4 => by rw [upd_ne h3, upd_ne h2, upd_ne h1]; exact hl x h1 h2 h3 h4, upd_same .., ?_⟩, ?_⟩
      · congr 1
        funext c
        rw [if_neg (by omega)]; omega
      rintro i loc2 _ ⟨hi, hl2, hst, rfl⟩
      refine ⟨_, rfl, by rw [rangeL_len]; exact Nat.le_refl _, ?_⟩
      by_cases hil : i < ((t.up : Int) - t.lo).toNat
      · have hgr : ((rangeL (t.lo : Int) 1 ((t.up : Int) - t.lo).toNat).map AV.int)[i]? = some (.int ((t.lo + i : Nat) : Int)) := by
          rw [rangeL_get hil]; congr 2; omega
        rw [hgr]
        dsimp only [T.asN, T.setidx, T.bin, P.add, T.idx, T.var, T.setP]
        have hc : t.lo + i < ny := by omega
        have l7' : upd loc2 11 (.int ((t.lo + i : Nat) : Int)) 7 = some (.ref dp) := by rw [upd_ne (by decide), hl2 7 (by decide) (by decide) (by decide) (by decide)]; exact l7
        refine ⟨_, l7', _, upd_same .., dp, _, _, _, rfl, rfl, two_dp hne, by omega, by omega, by rw [Int.toNat_natCast]; exact getMk hc, _, (upd_ne (by decide)).trans hst, _, _, rfl, rfl, _, l7', _, upd_same ..,
          dp, _, _, rfl, rfl, two_dp hne, hBd, by omega, by rw [List.length_map, mk_len]; omega, by rw [List.length_map, mk_len]; omega, ?_⟩
        rw [Int.toNat_natCast, setMk, two_set_dp hne]
        refine ⟨by omega, fun x h1 h2 h3 h4 => by rw [upd_ne h4]; exact hl2 x h1 h2 h3 h4, (upd_ne (by decide)).trans hst, ?_⟩
        congr 1
        funext c
        by_cases hce : c = t.lo + i
        · subst hce
          rw [if_pos rfl, if_neg (by omega), if_pos (by omega)]; omega
        · rw [if_neg hce]
          by_cases hlt : t.lo ≤ c ∧ c < t.lo + i
          · rw [if_pos hlt, if_pos (by omega)]
          · rw [if_neg hlt, if_neg (by omega)]
      · have hgr : ((rangeL (t.lo : Int) 1 ((t.up : Int) - t.lo).toNat).map AV.int)[i]? = none := rangeL_end (by omega)
        rw [hgr]
        refine ⟨hjl, hl2, ?_⟩
        congr 1
        funext c
        rw [htk, eff_append]
        have : eff [t] c = if t.lo ≤ c ∧ c < t.up then t.st else 0 := by simp [eff]
        rw [this]
        by_cases hlt : t.lo ≤ c ∧ c < t.up
        · rw [if_pos hlt, if_pos (by omega)]; omega
        · rw [if_neg hlt, if_neg (by omega)]; omega
end Mini

/-! L2H -/
namespace Mini

theorem getD_of {is : List Int} {i : Nat} (h : i < is.length) : is.getD i 0 = is[i] := by
  rw [List.getD_eq_getElem?_getD, List.getElem?_eq_getElem h]; rfl

/-- one strip's areas, put to their depths -/
theorem areas_ok {B dp tl lx ly : Addr} {hb : AH} {X Y : List Int} {nt s K : Nat} {D U : Nat → Int} {loc : Loc} {Q : Fl → Loc → AH → Prop} (hBt : B ≤ tl) (hne : dp ≠ tl) (hYl : Y.length ≤ 2 ^ 19) (hXl : X.length ≤ 2 ^ 19)
    (hX : ∀ U, two hb dp tl Y.length D nt U lx = some (.list (X.map AV.int))) (hY : ∀ U, two hb dp tl Y.length D nt U ly = some (.list (Y.map AV.int))) (hs : s + 1 < X.length) (hY0 : 0 < Y.length) (hnt : nt ≤ 2 ^ 19)
    (hD : ∀ c, c < Y.length → 0 ≤ D c ∧ D c < nt) (hK : K + 1 ≤ 2000000) (hXK : ∀ x ∈ X, x.natAbs < 2 ^ K) (hYK : ∀ x ∈ Y, x.natAbs < 2 ^ K)
    (l1 : loc 1 = some (.ref lx)) (l2 : loc 2 = some (.ref ly)) (l7 : loc 7 = some (.ref dp)) (l8 : loc 8 = some (.ref tl)) (l9 : loc 9 = some (.int s))
    (q : ∀ loc', (∀ i, i ≠ 11 → loc' i = loc i) → Q .next loc' (two hb dp tl Y.length D nt (fun k => U k + sumN (Y.length - 1) fun c => if D c = k then wgt X Y s c else 0))) :
    T.for_ (T.itR1 (T.econs (T.bin P.sub (T.call (T.econs (T.var 2) T.enil) F.len) (T.int 1)) T.enil)) (T.asN 11)
      (T.augidx B (T.var 8) (T.idx (T.var 7) (T.var 11)) (T.bin P.mul (T.bin P.sub (T.idx (T.var 1) (T.bin P.add (T.var 9) (T.int 1))) (T.idx (T.var 1) (T.var 9))) (T.bin P.sub (T.idx (T.var 2) (T.bin P.add (T.var 11) (T.int 1))) (T.idx (T.var 2) (T.var 11)))))
      loc (two hb dp tl Y.length D nt U) Q := by
  dsimp only [T.for_, T.itR1, T.econs, T.enil, T.bin, T.call, T.var, T.int, F.len, P.sub]
  refine ⟨_, l2, ly, _, rfl, hY _, by rw [List.length_map]; omega, _, _, rfl, rfl, (Y.length : Int) - 1, by rw [List.length_map], ⟨by omega, by omega⟩, ?_⟩
  have hcnt : ((Y.length : Int) - 1).toNat = Y.length - 1 := by omega
  rw [hcnt]
  refine ⟨fun c loc1 h' => c ≤ Y.length - 1 ∧ (∀ i, i ≠ 11 → loc1 i = loc i) ∧ h' = two hb dp tl Y.length D nt (fun k => U k + sumN c fun c => if D c = k then wgt X Y s c else 0), Y.length - 1,
    ⟨Nat.zero_le _, fun _ _ => rfl, by congr 1; funext k; simp [sumN]⟩, ?_⟩
  rintro c loc1 _ ⟨hc, hl, rfl⟩
  refine ⟨_, rfl, by rw [rangeL_len]; exact Nat.le_refl _, ?_⟩
  by_cases hcl : c < Y.length - 1
  · rw [rangeL_get hcl]
    dsimp only [T.asN, T.augidx, T.var, T.idx, T.bin, P.sub, P.add, P.mul, T.int, T.setP]
    have e1 : (0 : Int) + (c : Int) * 1 = (c : Int) := by omega
    rw [e1]
    have o : ∀ i, i ≠ 11 → upd loc1 11 (.int (c : Int)) i = loc i := fun i hi => by rw [upd_ne hi]; exact hl i hi
    obtain ⟨d0, d1⟩ := hD c (by omega)
    have hDc : D c = ((D c).toNat : Int) := by omega
    have hdn : (D c).toNat < nt := by omega
    have x0 : (X.map AV.int)[s]? = some (.int X[s]) := getI (by omega)
    have x1 : (X.map AV.int)[s + 1]? = some (.int X[s + 1]) := getI (by omega)
    have y0 : (Y.map AV.int)[c]? = some (.int Y[c]) := getI (by omega)
    have y1 : (Y.map AV.int)[c + 1]? = some (.int Y[c + 1]) := getI (by omega)
    refine ⟨_, (o 8 (by decide)).trans l8, _, (o 7 (by decide)).trans l7, _, upd_same .., dp, _, _, _, rfl, rfl, two_dp hne, by omega, by omega, by rw [Int.toNat_natCast]; exact getMk (by omega),
      tl, _, _, _, rfl, rfl, two_tl, d0, by omega, by rw [getMk hdn], ?_⟩
    refine ⟨_, (o 1 (by decide)).trans l1, _, (o 9 (by decide)).trans l9, _, _, rfl, rfl, lx, _, _, _, rfl, rfl, hX _, by omega, by omega, by rw [show ((s : Int) + 1).toNat = s + 1 from by omega]; exact x1,
      _, (o 1 (by decide)).trans l1, _, (o 9 (by decide)).trans l9, lx, _, _, _, rfl, rfl, hX _, by omega, by omega, by rw [Int.toNat_natCast]; exact x0, _, _, rfl, rfl,
      _, (o 2 (by decide)).trans l2, _, upd_same .., _, _, rfl, rfl, ly, _, _, _, rfl, rfl, hY _, by omega, by omega, by rw [show ((c : Int) + 1).toNat = c + 1 from by omega]; exact y1,
      _, (o 2 (by decide)).trans l2, _, upd_same .., ly, _, _, _, rfl, rfl, hY _, by omega, by omega, by rw [Int.toNat_natCast]; exact y0, _, _, rfl, rfl, _, _, rfl, rfl, ?_, ?_⟩
    · exact mul_ok hK (sub_lt (hXK _ (List.getElem_mem _)) (hXK _ (List.getElem_mem _))) (sub_lt (hYK _ (List.getElem_mem _)) (hYK _ (List.getElem_mem _)))
    · refine ⟨_, rfl, tl, _, _, rfl, rfl, two_tl, hBt, d0, by rw [List.length_map, mk_len]; exact d1, by rw [List.length_map, mk_len]; omega, ?_⟩
      rw [setMk, two_set_tl]
      refine ⟨by omega, fun i hi => by rw [upd_ne hi]; exact hl i hi, ?_⟩
      congr 1
      funext k
      have hw : (X[s + 1] - X[s]) * (Y[c + 1] - Y[c]) = wgt X Y s c := by
        unfold wgt; rw [getD_of (by omega), getD_of (by omega), getD_of (by omega), getD_of (by omega)]
      rw [sumN]
      by_cases hk : k = (D c).toNat
      · rw [if_pos hk, if_pos (by omega), hw, ← hk]; omega
      · rw [if_neg hk, if_neg (by omega)]; omega
  · rw [rangeL_end (by omega)]
    have : c = Y.length - 1 := by omega
    subst this
    exact q loc1 hl
end Mini

/-! L2I -/
namespace Mini

/-- a list of noughts -/
theorem zeros_ok {B : Addr} {f : ET} {loc : Loc} {h : AH} {n : Nat} {Q : AV → AH → Prop} (hn : n ≤ 2 ^ 19) (hf : ∀ h', Ext h h' → ∀ Q' : AV → AH → Prop, Q' (.int n) h' → f loc h' Q')
    (q : ∀ h' D, Ext h h' → B ≤ D → h' D = none → Q (.ref D) (upd h' D (.list ((mk n fun _ => 0).map AV.int)))) :
    T.bin (P.mulL B) (T.list B (T.econs (T.int 0) T.enil)) f loc h Q := by
  dsimp only [T.bin, T.list, T.econs, T.enil, T.int]
  refine ⟨by show (1 : Nat) ≤ 2 ^ 20; decide, fun d hd hdn => hf _ (Ext.new hdn) _ ?_⟩
  refine ⟨d, _, _, rfl, rfl, upd_same .., by omega, by omega, fun D hB hD => ?_⟩
  rw [Int.toNat_natCast, ← mk_rep]
  exact q _ D (Ext.new hdn) hB hD

/-- a comprehension of new empty lists -/
theorem lists_ok {B a : Addr} {h : AH} {xs : List AV} {loc : Loc} {i j : Nat} {Q : AV → AH → Prop} (hj : loc j = some (.ref a)) (ha : h a = some (.list xs)) (hl : xs.length ≤ 2 ^ 19)
    (hQ : ∀ (D : Addr) (cs : List Addr) (h' : AH), B ≤ D → h D = none → Ext h h' → h' D = some (.list (cs.map AV.ref)) → cs.length = xs.length → cs.Nodup → (∀ c ∈ cs, B ≤ c ∧ h c = none ∧ c ≠ D ∧ h' c = some (.list [])) → Q (.ref D) h') :
    T.comp B (T.itL (T.var j)) i T.yes (T.list B T.enil) loc h Q :=
  i_comp (i_itL hj ha (comp_new (items_list ha) hl hQ))

theorem sweep_spec {B a : Addr} {h : AH} {bx : List (Addr × Box)} {K : Nat} {Q : AV → AH → Prop} (hb : BoxesAt h a bx) (h1 : 1 ≤ bx.length) (hlen : bx.length ≤ 100) (hlr : ∀ p ∈ bx, p.2.l ≤ p.2.r)
    (hK : K + 1 ≤ 2000000) (hbK : ∀ p ∈ bx, ∀ k, (p.2.at k).natAbs < 2 ^ K)
    (q : ∀ X Y : List Int, SIncr X → SIncr Y → (∀ v, v ∈ X ↔ ∃ p ∈ bx, v = p.2.l ∨ v = p.2.r) → (∀ v, v ∈ Y ↔ ∃ p ∈ bx, v = p.2.b ∨ v = p.2.t) →
      ∀ m h', Ext h h' → h' m = some (.list ((mk (bx.length + 1) (toldF X Y bx (X.length - 1))).map AV.int)) → Q (.ref m) h') : f_sweep B [.ref a] h Q := by
  refine ⟨rfl, ?_⟩
  show t_sweep B _ _ _
  unfold t_sweep
  refine i_seq (i_asg ?_)
  refine marks2 (k1 := 0) (k2 := 1) hb (by omega) (by decide) (by decide) rfl fun lx X h2 e2 hBx hlx hXc hXs hXm hXl => ?_
  refine i_seq (i_asg ?_)
  refine marks2 (k1 := 2) (k2 := 3) (hb.ext e2) (by omega) (by decide) (by decide) ((upd_ne (by decide)).trans rfl) fun ly Y h3 e3 hBy hly hYc hYs hYm hYl => ?_
  have hXm' : ∀ v, v ∈ X ↔ ∃ p ∈ bx, v = p.2.l ∨ v = p.2.r := hXm
  have hYm' : ∀ v, v ∈ Y ↔ ∃ p ∈ bx, v = p.2.b ∨ v = p.2.t := hYm
  refine i_seq (i_asg ?_)
  refine lists_ok ((upd_ne (by decide)).trans (upd_same ..)) (e3 _ _ hXc) (by rw [List.length_map]; omega) fun ch cs h4 hBc hch e4 hchc hcl hnd hcs => ?_
  rw [List.length_map] at hcl
  have e24 := e2.trans (e3.trans e4)
  -- the boxes, one after the other
  refine i_seq ?_
  refine i_itL (by rw [upd_ne (by decide), upd_ne (by decide), upd_ne (by decide)]; rfl) (hb.ext e24).1 ?_
  refine ⟨fun k loc h' => k ≤ bx.length ∧ loc 0 = some (.ref a) ∧ loc 1 = some (.ref lx) ∧ loc 2 = some (.ref ly) ∧ loc 3 = some (.ref ch) ∧ Ext h3 h' ∧ h' ch = some (.list (cs.map AV.ref)) ∧ ChAt h' cs (tripsOf X Y (bx.take k)), bx.length,
    ⟨Nat.zero_le _, by rw [upd_ne (by decide), upd_ne (by decide), upd_ne (by decide)]; rfl, by rw [upd_ne (by decide), upd_ne (by decide)]; exact upd_same .., by rw [upd_ne (by decide)]; exact upd_same .., upd_same .., e4, hchc,
      ⟨fun i hi => ⟨[], (hcs _ (List.getElem_mem hi)).2.2.2, .nil⟩⟩⟩, ?_⟩
  rintro k loc h5 ⟨hk, l0, l1, l2, l3, e5, hch5, C5⟩
  have e25 := e2.trans (e3.trans e5)
  refine ⟨_, items_list (hb.ext e25).1, by rw [List.length_map]; exact Nat.le_refl _, ?_⟩
  have hmemX : ∀ p ∈ bx, ∃ hh : pos X p.2.l < X.length, True := fun p hp => ⟨(pos_mem hXs ((hXm' _).mpr ⟨p, hp, .inl rfl⟩)).1, trivial⟩
  have hmemX2 : ∀ p ∈ bx, pos X p.2.r < X.length := fun p hp => (pos_mem hXs ((hXm' _).mpr ⟨p, hp, .inr rfl⟩)).1
  have hmemY : ∀ p ∈ bx, pos Y p.2.t < Y.length := fun p hp => (pos_mem hYs ((hYm' _).mpr ⟨p, hp, .inr rfl⟩)).1
  by_cases hkl : k < bx.length
  · have hget : (bx.map fun p => AV.ref p.1)[k]? = some (.ref bx[k].1) := by rw [List.getElem?_map, List.getElem?_eq_getElem hkl]; rfl
    rw [hget]
    have hpm : bx[k] ∈ bx := List.getElem_mem _
    have hp5 : h5 bx[k].1 = some bx[k].2.cell := (hb.ext e25).2 _ hpm
    show T.call _ _ _ _ _
    dsimp only [T.call, T.econs, T.enil, T.var]
    have lv : ∀ i, i ≠ 4 → upd loc 4 (.ref bx[k].1) i = loc i := fun i hi => upd_ne hi
    refine ⟨_, (lv 2 (by decide)).trans l2, ?_⟩
    show T.idx (T.var 4) (T.int (2 : Nat)) _ _ _
    refine box_idx hp5 (by decide) (upd_same ..) (bis2_pos (e5 _ _ hYc) hYs.incr (by omega) ?_)
    refine i_seq (i_asg (i_call (i_cons (i_var (by rw [upd_ne (by decide)]; exact (lv 2 (by decide)).trans l2) (i_cons ?_)))))
    refine box_idx hp5 (by decide) (by rw [upd_ne (by decide)]; exact upd_same ..) (bis2_pos (e5 _ _ hYc) hYs.incr (by omega) ?_)
    generalize hloc : upd (upd (upd loc 4 (.ref bx[k].1)) 5 (.int (pos Y (bx[k].2.at 2)))) 6 (.int (pos Y (bx[k].2.at 3))) = loc6
    have m0 : loc6 0 = some (.ref a) := by rw [← hloc, upd_ne (by decide), upd_ne (by decide), upd_ne (by decide)]; exact l0
    have m1 : loc6 1 = some (.ref lx) := by rw [← hloc, upd_ne (by decide), upd_ne (by decide), upd_ne (by decide)]; exact l1
    have m2 : loc6 2 = some (.ref ly) := by rw [← hloc, upd_ne (by decide), upd_ne (by decide), upd_ne (by decide)]; exact l2
    have m3 : loc6 3 = some (.ref ch) := by rw [← hloc, upd_ne (by decide), upd_ne (by decide), upd_ne (by decide)]; exact l3
    have m4 : loc6 4 = some (.ref bx[k].1) := by rw [← hloc, upd_ne (by decide), upd_ne (by decide)]; exact upd_same ..
    have m5 : loc6 5 = some (.int (pos Y bx[k].2.b)) := by rw [← hloc, upd_ne (by decide)]; exact upd_same ..
    have m6 : loc6 6 = some (.int (pos Y bx[k].2.t)) := by rw [← hloc]; exact upd_same ..
    have hcs' : ∀ c ∈ cs, B ≤ c ∧ h3 c = none ∧ c ≠ ch := fun c hc => ⟨(hcs c hc).1, (hcs c hc).2.1, (hcs c hc).2.2.1⟩
    have hTl : ∀ i, (tripsOf X Y (bx.take k) i).length < 999999 := fun i => by
      have := tripsOf_len X Y (bx.take k) i
      rw [List.length_take] at this; omega
    refine i_seq ?_
    refine push_ok (a := a) (k := 0) (Y := Y) (st := 1) (p := bx[k]) (by decide) hch5 C5 hnd hcs' (e5 _ _ (e3 _ _ hXc)) hXs (by omega) hcl (fun i => by have := hTl i; omega) hp5 (hmemX _ hpm).1 e5 m1 m3 m4 m5 m6 (fun _ _ qq => qq) fun h6 e6 hch6 C6 => ?_
    refine push_ok (a := a) (k := 1) (Y := Y) (st := -1) (p := bx[k]) (by decide) hch6 C6 hnd hcs' (e6 _ _ (e3 _ _ hXc)) hXs (by omega) hcl ?_ ((hb.ext (e2.trans (e3.trans e6))).2 _ hpm) (hmemX2 _ hpm) e6 m1 m3 m4 m5 m6 (fun _ _ qq => ⟨1, rfl, qq⟩) fun h7 e7 hch7 C7 => ?_
    · intro i
      have := hTl i
      split
      · rw [List.length_append, List.length_singleton]; omega
      · omega
    · refine ⟨by omega, m0, m1, m2, m3, e7, hch7, ?_⟩
      have : tripsOf X Y (bx.take (k + 1)) = fun j => if j = pos X (bx[k].2.at 1) then (if j = pos X (bx[k].2.at 0) then tripsOf X Y (bx.take k) j ++ [⟨pos Y bx[k].2.b, pos Y bx[k].2.t, 1⟩] else tripsOf X Y (bx.take k) j) ++ [⟨pos Y bx[k].2.b, pos Y bx[k].2.t, -1⟩]
          else if j = pos X (bx[k].2.at 0) then tripsOf X Y (bx.take k) j ++ [⟨pos Y bx[k].2.b, pos Y bx[k].2.t, 1⟩] else tripsOf X Y (bx.take k) j := by
        funext j
        rw [tripsOf_snoc X Y bx k hkl j]
        unfold trips
        show _ = if j = pos X bx[k].2.r then (if j = pos X bx[k].2.l then _ else _) ++ _ else if j = pos X bx[k].2.l then _ else _
        by_cases a1 : j = pos X bx[k].2.r <;> by_cases a2 : j = pos X bx[k].2.l
        · rw [if_pos a1, if_pos a2, if_pos a2.symm, if_pos a1.symm]; simp
        · rw [if_pos a1, if_neg a2, if_neg (Ne.symm a2), if_pos a1.symm]; simp
        · rw [if_neg a1, if_pos a2, if_pos a2.symm, if_neg (Ne.symm a1)]; simp
        · rw [if_neg a1, if_neg a2, if_neg (Ne.symm a2), if_neg (Ne.symm a1)]; simp
      rw [this]; exact C7
  · rw [List.getElem?_eq_none (by rw [List.length_map]; omega)]
    have hkb : bx.take k = bx := List.take_of_length_le (by omega)
    rw [hkb] at C5
    -- the depths, the areas told
    refine i_seq (i_asg ?_)
    refine zeros_ok (n := Y.length) (by omega) (fun h' e' Q' qq => i_len l2 (e' _ _ (e5 _ _ hYc)) (by rw [List.length_map]; omega) (by rw [List.length_map]; exact qq)) fun h6 dp e6 hBd hdp => ?_
    refine i_seq (i_asg ?_)
    refine zeros_ok (n := bx.length + 1) (by omega) (fun h' e' Q' qq => ?_) fun h7 tl e7 hBt htl => ?_
    · dsimp only [T.bin, T.int, P.add]
      refine i_len ((upd_ne (by decide)).trans l0) (e' _ _ ((Ext.new hdp) _ _ (e6 _ _ (hb.ext e25).1))) (by rw [List.length_map]; omega) ⟨_, _, rfl, rfl, ?_⟩
      rw [List.length_map]; exact qq
    have hdpt : dp ≠ tl := ne_of (e7 _ _ (upd_same ..)) htl
    have hst : upd h7 tl (.list ((mk (bx.length + 1) fun _ => 0).map AV.int)) = two h7 dp tl Y.length (fun _ => 0) (bx.length + 1) (fun _ => 0) := by
      unfold two; rw [upd_id (e7 _ _ (upd_same ..))]
    rw [hst]
    have e57 : Ext h5 h7 := e6.trans ((Ext.new hdp).trans e7)
    have htl5 : h5 tl = none := e57.none htl
    have hdp5 : h5 dp = none := e6.none hdp
    have eT : ∀ D U, Ext h5 (two h7 dp tl Y.length D (bx.length + 1) U) := fun D U => (e57.set hdp5).set htl5
    refine i_seq (i_itR1 (i_cons (i_bin ?_)))
    refine i_len (by rw [upd_ne (by decide), upd_ne (by decide)]; exact l1) (eT _ _ _ _ (e5 _ _ (e3 _ _ hXc))) (by rw [List.length_map]; omega) (i_int (i_sub (i_nil ⟨(X.length : Int) - 1, by rw [List.length_map], ⟨by omega, by omega⟩, ?_⟩)))
    have hcnt : ((X.length : Int) - 1).toNat = X.length - 1 := by omega
    rw [hcnt]
    have hX0 : 0 < X.length := by
      have : bx[0].2.l ∈ X := (hXm' _).mpr ⟨_, List.getElem_mem (by omega), .inl rfl⟩
      exact List.length_pos_of_mem this
    have hY0 : 0 < Y.length := by
      have : bx[0].2.b ∈ Y := (hYm' _).mpr ⟨_, List.getElem_mem (by omega), .inl rfl⟩
      exact List.length_pos_of_mem this
    refine ⟨fun s loc' h' => s ≤ X.length - 1 ∧ loc' 1 = some (.ref lx) ∧ loc' 2 = some (.ref ly) ∧ loc' 3 = some (.ref ch) ∧ loc' 7 = some (.ref dp) ∧ loc' 8 = some (.ref tl) ∧
        h' = two h7 dp tl Y.length (fun c => dep X Y bx s c) (bx.length + 1) (fun k => toldF X Y bx s k), X.length - 1,
      ⟨Nat.zero_le _, by rw [upd_ne (by decide), upd_ne (by decide)]; exact l1, by rw [upd_ne (by decide), upd_ne (by decide)]; exact l2, by rw [upd_ne (by decide), upd_ne (by decide)]; exact l3, by rw [upd_ne (by decide)]; exact upd_same .., upd_same .., ?_⟩, ?_⟩
    · congr 1
      · funext c; rw [dep_zero]
    rintro s loc' _ ⟨hs, n1, n2, n3, n7, n8, rfl⟩
    refine ⟨_, rfl, by rw [rangeL_len]; exact Nat.le_refl _, ?_⟩
    by_cases hsl : s < X.length - 1
    · rw [rangeL_get hsl]
      have e1 : (0 : Int) + (s : Int) * 1 = (s : Int) := by omega
      rw [e1]
      have o : ∀ i, i ≠ 9 → upd loc' 9 (.int (s : Int)) i = loc' i := fun i hi => upd_ne hi
      refine i_seq ?_
      refine strip_ok (cs := cs) (Tr := tripsOf X Y bx) hBd hdpt (by omega) (fun D U => eT D U _ _ hch5) (fun D U => C5.ext (eT D U)) (by omega) (by omega) (fun t ht => ?_) ((o 3 (by decide)).trans n3) ((o 7 (by decide)).trans n7) (upd_same ..) fun loc2 hl2 => ?_
      · obtain ⟨p, hp, ht⟩ := List.mem_flatMap.mp ht
        have b1 := hmemY p hp
        have b2 := pos_le Y p.2.b
        unfold trips at ht
        rcases List.mem_append.mp ht with ht | ht
        · split at ht
          · rw [List.mem_singleton] at ht; subst ht; exact ⟨b1, b2⟩
          · cases ht
        · split at ht
          · rw [List.mem_singleton] at ht; subst ht; exact ⟨b1, b2⟩
          · cases ht
      · have hD : (fun c => dep X Y bx s c + eff (tripsOf X Y bx s) c) = fun c => dep X Y bx (s + 1) c := by
          funext c; rw [eff_trips]; omega
        rw [hD]
        have w : ∀ i, i ≠ 5 → i ≠ 6 → i ≠ 10 → i ≠ 11 → i ≠ 9 → loc2 i = loc' i := fun i a1 a2 a3 a4 a5 => by rw [hl2 i a1 a2 a3 a4]; exact o i a5
        have hKX : ∀ x ∈ X, x.natAbs < 2 ^ K := fun x hx => by
          obtain ⟨p, hp, rfl | rfl⟩ := (hXm' x).mp hx
          · exact hbK p hp 0
          · exact hbK p hp 1
        have hKY : ∀ x ∈ Y, x.natAbs < 2 ^ K := fun x hx => by
          obtain ⟨p, hp, rfl | rfl⟩ := (hYm' x).mp hx
          · exact hbK p hp 2
          · exact hbK p hp 3
        refine areas_ok (K := K) hBt hdpt (by omega) (by omega) (fun U => eT _ U _ _ (e5 _ _ (e3 _ _ hXc))) (fun U => eT _ U _ _ (e5 _ _ hYc)) (by omega) hY0 (by omega) (fun c _ => ?_) hK hKX hKY
          ((w 1 (by decide) (by decide) (by decide) (by decide) (by decide)).trans n1) ((w 2 (by decide) (by decide) (by decide) (by decide) (by decide)).trans n2)
          ((w 7 (by decide) (by decide) (by decide) (by decide) (by decide)).trans n7) ((w 8 (by decide) (by decide) (by decide) (by decide) (by decide)).trans n8)
          ((hl2 9 (by decide) (by decide) (by decide) (by decide)).trans (upd_same ..)) fun loc3 hl3 => ?_
        · have := dep_range X Y bx hlr (s + 1) c
          omega
        · have w3 : ∀ i, i ≠ 5 → i ≠ 6 → i ≠ 10 → i ≠ 11 → i ≠ 9 → loc3 i = loc' i := fun i a1 a2 a3 a4 a5 => by rw [hl3 i a4]; exact w i a1 a2 a3 a4 a5
          exact ⟨by omega, (w3 1 (by decide) (by decide) (by decide) (by decide) (by decide)).trans n1, (w3 2 (by decide) (by decide) (by decide) (by decide) (by decide)).trans n2, (w3 3 (by decide) (by decide) (by decide) (by decide) (by decide)).trans n3,
            (w3 7 (by decide) (by decide) (by decide) (by decide) (by decide)).trans n7, (w3 8 (by decide) (by decide) (by decide) (by decide) (by decide)).trans n8, rfl⟩
    · rw [rangeL_end (by omega)]
      have : s = X.length - 1 := by omega
      subst this
      refine ⟨_, n8, ?_⟩
      exact q X Y hXs hYs hXm' hYm' tl _ (e25.trans (eT _ _)) two_tl
end Mini

/-! L2J -/
namespace Mini

def bit (m i : Nat) : Bool := m / 2 ^ i % 2 == 1
theorem bit_eq (m i : Nat) : (Builtin.bitAnd ((m : Int).fdiv (2 ^ (i : Int).toNat)) 1 == 1) = bit m i := by
  rw [Int.toNat_natCast]
  have e : (m : Int).fdiv (2 ^ i) = ((m / 2 ^ i : Nat) : Int) := by
    rw [Int.fdiv_eq_ediv_of_nonneg _ (by exact Int.le_of_lt (Int.pow_pos (by decide)))]
    simp
  rw [e]
  unfold Builtin.bitAnd bit
  rw [decide_eq_true (show (0 : Int) ≤ ((m / 2 ^ i : Nat) : Int) from Int.natCast_nonneg _), decide_eq_true (show (0 : Int) ≤ 1 by decide)]
  show (((((m / 2 ^ i : Nat) : Int).toNat &&& (1 : Int).toNat : Nat) : Int) == 1) = _
  rw [Int.toNat_natCast, show (1 : Int).toNat = 1 from rfl, Nat.and_one_is_mod]
  generalize m / 2 ^ i % 2 = u
  rw [Bool.eq_iff_iff, beq_iff_eq, beq_iff_eq]; omega

def heldI (n m : Nat) : List Nat := (List.range n).filter (bit m)
def nb : Addr × Box := ((0 : Nat), ⟨0, 0, 0, 0⟩)
def heldB (bx : List (Addr × Box)) (m : Nat) : List (Addr × Box) := (heldI bx.length m).map fun i => bx.getD i nb
theorem heldB_mem {bx : List (Addr × Box)} {m : Nat} {p : Addr × Box} (h : p ∈ heldB bx m) : p ∈ bx := by
  obtain ⟨i, hi, rfl⟩ := List.mem_map.mp h
  have := List.mem_range.mp (List.mem_filter.mp hi).1
  rw [List.getD_eq_getElem?_getD, List.getElem?_eq_getElem this]
  exact List.getElem_mem _
theorem heldI_len (n m : Nat) : (heldI n m).length ≤ n := by
  have := List.length_filter_le (bit m) (List.range n)
  rw [List.length_range] at this; exact this

def mx (a : Int) (r : List Int) : Int := r.foldl max a
def mn (a : Int) (r : List Int) : Int := r.foldl min a
theorem mx_spec (a : Int) (r : List Int) : mx a r ∈ a :: r ∧ ∀ x ∈ a :: r, x ≤ mx a r := by
  unfold mx
  induction r generalizing a with
  | nil => exact ⟨List.mem_cons_self .., fun x hx => by rw [List.mem_singleton.mp hx]; exact Int.le_refl _⟩
  | cons b r ih =>
    rw [List.foldl_cons]
    obtain ⟨h1, h2⟩ := ih (max a b)
    have h3 := h2 _ (List.mem_cons_self ..)
    constructor
    · rcases List.mem_cons.mp h1 with h | h
      · rw [h]
        rcases Int.le_total a b with q | q
        · rw [Int.max_eq_right q]; exact List.mem_cons_of_mem _ (List.mem_cons_self ..)
        · rw [Int.max_eq_left q]; exact List.mem_cons_self ..
      · exact List.mem_cons_of_mem _ (List.mem_cons_of_mem _ h)
    · intro x hx
      rcases List.mem_cons.mp hx with rfl | hx
      · omega
      · rcases List.mem_cons.mp hx with rfl | hx
        · omega
        · exact h2 _ (List.mem_cons_of_mem _ hx)
theorem mn_spec (a : Int) (r : List Int) : mn a r ∈ a :: r ∧ ∀ x ∈ a :: r, mn a r ≤ x := by
  unfold mn
  induction r generalizing a with
  | nil => exact ⟨List.mem_cons_self .., fun x hx => by rw [List.mem_singleton.mp hx]; exact Int.le_refl _⟩
  | cons b r ih =>
    rw [List.foldl_cons]
    obtain ⟨h1, h2⟩ := ih (min a b)
    have h3 := h2 _ (List.mem_cons_self ..)
    constructor
    · rcases List.mem_cons.mp h1 with h | h
      · rw [h]
        rcases Int.le_total a b with q | q
        · rw [Int.min_eq_left q]; exact List.mem_cons_self ..
        · rw [Int.min_eq_right q]; exact List.mem_cons_of_mem _ (List.mem_cons_self ..)
      · exact List.mem_cons_of_mem _ (List.mem_cons_of_mem _ h)
    · intro x hx
      rcases List.mem_cons.mp hx with rfl | hx
      · omega
      · rcases List.mem_cons.mp hx with rfl | hx
        · omega
        · exact h2 _ (List.mem_cons_of_mem _ hx)
theorem mx_uniq {a : Int} {r : List Int} {M : Int} (h1 : M ∈ a :: r) (h2 : ∀ x, x ∈ a :: r → x ≤ M) : M = mx a r :=
  Int.le_antisymm ((mx_spec a r).2 _ h1) (h2 _ (mx_spec a r).1)
theorem mn_uniq {a : Int} {r : List Int} {M : Int} (h1 : M ∈ a :: r) (h2 : ∀ x, x ∈ a :: r → M ≤ x) : M = mn a r :=
  Int.le_antisymm (h2 _ (mn_spec a r).1) ((mn_spec a r).2 _ h1)

theorem hi_ok {B ar hd : Addr} {h : AH} {held : List (Addr × Box)} {k i : Nat} {x : Int} {av : List AV} {loc : Loc} {Q : AV → AH → Prop} (hk : k < 4) (hr : loc 1 = some (.ref ar)) (har : h ar = some (.list av)) (hx : av[k]? = some (.int x))
    (hh : loc 4 = some (.ref hd)) (hb : BoxesAt h hd held) (hlen : held.length ≤ 100) (q : ∀ h', Ext h h' → Q (.int (mx x (held.map fun p => p.2.at k))) h') :
    T.call (T.econs (T.bin (P.addL B) (T.list B (T.econs (T.idx (T.var 1) (T.int k)) T.enil)) (T.comp B (T.itL (T.var 4)) i T.yes (T.idx (T.var i) (T.int k)))) T.enil) F.maxL loc h Q := by
  refine i_call (i_cons (i_bin (i_list (i_cons (i_idx hr har (by omega) hx (i_nil ⟨by show (1 : Nat) ≤ 2 ^ 20; decide, fun D1 hB1 hD1 => ?_⟩))))))
  refine col_ok (hb.ext (Ext.new hD1)) (by omega) hk hh fun D2 hB2 hD2 => ?_
  have hne : D1 ≠ D2 := ne_of (upd_same ..) hD2
  refine ⟨D1, D2, _, _, rfl, rfl, by rw [upd_ne hne, upd_same], upd_same .., by simp; omega, fun D3 hB3 hD3 => i_nil ⟨D3, x :: held.map (fun p => p.2.at k), rfl, upd_same .., by simp, fun M m1 m2 => ?_⟩⟩
  rw [mx_uniq m1 m2]
  exact q _ (((Ext.new hD1).trans (Ext.new hD2)).trans (Ext.new hD3))
theorem lo_ok {B ar hd : Addr} {h : AH} {held : List (Addr × Box)} {k i : Nat} {x : Int} {av : List AV} {loc : Loc} {Q : AV → AH → Prop} (hk : k < 4) (hr : loc 1 = some (.ref ar)) (har : h ar = some (.list av)) (hx : av[k]? = some (.int x))
    (hh : loc 4 = some (.ref hd)) (hb : BoxesAt h hd held) (hlen : held.length ≤ 100) (q : ∀ h', Ext h h' → Q (.int (mn x (held.map fun p => p.2.at k))) h') :
    T.call (T.econs (T.bin (P.addL B) (T.list B (T.econs (T.idx (T.var 1) (T.int k)) T.enil)) (T.comp B (T.itL (T.var 4)) i T.yes (T.idx (T.var i) (T.int k)))) T.enil) F.minL loc h Q := by
  refine i_call (i_cons (i_bin (i_list (i_cons (i_idx hr har (by omega) hx (i_nil ⟨by show (1 : Nat) ≤ 2 ^ 20; decide, fun D1 hB1 hD1 => ?_⟩))))))
  refine col_ok (hb.ext (Ext.new hD1)) (by omega) hk hh fun D2 hB2 hD2 => ?_
  have hne : D1 ≠ D2 := ne_of (upd_same ..) hD2
  refine ⟨D1, D2, _, _, rfl, rfl, by rw [upd_ne hne, upd_same], upd_same .., by simp; omega, fun D3 hB3 hD3 => i_nil ⟨D3, x :: held.map (fun p => p.2.at k), rfl, upd_same .., by simp, fun M m1 m2 => ?_⟩⟩
  rw [mn_uniq m1 m2]
  exact q _ (((Ext.new hD1).trans (Ext.new hD2)).trans (Ext.new hD3))
theorem colmin_ok {B a : Addr} {h : AH} {bx : List (Addr × Box)} {k i j : Nat} {loc : Loc} {Q : AV → AH → Prop} (hk : k < 4) (hj : loc j = some (.ref a)) (hb : BoxesAt h a bx) (h1 : 1 ≤ bx.length) (hlen : bx.length ≤ 100)
    (q : ∀ h' M, Ext h h' → M ∈ (bx.map fun p => p.2.at k) → (∀ x, x ∈ (bx.map fun p => p.2.at k) → M ≤ x) → Q (.int M) h') :
    T.call (T.econs (T.comp B (T.itL (T.var j)) i T.yes (T.idx (T.var i) (T.int k))) T.enil) F.minL loc h Q := by
  refine i_call (i_cons (col_ok hb (by omega) hk hj fun D hB hD => i_nil ⟨D, _, rfl, upd_same .., fun e => ?_, fun M m1 m2 => q _ M (Ext.new hD) m1 m2⟩))
  rw [List.map_eq_nil_iff] at e; rw [e] at h1; exact absurd h1 (by decide)
theorem colmax_ok {B a : Addr} {h : AH} {bx : List (Addr × Box)} {k i j : Nat} {loc : Loc} {Q : AV → AH → Prop} (hk : k < 4) (hj : loc j = some (.ref a)) (hb : BoxesAt h a bx) (h1 : 1 ≤ bx.length) (hlen : bx.length ≤ 100)
    (q : ∀ h' M, Ext h h' → M ∈ (bx.map fun p => p.2.at k) → (∀ x, x ∈ (bx.map fun p => p.2.at k) → x ≤ M) → Q (.int M) h') :
    T.call (T.econs (T.comp B (T.itL (T.var j)) i T.yes (T.idx (T.var i) (T.int k))) T.enil) F.maxL loc h Q := by
  refine i_call (i_cons (col_ok hb (by omega) hk hj fun D hB hD => i_nil ⟨D, _, rfl, upd_same .., fun e => ?_, fun M m1 m2 => q _ M (Ext.new hD) m1 m2⟩))
  rw [List.map_eq_nil_iff] at e; rw [e] at h1; exact absurd h1 (by decide)

theorem held_list (bx : List (Addr × Box)) (m : Nat) :
    ((((rangeL 0 1 bx.length).map AV.int).filter fun v => match v with | .int x => bit m x.toNat | _ => false).map fun v => match v with | .int x => AV.ref (bx.getD x.toNat nb).1 | _ => .none) = (heldB bx m).map fun p => AV.ref p.1 := by
  unfold heldB heldI rangeL
  rw [List.map_map, List.filter_map, List.map_map, List.map_map]
  simp [Function.comp_def]
theorem held_ok {B a : Addr} {h : AH} {bx : List (Addr × Box)} {m : Nat} {loc : Loc} {Q : AV → AH → Prop} (hb : BoxesAt h a bx) (hlen : bx.length ≤ 100) (l0 : loc 0 = some (.ref a)) (l3 : loc 3 = some (.int m))
    (q : ∀ D, B ≤ D → h D = none → Q (.ref D) (upd h D (.list ((heldB bx m).map fun p => AV.ref p.1)))) :
    T.comp B (T.itR1 (T.econs (T.call (T.econs (T.var 0) T.enil) F.len) T.enil)) 13 (T.cmp P.eqI (T.bin P.band (T.bin P.shr (T.var 3) (T.var 13)) (T.int 1)) (T.int 1)) (T.idx (T.var 0) (T.var 13)) loc h Q := by
  refine i_comp (i_itR1 (i_cons (i_len l0 hb.1 (by rw [List.length_map]; omega) (i_nil ⟨_, rfl, ⟨by omega, by rw [List.length_map]; omega⟩, ?_⟩))))
  rw [Int.toNat_natCast, List.length_map]
  refine comp_pure (p := fun v => match v with | .int x => bit m x.toNat | _ => false) (g := fun v => match v with | .int x => AV.ref (bx.getD x.toNat nb).1 | _ => .none) rfl (by rw [rangeL_len]; omega) ?_ ?_
  · intro v hv h2 hx
    obtain ⟨x, hx', rfl⟩ := List.mem_map.mp hv
    obtain ⟨i, hi, rfl⟩ := List.mem_map.mp hx'
    have hi := List.mem_range.mp hi
    have e1 : (0 : Int) + (i : Int) * 1 = (i : Int) := by omega
    rw [e1]
    refine ⟨fun Q' q' => ?_, fun _ Q' q' => ?_⟩
    · refine i_cmp (i_bin (i_bin (i_var ((upd_ne (by decide)).trans l3) (i_var (upd_same ..) ⟨_, _, rfl, rfl, by omega, i_int ⟨_, _, rfl, rfl, i_int ⟨_, _, rfl, rfl, ?_⟩⟩⟩))))
      rw [bit_eq]; exact q'
    · refine ⟨_, (upd_ne (by decide)).trans l0, _, upd_same .., a, _, _, _, rfl, rfl, hx _ _ hb.1, by omega, by omega, ?_, q'⟩
      rw [Int.toNat_natCast, List.getElem?_map, List.getElem?_eq_getElem hi]
      show some (AV.ref bx[i].1) = some (AV.ref (bx.getD (i : Int).toNat nb).1)
      rw [Int.toNat_natCast, List.getD_eq_getElem?_getD, List.getElem?_eq_getElem hi]; rfl
  · intro D hB hD
    rw [held_list]; exact q D hB hD
end Mini

/-! L2K -/
namespace Mini

def AR (L R Bo Tp : Int) : Int := if L < R ∧ Bo < Tp then (R - L) * (Tp - Bo) else 0
def areaM (bx : List (Addr × Box)) (aL aR aB aT : Int) (m : Nat) : Int :=
  AR (mx aL ((heldB bx m).map fun p => p.2.at 0)) (mn aR ((heldB bx m).map fun p => p.2.at 1)) (mx aB ((heldB bx m).map fun p => p.2.at 2)) (mn aT ((heldB bx m).map fun p => p.2.at 3))
def commonF (bx : List (Addr × Box)) (aL aR aB aT : Int) (M j : Nat) : Int :=
  sumN M fun m => if (heldI bx.length m).length = j then areaM bx aL aR aB aT m else 0
structure Around (bx : List (Addr × Box)) (aL aR aB aT : Int) : Prop where
  l1 : aL ∈ bx.map fun p => p.2.at 0
  l2 : ∀ x, x ∈ (bx.map fun p => p.2.at 0) → aL ≤ x
  r1 : aR ∈ bx.map fun p => p.2.at 1
  r2 : ∀ x, x ∈ (bx.map fun p => p.2.at 1) → x ≤ aR
  b1 : aB ∈ bx.map fun p => p.2.at 2
  b2 : ∀ x, x ∈ (bx.map fun p => p.2.at 2) → aB ≤ x
  t1 : aT ∈ bx.map fun p => p.2.at 3
  t2 : ∀ x, x ∈ (bx.map fun p => p.2.at 3) → x ≤ aT

theorem i_t {c : Bool} {P R : Prop} (hc : c = true) (p : P) : if c = true then P else R := by rw [if_pos hc]; exact p
theorem i_f {c : Bool} {P R : Prop} (hc : c = false) (p : R) : if c = true then P else R := by subst hc; rw [if_neg (by decide)]; exact p

theorem mx_mem {bx : List (Addr × Box)} {m k : Nat} {x : Int} (hx : x ∈ bx.map fun p => p.2.at k) : mx x ((heldB bx m).map fun p => p.2.at k) ∈ bx.map fun p => p.2.at k := by
  rcases List.mem_cons.mp (mx_spec x ((heldB bx m).map fun p => p.2.at k)).1 with h | h
  · rw [h]; exact hx
  · obtain ⟨p, hp, e⟩ := List.mem_map.mp h
    rw [← e]; exact List.mem_map.mpr ⟨p, heldB_mem hp, rfl⟩
theorem mn_mem {bx : List (Addr × Box)} {m k : Nat} {x : Int} (hx : x ∈ bx.map fun p => p.2.at k) : mn x ((heldB bx m).map fun p => p.2.at k) ∈ bx.map fun p => p.2.at k := by
  rcases List.mem_cons.mp (mn_spec x ((heldB bx m).map fun p => p.2.at k)).1 with h | h
  · rw [h]; exact hx
  · obtain ⟨p, hp, e⟩ := List.mem_map.mp h
    rw [← e]; exact List.mem_map.mpr ⟨p, heldB_mem hp, rfl⟩

theorem common_spec {B a : Addr} {h : AH} {bx : List (Addr × Box)} {K : Nat} {Q : AV → AH → Prop} (hb : BoxesAt h a bx) (h1 : 1 ≤ bx.length) (hlen : bx.length ≤ 6)
    (hK : K + 1 ≤ 2000000) (hbK : ∀ p ∈ bx, ∀ k, (p.2.at k).natAbs < 2 ^ K)
    (q : ∀ aL aR aB aT, Around bx aL aR aB aT → ∀ m h', Ext h h' → h' m = some (.list ((mk (bx.length + 1) (commonF bx aL aR aB aT (2 ^ bx.length))).map AV.int)) → Q (.ref m) h') : f_common B [.ref a] h Q := by
  refine ⟨rfl, ?_⟩
  show t_common B _ _ _
  unfold t_common
  refine i_seq (i_asg (i_list (i_cons ?_)))
  refine colmin_ok (k := 0) (by decide) rfl hb h1 (by omega) fun h2 aL e2 l1 l2 => i_cons ?_
  refine colmax_ok (k := 1) (by decide) rfl (hb.ext e2) h1 (by omega) fun h3 aR e3 r1 r2 => i_cons ?_
  refine colmin_ok (k := 2) (by decide) rfl (hb.ext (e2.trans e3)) h1 (by omega) fun h4 aB e4 b1 b2 => i_cons ?_
  refine colmax_ok (k := 3) (by decide) rfl (hb.ext ((e2.trans e3).trans e4)) h1 (by omega) fun h5 aT e5 t1 t2 => i_nil ⟨by show (4 : Nat) ≤ 2 ^ 20; decide, fun ar hBa har => ?_⟩
  have AA : Around bx aL aR aB aT := ⟨l1, l2, r1, r2, b1, b2, t1, t2⟩
  have E5 := ((e2.trans e3).trans e4).trans e5
  have E6 : Ext h (upd h5 ar (.list [.int aL, .int aR, .int aB, .int aT])) := E5.trans (Ext.new har)
  refine i_seq (i_asg ?_)
  refine zeros_ok (n := bx.length + 1) (by omega) (fun h' e' Q' qq => ?_) fun h7 sm e7 hBs hsm => ?_
  · refine i_bin (i_len rfl (e' _ _ (E6 _ _ hb.1)) (by rw [List.length_map]; omega) (i_int (i_add ?_)))
    rw [List.length_map]; exact qq
  refine i_seq (i_itR1 (i_cons (i_bin (i_int ?_))))
  have E8 : Ext h (upd h7 sm (.list ((mk (bx.length + 1) fun _ => 0).map AV.int))) := (E6.trans e7).trans (Ext.new hsm)
  refine i_len rfl (E8 _ _ hb.1) (by rw [List.length_map]; omega) ?_
  rw [List.length_map]
  have hp : (2 : Int) ^ bx.length = ((2 ^ bx.length : Nat) : Int) := by rw [Int.natCast_pow]; rfl
  have hp6 : 2 ^ bx.length ≤ 2 ^ 6 := Nat.pow_le_pow_right (by decide) hlen
  generalize 2 ^ bx.length = M at *
  refine ⟨2, (bx.length : Int), rfl, rfl, by omega, ?_, i_nil ⟨(M : Int), ?_, ⟨by omega, by omega⟩, ?_⟩⟩
  · have : Builtin.Int.intBits 2 = 2 := by decide
    rw [this]; omega
  · rw [Int.toNat_natCast, hp]
  rw [Int.toNat_natCast]
  refine ⟨fun m loc h' => m ≤ M ∧ loc 0 = some (.ref a) ∧ loc 1 = some (.ref ar) ∧ loc 2 = some (.ref sm) ∧ Ext h7 h' ∧ h' sm = some (.list ((mk (bx.length + 1) (commonF bx aL aR aB aT m)).map AV.int)), M,
    ⟨Nat.zero_le _, rfl, rfl, rfl, Ext.new hsm, ?_⟩, ?_⟩
  · rw [upd_same]; rfl
  rintro m loc h' ⟨hm, k0, k1, k2, e8, hs⟩
  refine ⟨_, rfl, by rw [rangeL_len]; exact Nat.le_refl _, ?_⟩
  by_cases hml : m < M
  · rw [rangeL_get hml]
    have e1 : (0 : Int) + (m : Int) * 1 = (m : Int) := by omega
    rw [e1]
    have eh : Ext h h' := (E6.trans e7).trans e8
    refine i_seq (i_asg ?_)
    refine held_ok (m := m) (hb.ext eh) (by omega) ((upd_ne (by decide)).trans k0) (upd_same ..) fun hd hBh hhd => ?_
    have hdB : BoxesAt (upd h' hd (.list ((heldB bx m).map fun p => AV.ref p.1))) hd (heldB bx m) :=
      ⟨upd_same .., fun p hp => ((hb.ext eh).ext (Ext.new hhd)).2 p (heldB_mem hp)⟩
    have hl : (heldB bx m).length ≤ 100 := by
      have := heldI_len bx.length m
      unfold heldB; rw [List.length_map]; omega
    have hara : ∀ g : AH, Ext h' g → g ar = some (.list [.int aL, .int aR, .int aB, .int aT]) := fun g e => e _ _ (e8 _ _ (e7 _ _ (upd_same ..)))
    have n0 := Ext.new (c := .list ((heldB bx m).map fun p => AV.ref p.1)) hhd
    refine i_seq (i_asg ?_)
    refine hi_ok (k := 0) (by decide) (by rw [upd_ne (by decide), upd_ne (by decide)]; exact k1) (hara _ n0) rfl (upd_same ..) hdB hl fun g5 n5 => ?_
    refine i_seq (i_asg ?_)
    refine lo_ok (k := 1) (by decide) (by rw [upd_ne (by decide), upd_ne (by decide), upd_ne (by decide)]; exact k1) (hara _ (n0.trans n5)) rfl (by rw [upd_ne (by decide)]; exact upd_same ..) (hdB.ext n5) hl fun g6 n6 => ?_
    refine i_seq (i_asg ?_)
    refine hi_ok (k := 2) (by decide) (by rw [upd_ne (by decide), upd_ne (by decide), upd_ne (by decide), upd_ne (by decide)]; exact k1) (hara _ ((n0.trans n5).trans n6)) rfl (by rw [upd_ne (by decide), upd_ne (by decide)]; exact upd_same ..) (hdB.ext (n5.trans n6)) hl fun g7 n7 => ?_
    refine i_seq (i_asg ?_)
    refine lo_ok (k := 3) (by decide) (by rw [upd_ne (by decide), upd_ne (by decide), upd_ne (by decide), upd_ne (by decide), upd_ne (by decide)]; exact k1) (hara _ (((n0.trans n5).trans n6).trans n7)) rfl (by rw [upd_ne (by decide), upd_ne (by decide), upd_ne (by decide)]; exact upd_same ..) (hdB.ext ((n5.trans n6).trans n7)) hl fun g8 n8 => ?_
    have n18 := (n5.trans n6).trans (n7.trans n8)
    have n08 := n0.trans n18
    have hc : commonF bx aL aR aB aT (m + 1) = fun j => if j = (heldI bx.length m).length then commonF bx aL aR aB aT m j + areaM bx aL aR aB aT m else commonF bx aL aR aB aT m j := by
      funext j
      unfold commonF
      rw [sumN]
      by_cases hj : j = (heldI bx.length m).length
      · rw [if_pos hj, if_pos hj.symm]
      · rw [if_neg hj, if_neg (Ne.symm hj)]; omega
    have hAM : areaM bx aL aR aB aT m = AR (mx aL ((heldB bx m).map fun p => p.2.at 0)) (mn aR ((heldB bx m).map fun p => p.2.at 1)) (mx aB ((heldB bx m).map fun p => p.2.at 2)) (mn aT ((heldB bx m).map fun p => p.2.at 3)) := rfl
    have kb : ∀ {k : Nat} {v : Int}, (v ∈ bx.map fun p => p.2.at k) → v.natAbs < 2 ^ K := fun hv => by
      obtain ⟨p, hp, rfl⟩ := List.mem_map.mp hv
      exact hbK p hp _
    have z5 := kb (mx_mem (m := m) l1)
    have z6 := kb (mn_mem (m := m) r1)
    have z7 := kb (mx_mem (m := m) b1)
    have z8 := kb (mn_mem (m := m) t1)
    generalize mx aL ((heldB bx m).map fun p => p.2.at 0) = L at *
    generalize mn aR ((heldB bx m).map fun p => p.2.at 1) = R at *
    generalize mx aB ((heldB bx m).map fun p => p.2.at 2) = Bo at *
    generalize mn aT ((heldB bx m).map fun p => p.2.at 3) = Tp at *
    have j0 : ∀ i, i < 3 → upd (upd (upd (upd (upd (upd loc 3 (.int (m : Int))) 4 (.ref hd)) 5 (.int L)) 6 (.int R)) 7 (.int Bo)) 8 (.int Tp) i = loc i := fun i hi => by
      rw [upd_ne (by omega), upd_ne (by omega), upd_ne (by omega), upd_ne (by omega), upd_ne (by omega), upd_ne (by omega)]
    have j4 : upd (upd (upd (upd (upd (upd loc 3 (.int (m : Int))) 4 (.ref hd)) 5 (.int L)) 6 (.int R)) 7 (.int Bo)) 8 (.int Tp) 4 = some (.ref hd) := rfl
    have j5 : upd (upd (upd (upd (upd (upd loc 3 (.int (m : Int))) 4 (.ref hd)) 5 (.int L)) 6 (.int R)) 7 (.int Bo)) 8 (.int Tp) 5 = some (.int L) := rfl
    have j6 : upd (upd (upd (upd (upd (upd loc 3 (.int (m : Int))) 4 (.ref hd)) 5 (.int L)) 6 (.int R)) 7 (.int Bo)) 8 (.int Tp) 6 = some (.int R) := rfl
    have j7 : upd (upd (upd (upd (upd (upd loc 3 (.int (m : Int))) 4 (.ref hd)) 5 (.int L)) 6 (.int R)) 7 (.int Bo)) 8 (.int Tp) 7 = some (.int Bo) := rfl
    have j8 : upd (upd (upd (upd (upd (upd loc 3 (.int (m : Int))) 4 (.ref hd)) 5 (.int L)) 6 (.int R)) 7 (.int Bo)) 8 (.int Tp) 8 = some (.int Tp) := rfl
    generalize upd (upd (upd (upd (upd (upd loc 3 (.int (m : Int))) 4 (.ref hd)) 5 (.int L)) 6 (.int R)) 7 (.int Bo)) 8 (.int Tp) = loc9 at *
    have fin0 : ¬ (L < R ∧ Bo < Tp) → (m + 1 ≤ M ∧ loc9 0 = some (.ref a) ∧ loc9 1 = some (.ref ar) ∧ loc9 2 = some (.ref sm) ∧ Ext h7 g8 ∧ g8 sm = some (.list ((mk (bx.length + 1) (commonF bx aL aR aB aT (m + 1))).map AV.int))) := fun hn => by
      refine ⟨by omega, (j0 0 (by decide)).trans k0, (j0 1 (by decide)).trans k1, (j0 2 (by decide)).trans k2, e8.trans n08, ?_⟩
      have : commonF bx aL aR aB aT (m + 1) = commonF bx aL aR aB aT m := by
        rw [hc]; funext j; rw [hAM, AR, if_neg hn]; split <;> omega
      rw [this]; exact n08 _ _ hs
    refine i_ife (i_cmp (i_var j5 (i_var j6 ⟨_, _, rfl, rfl, ?_⟩)))
    by_cases c1 : L < R
    · refine i_t (decide_eq_true c1) ?_
      refine i_cmp (i_var j7 (i_var j8 ⟨_, _, rfl, rfl, ?_⟩))
      by_cases c2 : Bo < Tp
      · refine i_t (decide_eq_true c2) ?_
        have hln : (heldI bx.length m).length < bx.length + 1 := Nat.lt_succ_of_le (heldI_len _ _)
        refine ⟨_, (j0 2 (by decide)).trans k2, ?_⟩
        refine i_len j4 (hdB.ext n18).1 (by rw [List.length_map]; omega) ?_
        have hlh : ((heldB bx m).map fun p => AV.ref p.1).length = (heldI bx.length m).length := by rw [List.length_map]; unfold heldB; rw [List.length_map]
        rw [hlh]
        refine ⟨sm, _, _, _, rfl, rfl, n08 _ _ hs, by omega, by omega, by rw [Int.toNat_natCast]; exact getMk hln, ?_⟩
        refine i_bin (i_bin (i_var j6 (i_var j5 (i_sub (i_bin (i_var j8 (i_var j7 (i_sub ⟨_, _, rfl, rfl, ?_, ?_⟩))))))))
        · exact mul_ok hK (sub_lt z6 z5) (sub_lt z8 z7)
        · refine ⟨_, rfl, sm, _, _, rfl, rfl, n08 _ _ hs, hBs, by omega, by rw [List.length_map, mk_len]; omega, by rw [List.length_map, mk_len]; omega, ?_⟩
          rw [Int.toNat_natCast, setMk]
          refine ⟨by omega, (j0 0 (by decide)).trans k0, (j0 1 (by decide)).trans k1, (j0 2 (by decide)).trans k2, (e8.trans n08).set hsm, ?_⟩
          rw [upd_same, hc, hAM, AR, if_pos ⟨c1, c2⟩]
          congr 4; funext j
          split
          · rename_i hj; rw [hj]
          · rfl
      · refine i_f (decide_eq_false c2) ?_
        exact i_skip (fin0 fun x => c2 x.2)
    · refine i_f (decide_eq_false c1) ?_
      exact i_f rfl (i_skip (fin0 fun x => c1 x.1))
  · rw [rangeL_end (by omega)]
    have : m = M := by omega
    rw [this] at hs
    exact i_ret (i_var k2 (q aL aR aB aT AA sm h' ((E6.trans e7).trans e8) hs))
end Mini

/-! L2L -/
namespace Mini

/-- Pascal's numbers -/
def ch : Nat → Nat → Int
  | 0, 0 => 1
  | 0, _ + 1 => 0
  | _ + 1, 0 => 1
  | j + 1, k + 1 => ch j k + ch j (k + 1)
theorem ch_zero (j : Nat) : ch j 0 = 1 := by cases j <;> rfl
theorem ch_over (j k : Nat) (h : j < k) : ch j k = 0 := by
  induction j generalizing k with
  | zero => cases k with
    | zero => exact absurd h (by decide)
    | succ k => rfl
  | succ j ih => cases k with
    | zero => exact absurd h (by omega)
    | succ k => rw [ch, ih k (by omega), ih (k + 1) (by omega)]; rfl
theorem ch_self (j : Nat) : ch j j = 1 := by
  induction j with
  | zero => rfl
  | succ j ih => rw [ch, ih, ch_over j (j + 1) (by omega)]; rfl
def row (j : Nat) : List Int := mk (j + 1) (ch j)
theorem row_succ (j : Nat) : [AV.int 1] ++ (mk j fun k => ch j k + ch j (k + 1)).map AV.int ++ [AV.int 1] = (row (j + 1)).map AV.int := by
  have : row (j + 1) = [1] ++ (mk j fun k => ch j k + ch j (k + 1)) ++ [1] := by
    unfold row mk
    rw [List.range_succ, List.map_append, List.range_succ_eq_map, List.map_cons, List.map_map]
    show [ch (j + 1) 0] ++ _ ++ [ch (j + 1) (j + 1)] = _
    rw [ch_zero, ch_self]; rfl
  rw [this, List.map_append, List.map_append]; rfl

def RowsAt (h : AH) (a : Addr) (rs : List Addr) : Prop := h a = some (.list (rs.map AV.ref)) ∧ ∀ j (hj : j < rs.length), h rs[j] = some (.list ((row j).map AV.int))
theorem RowsAt.ext {h h' : AH} {a : Addr} {rs : List Addr} (x : RowsAt h a rs) (e : Ext h h') : RowsAt h' a rs := ⟨e _ _ x.1, fun j hj => e _ _ (x.2 j hj)⟩

/-- an item of a row -/
theorem row_idx {h : AH} {a : Addr} {rs : List Addr} {fj fk : ET} {j k : Nat} {loc : Loc} {i : Nat} {Q : AV → AH → Prop} (R : RowsAt h a rs) (hi : loc i = some (.ref a)) (hj : j < rs.length) (hk : k ≤ j) (hs : rs.length ≤ 1000)
    (fj' : ∀ Q' : AV → AH → Prop, Q' (.int j) h → fj loc h Q') (fk' : ∀ Q' : AV → AH → Prop, Q' (.int k) h → fk loc h Q') (q : Q (.int (ch j k)) h) :
    T.idx (T.idx (T.var i) fj) fk loc h Q := by
  refine ⟨_, hi, ?_⟩
  refine fj' _ ⟨a, _, _, _, rfl, rfl, R.1, by omega, by omega, by rw [Int.toNat_natCast, List.getElem?_map, List.getElem?_eq_getElem hj]; rfl, ?_⟩
  refine fk' _ ⟨_, _, _, _, rfl, rfl, R.2 j hj, by omega, by omega, by rw [Int.toNat_natCast]; exact getMk (by omega), q⟩

/-- a comprehension over range(n) whose element changes nothing -/
theorem comp_range {B : Addr} {fe : EsT} {n : Nat} {loc : Loc} {h : AH} {i : Nat} {e : ET} {Q : AV → AH → Prop} {g : Nat → AV} (hn : n ≤ 2 ^ 19)
    (hfe : ∀ Q' : List AV → AH → Prop, Q' [.int n] h → fe loc h Q')
    (he : ∀ k, k < n → ∀ h2 : AH, Ext h h2 → ∀ Q' : AV → AH → Prop, Q' (g k) h2 → e (upd loc i (.int (k : Int))) h2 Q')
    (hQ : ∀ D, B ≤ D → h D = none → Q (.ref D) (upd h D (.list ((List.range n).map g)))) : T.comp B (T.itR1 fe) i T.yes e loc h Q := by
  refine i_comp (i_itR1 (hfe _ ⟨(n : Int), rfl, ⟨by omega, by omega⟩, ?_⟩))
  rw [Int.toNat_natCast]
  refine comp_map (src := .range 0 1 n) (xs := (rangeL 0 1 n).map AV.int) (g := fun v => match v with | .int x => g x.toNat | _ => .none) rfl (by rw [rangeL_len]; omega) ?_ fun D hB hD => ?_
  · intro v hv h2 hx Q' q'
    obtain ⟨x, hx', rfl⟩ := List.mem_map.mp hv
    obtain ⟨k, hk, rfl⟩ := List.mem_map.mp hx'
    have hk := List.mem_range.mp hk
    have e1 : (0 : Int) + (k : Int) * 1 = (k : Int) := by omega
    rw [e1] at q' ⊢
    refine he k hk h2 hx Q' ?_
    dsimp only at q'
    rw [Int.toNat_natCast] at q'; exact q'
  · have : ((rangeL 0 1 n).map AV.int).map (fun v => match v with | .int x => g x.toNat | _ => .none) = (List.range n).map g := by
      unfold rangeL; simp [Function.comp_def]
    rw [this]; exact hQ D hB hD

theorem choose_spec {B : Addr} {h : AH} {n : Nat} {Q : AV → AH → Prop} (hn : n ≤ 100)
    (q : ∀ m rs h', Ext h h' → rs.length = n + 1 → RowsAt h' m rs → Q (.ref m) h') : f_choose B [.int n] h Q := by
  refine ⟨rfl, ?_⟩
  show t_choose B _ _ _
  unfold t_choose
  refine i_seq (i_asg (i_list (i_cons (i_list (i_cons (i_int (i_nil ⟨by show (1 : Nat) ≤ 2 ^ 20; decide, fun r0 hB0 hr0 => i_nil ⟨by show (1 : Nat) ≤ 2 ^ 20; decide, fun m hBm hm => ?_⟩⟩)))))))
  have hne : r0 ≠ m := ne_of (upd_same ..) hm
  have e0 : Ext h (upd (upd h r0 (.list [.int 1])) m (.list [.ref r0])) := (Ext.new hr0).trans (Ext.new hm)
  refine i_seq (i_itR1 (i_cons (i_var rfl (i_nil ⟨(n : Int), rfl, ⟨by omega, by omega⟩, ?_⟩))))
  rw [Int.toNat_natCast]
  have hm0 : h m = none := by rw [← hm, upd_ne hne.symm]
  refine ⟨fun j loc h' => ∃ rs, j ≤ n ∧ rs.length = j + 1 ∧ loc 1 = some (.ref m) ∧ Ext h h' ∧ RowsAt h' m rs ∧ ∀ r ∈ rs, r ≠ m, n,
    ⟨[r0], Nat.zero_le _, rfl, rfl, e0, ⟨upd_same .., fun j hj => ?_⟩, fun r hr => by rw [List.mem_singleton.mp hr]; exact hne⟩, ?_⟩
  · have : j = 0 := by simp at hj; exact hj
    subst this
    show upd (upd h r0 (.list [.int 1])) m (.list [.ref r0]) r0 = _
    rw [upd_ne hne, upd_same]; rfl
  rintro j loc h' ⟨rs, hj, hrs, k1, e, R, hrm⟩
  refine ⟨_, rfl, by rw [rangeL_len]; exact Nat.le_refl _, ?_⟩
  by_cases hjl : j < n
  · rw [rangeL_get hjl]
    have e1 : (0 : Int) + (j : Int) * 1 = (j : Int) := by omega
    rw [e1]
    dsimp only [T.asN]
    refine i_expr ?_
    refine ⟨_, (upd_ne (by decide)).trans k1, ⟨m, _, rfl, R.1⟩, ?_⟩
    refine i_cons (i_bin (i_bin (i_list (i_cons (i_int (i_nil ⟨by show (1 : Nat) ≤ 2 ^ 20; decide, fun D1 hB1 hD1 => ?_⟩))))))
    have R1 := R.ext (Ext.new (c := .list [.int 1]) hD1)
    refine comp_range (n := j) (g := fun k => .int (ch j k + ch j (k + 1))) (by omega) (fun Q' q' => i_cons (i_var (upd_same ..) (i_nil q'))) ?_ fun D2 hB2 hD2 => ?_
    · intro k hk h2 hx Q' q'
      refine i_bin (row_idx (j := j) (k := k) (R1.ext hx) (by rw [upd_ne (by decide), upd_ne (by decide)]; exact k1) (by omega) (by omega) (by omega) (fun Q'' q'' => i_var (by rw [upd_ne (by decide)]; exact upd_same ..) q'') (fun Q'' q'' => i_var (upd_same ..) q'') ?_)
      refine row_idx (j := j) (k := k + 1) (R1.ext hx) (by rw [upd_ne (by decide), upd_ne (by decide)]; exact k1) (by omega) (by omega) (by omega) (fun Q'' q'' => i_var (by rw [upd_ne (by decide)]; exact upd_same ..) q'') (fun Q'' q'' => i_bin (i_var (upd_same ..) (i_int (i_add q'')))) (i_add ?_)
      exact q'
    · have hlist : (List.range j).map (fun k => AV.int (ch j k + ch j (k + 1))) = (mk j fun k => ch j k + ch j (k + 1)).map AV.int := by
        unfold mk; rw [List.map_map]; rfl
      rw [hlist]
      have n12 : D1 ≠ D2 := ne_of (upd_same ..) hD2
      refine ⟨D1, D2, _, _, rfl, rfl, by rw [upd_ne n12, upd_same], upd_same .., by rw [List.length_map, mk_len]; simp; omega, fun D3 hB3 hD3 => ?_⟩
      refine i_list (i_cons (i_int (i_nil ⟨by show (1 : Nat) ≤ 2 ^ 20; decide, fun D4 hB4 hD4 => ?_⟩)))
      have n34 : D3 ≠ D4 := ne_of (upd_same ..) hD4
      refine ⟨D3, D4, _, _, rfl, rfl, by rw [upd_ne n34, upd_same], upd_same .., by simp [mk_len]; omega, fun D5 hB5 hD5 => ?_⟩
      rw [row_succ]
      have x5 := (Ext.new (c := .list [.int 1]) hD1).trans ((Ext.new (c := .list ((mk j fun k => ch j k + ch j (k + 1)).map AV.int)) hD2).trans ((Ext.new (c := .list ([AV.int 1] ++ (mk j fun k => ch j k + ch j (k + 1)).map AV.int)) hD3).trans ((Ext.new (c := .list [.int 1]) hD4).trans (Ext.new (c := .list ((row (j + 1)).map AV.int)) hD5))))
      have R5 := R.ext x5
      refine i_nil ⟨m, _, _, rfl, R5.1, ?_, by rw [List.length_map]; omega, ?_⟩
      · exact hBm
      · have hDm : D5 ≠ m := fun q => by
          have := x5.none (a := D5)
          have h5 : h' D5 = none := ((Ext.new (c := .list [.int 1]) hD1).trans ((Ext.new (c := .list ((mk j fun k => ch j k + ch j (k + 1)).map AV.int)) hD2).trans ((Ext.new (c := .list ([AV.int 1] ++ (mk j fun k => ch j k + ch j (k + 1)).map AV.int)) hD3).trans (Ext.new (c := .list [.int 1]) hD4)))).none hD5
          rw [q, R.1] at h5; cases h5
        refine ⟨rs ++ [D5], by omega, by rw [List.length_append, hrs]; rfl, (upd_ne (by decide)).trans k1, (e.trans x5).set hm0, ⟨?_, fun i hi => ?_⟩, ?_⟩
        · rw [upd_same, List.map_append]; rfl
        · rw [List.length_append, hrs] at hi
          have hi : i < j + 1 + 1 := hi
          by_cases hij : i < j + 1
          · rw [List.getElem_append_left (by omega), upd_ne (hrm _ (List.getElem_mem _))]
            exact R5.2 i (by omega)
          · have : i = j + 1 := by omega
            subst this
            rw [List.getElem_append_right (by omega)]
            simp only [hrs, Nat.sub_self, List.getElem_singleton]
            rw [upd_ne hDm]; exact upd_same ..
        · intro r hr
          rcases List.mem_append.mp hr with hr | hr
          · exact hrm r hr
          · rw [List.mem_singleton.mp hr]; exact hDm
  · rw [rangeL_end (by omega)]
    have : j = n := by omega
    subst this
    exact i_ret (i_var k1 (q m rs h' e hrs R))
end Mini

/-! L2M -/
namespace Mini

theorem sumN_add (n : Nat) (f g : Nat → Int) : sumN n (fun i => f i + g i) = sumN n f + sumN n g := by
  induction n with
  | zero => rfl
  | succ n ih => rw [sumN, sumN, sumN, ih]; omega
theorem sumN_mulL (n : Nat) (a : Int) (f : Nat → Int) : sumN n (fun i => a * f i) = a * sumN n f := by
  induction n with
  | zero => rw [sumN, sumN, Int.mul_zero]
  | succ n ih => rw [sumN, sumN, ih, Int.mul_add]
theorem sumN_zero (n : Nat) : sumN n (fun _ => 0) = 0 := by
  induction n with
  | zero => rfl
  | succ n ih => rw [sumN, ih]; rfl
theorem sumN_comm (n m : Nat) (f : Nat → Nat → Int) : sumN n (fun i => sumN m fun j => f i j) = sumN m fun j => sumN n fun i => f i j := by
  induction n with
  | zero => rw [sumN]; exact (sumN_zero m).symm
  | succ n ih => rw [sumN, ih, ← sumN_add]; rfl
theorem sumN_prod (n m : Nat) (f g : Nat → Int) : sumN n f * sumN m g = sumN n fun i => sumN m fun j => f i * g j := by
  have e : ∀ i, (sumN m fun j => f i * g j) = sumN m g * f i := fun i => by rw [sumN_mulL, Int.mul_comm]
  rw [sumN_congr (g := fun i => sumN m g * f i) fun i _ => e i, sumN_mulL, Int.mul_comm]

/-- the strips between two marks make up the way between them -/
theorem tele {X : List Int} (hs : SIncr X) {L R : Int} (hL : L ∈ X) (hR : R ∈ X) :
    sumN (X.length - 1) (fun s => if L ≤ X.getD s 0 ∧ X.getD s 0 < R then X.getD (s + 1) 0 - X.getD s 0 else 0) = if L < R then R - L else 0 := by
  obtain ⟨a, ha, rfl⟩ := List.getElem_of_mem hL
  obtain ⟨b, hb, rfl⟩ := List.getElem_of_mem hR
  have mono := hs.incr
  have key : ∀ m, m ≤ X.length - 1 → sumN m (fun s => if X[a] ≤ X.getD s 0 ∧ X.getD s 0 < X[b] then X.getD (s + 1) 0 - X.getD s 0 else 0) =
      if X[a] < X[b] then max X[a] (min X[b] (X.getD m 0)) - X[a] else 0 := by
    intro m
    induction m with
    | zero =>
      intro hm
      have h0 : X.getD 0 0 = X[0] := getD_of (by omega)
      rw [sumN, h0]
      have := mono 0 a (by omega) ha (Nat.zero_le _)
      split <;> omega
    | succ m ih =>
      intro hm
      rw [sumN, ih (by omega)]
      have e0 : X.getD m 0 = X[m] := getD_of (by omega)
      have e1 : X.getD (m + 1) 0 = X[m + 1] := getD_of (by omega)
      rw [e0, e1]
      have hlt : X[m] < X[m + 1] := List.pairwise_iff_getElem.mp hs m (m + 1) (by omega) (by omega) (by omega)
      have ga : X[a] ≤ X[m] ∨ X[m + 1] ≤ X[a] := by
        by_cases h : a ≤ m
        · exact .inl (mono a m ha (by omega) h)
        · exact .inr (mono (m + 1) a (by omega) ha (by omega))
      have gb : X[b] ≤ X[m] ∨ X[m + 1] ≤ X[b] := by
        by_cases h : b ≤ m
        · exact .inl (mono b m hb (by omega) h)
        · exact .inr (mono (m + 1) b (by omega) hb (by omega))
      split <;> split <;> omega
  rw [key _ (Nat.le_refl _), getD_of (show X.length - 1 < X.length by omega)]
  have := mono b (X.length - 1) hb (by omega) (by omega)
  split <;> omega

def cov (X Y : List Int) (s c : Nat) (p : Addr × Box) : Bool := decide (pos X p.2.l ≤ s ∧ s < pos X p.2.r ∧ pos Y p.2.b ≤ c ∧ c < pos Y p.2.t)
theorem depT_cov {X Y : List Int} {p : Addr × Box} {s c : Nat} (h : p.2.l ≤ p.2.r) : depT X Y p.2 (s + 1) c = if cov X Y s c p then 1 else 0 := by
  have hm := pos_mono (is := X) h
  unfold depT cov
  generalize pos X p.2.l = x at *
  generalize pos X p.2.r = y at *
  generalize pos Y p.2.b = z
  generalize pos Y p.2.t = w
  by_cases h1 : z ≤ c ∧ c < w
  · rw [if_pos h1]
    by_cases h2 : x ≤ s ∧ s < y
    · rw [if_pos (show x < s + 1 by omega), if_neg (show ¬ y < s + 1 by omega), decide_eq_true ⟨h2.1, h2.2, h1⟩]; rfl
    · rw [decide_eq_false fun q => h2 ⟨q.1, q.2.1⟩]
      split <;> split <;> simp <;> omega
  · rw [if_neg h1, decide_eq_false fun q => h1 q.2.2, Int.mul_zero]; rfl
def dN (l : List Bool) : Nat := l.count true
theorem dep_cov {X Y : List Int} {bx : List (Addr × Box)} (h : ∀ p ∈ bx, p.2.l ≤ p.2.r) {s c : Nat} : dep X Y bx (s + 1) c = dN (bx.map (cov X Y s c)) := by
  induction bx with
  | nil => rfl
  | cons p r ih =>
    rw [dep_cons, ih fun q hq => h q (List.mem_cons_of_mem _ hq), depT_cov (h p (List.mem_cons_self ..))]
    unfold dN
    rw [List.map_cons, List.count_cons]
    cases cov X Y s c p <;> simp <;> omega

/-! the finite part -/
def sub (m : Nat) (l : List Bool) : Bool := (heldI l.length m).all fun i => l.getD i false
def cnt (l : List Bool) (j : Nat) : Int := sumN (2 ^ l.length) fun m => if (heldI l.length m).length = j ∧ sub m l = true then 1 else 0
theorem sumN_even (M : Nat) (f : Nat → Int) : sumN (2 * M) f = sumN M fun m => f (2 * m + 0) + f (2 * m + 1) := by
  induction M with
  | zero => rfl
  | succ M ih =>
    rw [show 2 * (M + 1) = 2 * M + 1 + 1 by omega, sumN, sumN, ih, sumN]; simp only [Nat.add_zero]; omega
theorem bit_succ (m b i : Nat) (hb : b < 2) : bit (2 * m + b) (i + 1) = bit m i := by
  unfold bit
  rw [Nat.pow_succ, Nat.mul_comm (2 ^ i) 2, ← Nat.div_div_eq_div_mul, show (2 * m + b) / 2 = m by omega]
theorem bit_zero (m b : Nat) (hb : b < 2) : bit (2 * m + b) 0 = (b == 1) := by
  unfold bit
  rw [Nat.pow_zero, Nat.div_one, show (2 * m + b) % 2 = b by omega]
theorem held_succ (n m b : Nat) (hb : b < 2) : heldI (n + 1) (2 * m + b) = (if b = 1 then [0] else []) ++ (heldI n m).map Nat.succ := by
  unfold heldI
  rw [List.range_succ_eq_map, List.filter_cons, bit_zero _ _ hb, List.filter_map]
  have : (bit (2 * m + b) ∘ Nat.succ) = bit m := by funext i; exact bit_succ m b i hb
  rw [this]
  by_cases h : b = 1
  · subst h; rfl
  · rw [if_neg h, if_neg (by simpa using h)]; rfl
theorem sub_succ (m b : Nat) (hb : b < 2) (x : Bool) (l : List Bool) : sub (2 * m + b) (x :: l) = ((b == 0 || x) && sub m l) := by
  unfold sub
  rw [List.length_cons, held_succ _ _ _ hb, List.all_append, List.all_map]
  have : ((fun i => (x :: l).getD i false) ∘ Nat.succ) = fun i => l.getD i false := by funext i; rfl
  rw [this]
  congr 1
  rcases Nat.lt_or_ge b 1 with h | h
  · have : b = 0 := by omega
    subst this; rfl
  · have : b = 1 := by omega
    subst this; simp
theorem cnt_cons (x : Bool) (l : List Bool) (j : Nat) : cnt (x :: l) j = cnt l j + (if x then (match j with | 0 => 0 | j + 1 => cnt l j) else 0) := by
  unfold cnt
  rw [List.length_cons, Nat.pow_succ, Nat.mul_comm, sumN_even, sumN_add]
  have l0 : ∀ m, (heldI (l.length + 1) (2 * m + 0)).length = (heldI l.length m).length := fun m => by rw [held_succ _ _ _ (by decide)]; simp
  have l1 : ∀ m, (heldI (l.length + 1) (2 * m + 1)).length = (heldI l.length m).length + 1 := fun m => by rw [held_succ _ _ _ (by decide)]; simp
  congr 1
  · refine sumN_congr fun m _ => ?_
    rw [l0, sub_succ _ _ (by decide)]; rfl
  · cases x with
    | false =>
      rw [if_neg (by decide)]
      refine (sumN_congr (g := fun _ => 0) fun m _ => ?_).trans (sumN_zero _)
      rw [sub_succ _ _ (by decide)]
      exact if_neg fun h => Bool.noConfusion h.2
    | true =>
      rw [if_pos rfl]
      cases j with
      | zero =>
        show _ = (0 : Int)
        refine (sumN_congr (g := fun _ => 0) fun m _ => ?_).trans (sumN_zero _)
        rw [l1]
        exact if_neg fun h => Nat.noConfusion h.1
      | succ j =>
        refine sumN_congr fun m _ => ?_
        rw [l1, sub_succ _ _ (by decide)]
        simp
theorem cnt_ch (l : List Bool) (j : Nat) : cnt l j = ch (dN l) j := by
  induction l generalizing j with
  | nil => cases j with
    | zero => rfl
    | succ j => 
      show sumN 1 _ = 0
      rw [sumN, sumN, if_neg fun h => absurd h.1 (by show ¬ (0 : Nat) = j + 1; omega)]; rfl
  | cons x l ih =>
    rw [cnt_cons, ih]
    unfold dN
    rw [List.count_cons]
    cases x with
    | false => simp
    | true =>
      cases j with
      | zero => rw [if_pos rfl, ch_zero, ch_zero]; rfl
      | succ j =>
        rw [if_pos rfl]
        show _ + cnt l j = ch (l.count true + 1) (j + 1)
        rw [ih, ch]
        show ch (l.count true) (j + 1) + ch (l.count true) j = _
        omega
theorem dN_le (l : List Bool) : dN l ≤ l.length := List.count_le_length ..

def due1 (n d k : Nat) : Int := sumN (n + 1 - k) fun i => (-1) ^ i * ch (k + i) k * ch d (k + i)
theorem chk2 : ∀ n ∈ List.range 7, ∀ d ∈ List.range (n + 1), ∀ k ∈ List.range (n + 1), due1 n d k = if d = k then 1 else 0 := by decide +kernel

/-! the area of a common part, cell by cell -/
theorem sub_iff {X Y : List Int} {bx : List (Addr × Box)} {m s c : Nat} : sub m (bx.map (cov X Y s c)) = true ↔ ∀ p ∈ heldB bx m, cov X Y s c p = true := by
  unfold sub heldB
  rw [List.length_map, List.all_eq_true]
  have hg : ∀ i, i ∈ heldI bx.length m → (bx.map (cov X Y s c)).getD i false = cov X Y s c (bx.getD i nb) := fun i hi => by
    have hi := List.mem_range.mp (List.mem_filter.mp hi).1
    rw [List.getD_eq_getElem?_getD, List.getD_eq_getElem?_getD, List.getElem?_map, List.getElem?_eq_getElem hi]; rfl
  constructor
  · intro h p hp
    obtain ⟨i, hi, rfl⟩ := List.mem_map.mp hp
    rw [← hg i hi]; exact h i hi
  · intro h i hi
    rw [hg i hi]; exact h _ (List.mem_map.mpr ⟨i, hi, rfl⟩)

theorem area_cells {X Y : List Int} {bx : List (Addr × Box)} {aL aR aB aT : Int} (A : Around bx aL aR aB aT) (hX : SIncr X) (hY : SIncr Y)
    (mX : ∀ v, v ∈ X ↔ ∃ p ∈ bx, v = p.2.l ∨ v = p.2.r) (mY : ∀ v, v ∈ Y ↔ ∃ p ∈ bx, v = p.2.b ∨ v = p.2.t) (hlr : ∀ p ∈ bx, p.2.l ≤ p.2.r) (hbt : ∀ p ∈ bx, p.2.b ≤ p.2.t) (m : Nat) :
    areaM bx aL aR aB aT m = sumN (X.length - 1) fun s => sumN (Y.length - 1) fun c => if sub m (bx.map (cov X Y s c)) = true then wgt X Y s c else 0 := by
  have xl : ∀ {v}, (v ∈ bx.map fun p => p.2.at 0) → v ∈ X := fun hv => by
    obtain ⟨p, hp, rfl⟩ := List.mem_map.mp hv; exact (mX _).mpr ⟨p, hp, .inl rfl⟩
  have xr : ∀ {v}, (v ∈ bx.map fun p => p.2.at 1) → v ∈ X := fun hv => by
    obtain ⟨p, hp, rfl⟩ := List.mem_map.mp hv; exact (mX _).mpr ⟨p, hp, .inr rfl⟩
  have yb : ∀ {v}, (v ∈ bx.map fun p => p.2.at 2) → v ∈ Y := fun hv => by
    obtain ⟨p, hp, rfl⟩ := List.mem_map.mp hv; exact (mY _).mpr ⟨p, hp, .inl rfl⟩
  have yt : ∀ {v}, (v ∈ bx.map fun p => p.2.at 3) → v ∈ Y := fun hv => by
    obtain ⟨p, hp, rfl⟩ := List.mem_map.mp hv; exact (mY _).mpr ⟨p, hp, .inr rfl⟩
  have xin : ∀ v ∈ X, aL ≤ v ∧ v ≤ aR := fun v hv => by
    obtain ⟨p, hp, e⟩ := (mX v).mp hv
    have h1 : aL ≤ p.2.l := A.l2 _ (List.mem_map.mpr ⟨p, hp, rfl⟩)
    have h2 : p.2.r ≤ aR := A.r2 _ (List.mem_map.mpr ⟨p, hp, rfl⟩)
    have h3 := hlr p hp
    rcases e with rfl | rfl <;> omega
  have yin : ∀ v ∈ Y, aB ≤ v ∧ v ≤ aT := fun v hv => by
    obtain ⟨p, hp, e⟩ := (mY v).mp hv
    have h1 : aB ≤ p.2.b := A.b2 _ (List.mem_map.mpr ⟨p, hp, rfl⟩)
    have h2 : p.2.t ≤ aT := A.t2 _ (List.mem_map.mpr ⟨p, hp, rfl⟩)
    have h3 := hbt p hp
    rcases e with rfl | rfl <;> omega
  unfold areaM
  have sL := mx_spec aL ((heldB bx m).map fun p => p.2.at 0)
  have sR := mn_spec aR ((heldB bx m).map fun p => p.2.at 1)
  have sB := mx_spec aB ((heldB bx m).map fun p => p.2.at 2)
  have sT := mn_spec aT ((heldB bx m).map fun p => p.2.at 3)
  have iL := xl (mx_mem (m := m) A.l1)
  have iR := xr (mn_mem (m := m) A.r1)
  have iB := yb (mx_mem (m := m) A.b1)
  have iT := yt (mn_mem (m := m) A.t1)
  generalize mx aL ((heldB bx m).map fun p => p.2.at 0) = L at *
  generalize mn aR ((heldB bx m).map fun p => p.2.at 1) = R at *
  generalize mx aB ((heldB bx m).map fun p => p.2.at 2) = Bo at *
  generalize mn aT ((heldB bx m).map fun p => p.2.at 3) = Tp at *
  have hprod : AR L R Bo Tp = (if L < R then R - L else 0) * (if Bo < Tp then Tp - Bo else 0) := by
    unfold AR
    by_cases c1 : L < R
    · by_cases c2 : Bo < Tp
      · rw [if_pos ⟨c1, c2⟩, if_pos c1, if_pos c2]
      · rw [if_neg fun q => c2 q.2, if_neg c2, Int.mul_zero]
    · rw [if_neg fun q => c1 q.1, if_neg c1, Int.zero_mul]
  rw [hprod, ← tele hX iL iR, ← tele hY iB iT, sumN_prod]
  refine sumN_congr fun s hs => sumN_congr fun c hc => ?_
  have gs : X.getD s 0 = X[s] := getD_of (by omega)
  have gc : Y.getD c 0 = Y[c] := getD_of (by omega)
  have x0 := xin X[s] (List.getElem_mem _)
  have x1 := xin X[s + 1] (List.getElem_mem (by omega))
  have xlt : X[s] < X[s + 1] := List.pairwise_iff_getElem.mp hX s (s + 1) (by omega) (by omega) (by omega)
  have y0 := yin Y[c] (List.getElem_mem _)
  have y1 := yin Y[c + 1] (List.getElem_mem (by omega))
  have ylt : Y[c] < Y[c + 1] := List.pairwise_iff_getElem.mp hY c (c + 1) (by omega) (by omega) (by omega)
  have key : sub m (bx.map (cov X Y s c)) = true ↔ (L ≤ X.getD s 0 ∧ X.getD s 0 < R) ∧ (Bo ≤ Y.getD c 0 ∧ Y.getD c 0 < Tp) := by
    rw [sub_iff, gs, gc]
    constructor
    · intro h
      refine ⟨⟨?_, ?_⟩, ?_, ?_⟩
      · rcases List.mem_cons.mp sL.1 with e | e
        · rw [e]; exact x0.1
        · obtain ⟨p, hp, e⟩ := List.mem_map.mp e
          have := (decide_eq_true_eq.mp (h p hp)).1
          have h2 := pos_lt_iff hX.incr (x := p.2.l) (i := s) (by omega)
          have e : p.2.l = L := e
          rw [← e]; exact Int.not_lt.mp fun q => by have := h2.mp q; omega
      · rcases List.mem_cons.mp sR.1 with e | e
        · rw [e]; omega
        · obtain ⟨p, hp, e⟩ := List.mem_map.mp e
          have := (decide_eq_true_eq.mp (h p hp)).2.1
          have h2 := pos_lt_iff hX.incr (x := p.2.r) (i := s) (by omega)
          have e : p.2.r = R := e
          rw [← e]; exact h2.mpr this
      · rcases List.mem_cons.mp sB.1 with e | e
        · rw [e]; exact y0.1
        · obtain ⟨p, hp, e⟩ := List.mem_map.mp e
          have := (decide_eq_true_eq.mp (h p hp)).2.2.1
          have h2 := pos_lt_iff hY.incr (x := p.2.b) (i := c) (by omega)
          have e : p.2.b = Bo := e
          rw [← e]; exact Int.not_lt.mp fun q => by have := h2.mp q; omega
      · rcases List.mem_cons.mp sT.1 with e | e
        · rw [e]; omega
        · obtain ⟨p, hp, e⟩ := List.mem_map.mp e
          have := (decide_eq_true_eq.mp (h p hp)).2.2.2
          have h2 := pos_lt_iff hY.incr (x := p.2.t) (i := c) (by omega)
          have e : p.2.t = Tp := e
          rw [← e]; exact h2.mpr this
    · rintro ⟨⟨h1, h2⟩, h3, h4⟩ p hp
      have q1 : p.2.l ≤ L := sL.2 _ (List.mem_cons_of_mem _ (List.mem_map.mpr ⟨p, hp, rfl⟩))
      have q2 : R ≤ p.2.r := sR.2 _ (List.mem_cons_of_mem _ (List.mem_map.mpr ⟨p, hp, rfl⟩))
      have q3 : p.2.b ≤ Bo := sB.2 _ (List.mem_cons_of_mem _ (List.mem_map.mpr ⟨p, hp, rfl⟩))
      have q4 : Tp ≤ p.2.t := sT.2 _ (List.mem_cons_of_mem _ (List.mem_map.mpr ⟨p, hp, rfl⟩))
      have p1 := pos_lt_iff hX.incr (x := p.2.l) (i := s) (by omega)
      have p2 := pos_lt_iff hX.incr (x := p.2.r) (i := s) (by omega)
      have p3 := pos_lt_iff hY.incr (x := p.2.b) (i := c) (by omega)
      have p4 := pos_lt_iff hY.incr (x := p.2.t) (i := c) (by omega)
      refine decide_eq_true ⟨Nat.not_lt.mp fun q => ?_, p2.mp (by omega), Nat.not_lt.mp fun q => ?_, p4.mp (by omega)⟩
      · have := p1.mpr q; omega
      · have := p3.mpr q; omega
  unfold wgt
  by_cases k : (L ≤ X.getD s 0 ∧ X.getD s 0 < R) ∧ (Bo ≤ Y.getD c 0 ∧ Y.getD c 0 < Tp)
  · rw [if_pos (key.mpr k), if_pos k.1, if_pos k.2]
  · rw [if_neg fun q => k (key.mp q)]
    by_cases k1 : L ≤ X.getD s 0 ∧ X.getD s 0 < R
    · rw [if_neg fun q => k ⟨k1, q⟩, Int.mul_zero]
    · rw [if_neg k1, Int.zero_mul]

/-- the plain law: what the sweep tells is what the common parts make -/
theorem sweep_is_due {X Y : List Int} {bx : List (Addr × Box)} {aL aR aB aT : Int} (hlen : bx.length ≤ 6) (A : Around bx aL aR aB aT) (hX : SIncr X) (hY : SIncr Y)
    (mX : ∀ v, v ∈ X ↔ ∃ p ∈ bx, v = p.2.l ∨ v = p.2.r) (mY : ∀ v, v ∈ Y ↔ ∃ p ∈ bx, v = p.2.b ∨ v = p.2.t) (hlr : ∀ p ∈ bx, p.2.l ≤ p.2.r) (hbt : ∀ p ∈ bx, p.2.b ≤ p.2.t) {k : Nat} (hk : k ≤ bx.length) :
    toldF X Y bx (X.length - 1) k = sumN (bx.length + 1 - k) fun i => (-1) ^ i * ch (k + i) k * commonF bx aL aR aB aT (2 ^ bx.length) (k + i) := by
  have hc : ∀ j, commonF bx aL aR aB aT (2 ^ bx.length) j = sumN (X.length - 1) fun s => sumN (Y.length - 1) fun c => wgt X Y s c * ch (dN (bx.map (cov X Y s c))) j := fun j => by
    unfold commonF
    have : ∀ m, (if (heldI bx.length m).length = j then areaM bx aL aR aB aT m else 0) = sumN (X.length - 1) fun s => sumN (Y.length - 1) fun c => wgt X Y s c * (if (heldI bx.length m).length = j ∧ sub m (bx.map (cov X Y s c)) = true then 1 else 0) := fun m => by
      rw [area_cells A hX hY mX mY hlr hbt]
      by_cases hj : (heldI bx.length m).length = j
      · rw [if_pos hj]
        refine sumN_congr fun s _ => sumN_congr fun c _ => ?_
        by_cases hs : sub m (bx.map (cov X Y s c)) = true
        · rw [if_pos hs, if_pos ⟨hj, hs⟩, Int.mul_one]
        · rw [if_neg hs, if_neg fun q => hs q.2, Int.mul_zero]
      · rw [if_neg hj]
        refine ((sumN_congr (g := fun _ => 0) fun s _ => ?_).trans (sumN_zero _)).symm
        refine (sumN_congr (g := fun _ => 0) fun c _ => ?_).trans (sumN_zero _)
        rw [if_neg fun q => hj q.1, Int.mul_zero]
    rw [sumN_congr fun m _ => this m, sumN_comm]
    refine sumN_congr fun s _ => ?_
    rw [sumN_comm]
    refine sumN_congr fun c _ => ?_
    rw [sumN_mulL, ← cnt_ch]
    unfold cnt
    rw [List.length_map]
  have e1 : (fun i => (-1) ^ i * ch (k + i) k * commonF bx aL aR aB aT (2 ^ bx.length) (k + i)) = fun i => sumN (X.length - 1) fun s => sumN (Y.length - 1) fun c => wgt X Y s c * ((-1) ^ i * ch (k + i) k * ch (dN (bx.map (cov X Y s c))) (k + i)) := by
    funext i
    rw [hc, ← sumN_mulL]
    refine sumN_congr fun s _ => ?_
    rw [← sumN_mulL]
    refine sumN_congr fun c _ => ?_
    rw [← Int.mul_assoc, ← Int.mul_assoc, Int.mul_comm _ (wgt X Y s c)]
  rw [e1, sumN_comm]
  unfold toldF
  refine sumN_congr fun s _ => ?_
  rw [sumN_comm]
  refine sumN_congr fun c _ => ?_
  rw [sumN_mulL, dep_cov hlr]
  have hd := dN_le (bx.map (cov X Y s c))
  rw [List.length_map] at hd
  have := chk2 bx.length (List.mem_range.mpr (by omega)) (dN (bx.map (cov X Y s c))) (List.mem_range.mpr (by omega)) k (List.mem_range.mpr (by omega))
  unfold due1 at this
  rw [this]
  by_cases hdk : dN (bx.map (cov X Y s c)) = k
  · rw [if_pos hdk, if_pos (by rw [hdk]), Int.mul_one]
  · rw [if_neg hdk, if_neg (by omega), Int.mul_zero]
end Mini

/-! L2N -/
namespace Mini

def moreL : List Int := [0, 4, 0, 3, 2, 6, 1, 5, 1, 3, 2, 7, 5, 9, 0, 2, 3, 8, 4, 6, 0, 9, 3, 4]

/-- a comprehension over range(n) whose element may lay new cells -/
theorem comp_rangeE {B : Addr} {fe : EsT} {n : Nat} {loc : Loc} {h : AH} {i : Nat} {e : ET} {Q : AV → AH → Prop} {g : Nat → AV} (hn : n ≤ 2 ^ 19)
    (hfe : ∀ Q' : List AV → AH → Prop, Q' [.int n] h → fe loc h Q')
    (he : ∀ k, k < n → ∀ h2 : AH, Ext h h2 → ∀ Q' : AV → AH → Prop, (∀ h3, Ext h2 h3 → Q' (g k) h3) → e (upd loc i (.int (k : Int))) h2 Q')
    (hQ : ∀ D h', B ≤ D → h D = none → Ext h h' → h' D = some (.list ((List.range n).map g)) → Q (.ref D) h') : T.comp B (T.itR1 fe) i T.yes e loc h Q := by
  refine i_comp (i_itR1 (hfe _ ⟨(n : Int), rfl, ⟨by omega, by omega⟩, ?_⟩))
  rw [Int.toNat_natCast]
  intro D hB hD
  refine ⟨fun k ys h' => k ≤ n ∧ ys = (List.range k).map g ∧ Ext h h' ∧ h' D = some (.list ys), n, ⟨Nat.zero_le _, rfl, Ext.new hD, upd_same ..⟩, ?_⟩
  rintro k ys h' ⟨hk, rfl, eh, hd⟩
  refine ⟨hd, by rw [List.length_map, List.length_range]; omega, _, rfl, by rw [rangeL_len]; exact Nat.le_refl _, ?_⟩
  by_cases hkl : k < n
  · rw [rangeL_get hkl]
    have e1 : (0 : Int) + (k : Int) * 1 = (k : Int) := by omega
    rw [e1]
    refine (he k hkl h' eh _ fun h3 e3 => ⟨e3 _ _ hd, by omega, ?_, (eh.trans e3).set hD, upd_same ..⟩)
    rw [List.range_succ, List.map_append]; rfl
  · rw [rangeL_end (by omega)]
    have : k = n := by omega
    subst this
    exact hQ D h' hB hD eh hd

theorem mk_sum (n : Nat) (f : Nat → Int) : (mk n f).sum = sumN n f := by
  induction n with
  | zero => rfl
  | succ n ih =>
    have : mk (n + 1) f = mk n f ++ [f n] := by unfold mk; rw [List.range_succ, List.map_append]; rfl
    rw [this, List.sum_append, ih, sumN, List.sum_cons, List.sum_nil, Int.add_zero]

/-- a comprehension over range(k, n) whose element changes nothing -/
theorem comp_range2 {B : Addr} {fe : EsT} {k n : Nat} {loc : Loc} {h : AH} {i : Nat} {e : ET} {Q : AV → AH → Prop} {g : Nat → AV} (hk : k ≤ n) (hn : n ≤ 2 ^ 19)
    (hfe : ∀ Q' : List AV → AH → Prop, Q' [.int k, .int n] h → fe loc h Q')
    (he : ∀ j, k + j < n → ∀ h2 : AH, Ext h h2 → ∀ Q' : AV → AH → Prop, Q' (g j) h2 → e (upd loc i (.int ((k + j : Nat) : Int))) h2 Q')
    (hQ : ∀ D, B ≤ D → h D = none → Q (.ref D) (upd h D (.list ((List.range (n - k)).map g)))) : T.comp B (T.itR2 fe) i T.yes e loc h Q := by
  refine hfe _ ⟨(k : Int), (n : Int), rfl, ⟨by omega, by omega⟩, ⟨by omega, by omega⟩, ?_⟩
  rw [show ((n : Int) - (k : Int)).toNat = n - k by omega]
  refine comp_map (src := .range k 1 (n - k)) (xs := (rangeL k 1 (n - k)).map AV.int) (g := fun v => match v with | .int x => g (x.toNat - k) | _ => .none) rfl (by rw [rangeL_len]; omega) ?_ fun D hB hD => ?_
  · intro v hv h2 hx Q' q'
    obtain ⟨x, hx', rfl⟩ := List.mem_map.mp hv
    obtain ⟨j, hj, rfl⟩ := List.mem_map.mp hx'
    have hj := List.mem_range.mp hj
    have e1 : (k : Int) + (j : Int) * 1 = ((k + j : Nat) : Int) := by omega
    rw [e1] at q' ⊢
    refine he j (by omega) h2 hx Q' ?_
    dsimp only at q'
    rw [Int.toNat_natCast, show k + j - k = j by omega] at q'; exact q'
  · have : ((rangeL k 1 (n - k)).map AV.int).map (fun v => match v with | .int x => g (x.toNat - k) | _ => .none) = (List.range (n - k)).map g := by
      unfold rangeL
      rw [List.map_map, List.map_map]
      refine List.map_congr_left fun j hj => ?_
      show g (((k : Int) + (j : Int) * 1).toNat - k) = g j
      rw [show ((k : Int) + (j : Int) * 1).toNat - k = j by omega]
    rw [this]; exact hQ D hB hD

/-- a comprehension over a list whose element changes nothing -/
theorem comp_listV {B a : Addr} {xs : List AV} {loc : Loc} {h : AH} {i j : Nat} {e : ET} {Q : AV → AH → Prop} {g : AV → AV} (hj : loc j = some (.ref a)) (ha : h a = some (.list xs)) (hl : xs.length ≤ 2 ^ 19)
    (he : ∀ v, v ∈ xs → ∀ h2 : AH, Ext h h2 → ∀ Q' : AV → AH → Prop, Q' (g v) h2 → e (upd loc i v) h2 Q')
    (hQ : ∀ D, B ≤ D → h D = none → Q (.ref D) (upd h D (.list (xs.map g)))) : T.comp B (T.itL (T.var j)) i T.yes e loc h Q :=
  i_comp (i_itL hj ha (comp_map (items_list ha) hl he hQ))

theorem take_ints (xs : List Int) (n : Nat) : (xs.map AV.int).take n = (xs.take n).map AV.int := List.map_take.symm
theorem drop_ints (xs : List Int) (n : Nat) : (xs.map AV.int).drop n = (xs.drop n).map AV.int := List.map_drop.symm

/-- the numbers -/
theorem nums_ok {B a gM : Addr} {h : AH} {ns : List Int} {K : Nat} {loc : Loc} {Q : Fl → Loc → AH → Prop} {rest : ST} (ha : h a = some (.list (ns.map AV.int))) (hM : h gM = some (.list (moreL.map AV.int))) (hlen : ns.length ≤ 63)
    (hK : 4 ≤ K) (hb : ∀ x ∈ ns, x.natAbs < 2 ^ K) (l0 : loc 0 = some (.ref a))
    (q : ∀ (loc' : Loc) (h' : AH) (nums : List Int) (n : Nat) (D : Addr), Ext h h' → 1 ≤ n → n ≤ 6 → nums.length = 4 * n → (∀ x ∈ nums, x.natAbs < 2 ^ K) → loc' 2 = some (.int (n : Nat)) → loc' 3 = some (.ref D) → h' D = some (.list (nums.map AV.int)) → rest loc' h' Q) :
    T.seq (T.asg 1 (T.ifx (T.truL (T.var 0)) (T.call (T.econs (T.idx (T.var 0) (T.int 0)) T.enil) F.abs) (T.int 3)))
  (T.seq (T.asg 2 (T.bin P.add (T.int 1) (T.bin P.fmod (T.var 1) (T.int 6))))
  (T.seq (T.asg 3 (T.slice B (T.bin (P.addL B) (T.call (T.econs (T.slice B (T.var 0) (some (T.int 1)) none) T.enil) (F.listOf B)) (T.glob (.ref gM))) none (some (T.bin P.mul (T.int 4) (T.var 2)))))
  (T.seq (T.ife (T.cmp P.eqI (T.bin P.fmod (T.bin P.fdiv (T.var 1) (T.int 6)) (T.int 2)) (T.int 1))
   (T.asg 3 (T.comp B (T.itL (T.var 3)) 16 T.yes (T.bin P.fmod (T.var 16) (T.int 7))))
   T.skip) rest))) loc h Q := by
  have hml : moreL.length = 24 := rfl
  have hmb : ∀ x ∈ moreL, x.natAbs < 2 ^ K := fun x hx => by
    have h16 : 2 ^ 4 ≤ 2 ^ K := Nat.pow_le_pow_right (by decide) hK
    have : ∀ y ∈ moreL, y.natAbs < 16 := by decide
    exact Nat.lt_of_lt_of_le (this x hx) h16
  refine i_seq (i_asg ?_)
  have step : ∀ F1 : Nat, (T.seq (T.asg 2 (T.bin P.add (T.int 1) (T.bin P.fmod (T.var 1) (T.int 6))))
  (T.seq (T.asg 3 (T.slice B (T.bin (P.addL B) (T.call (T.econs (T.slice B (T.var 0) (some (T.int 1)) none) T.enil) (F.listOf B)) (T.glob (.ref gM))) none (some (T.bin P.mul (T.int 4) (T.var 2)))))
  (T.seq (T.ife (T.cmp P.eqI (T.bin P.fmod (T.bin P.fdiv (T.var 1) (T.int 6)) (T.int 2)) (T.int 1))
   (T.asg 3 (T.comp B (T.itL (T.var 3)) 16 T.yes (T.bin P.fmod (T.var 16) (T.int 7))))
   T.skip) rest))) (upd loc 1 (.int (F1 : Int))) h Q := by
    intro F1
    have e0 : (upd loc 1 (AV.int (F1 : Int))) 0 = some (.ref a) := (upd_ne (by decide)).trans l0
    have e1 : (upd loc 1 (AV.int (F1 : Int))) 1 = some (.int (F1 : Int)) := upd_same ..
    generalize upd loc 1 (AV.int (F1 : Int)) = loc1 at *
    refine i_seq (i_asg (i_bin (i_int (i_bin (i_var e1 (i_int ⟨_, _, rfl, rfl, by decide, ?_⟩))))))
    have hmod : ((F1 : Int)).fmod 6 = ((F1 % 6 : Nat) : Int) := by rw [Int.fmod_eq_emod_of_nonneg _ (by decide)]; omega
    rw [hmod]
    have hlt : F1 % 6 < 6 := Nat.mod_lt _ (by decide)
    refine i_add ?_
    rw [show (1 : Int) + ((F1 % 6 : Nat) : Int) = ((1 + F1 % 6 : Nat) : Int) by omega]
    generalize hn : 1 + F1 % 6 = n
    have n1 : 1 ≤ n := by omega
    have n6 : n ≤ 6 := by omega
    refine i_seq (i_asg ?_)
    refine ⟨_, (upd_ne (by decide)).trans e0, 1, rfl, a, _, rfl, ha, by rw [List.length_map]; omega, by show (0 : Int) ≤ 1; decide, trivial, fun D1 hB1 hD1 => ?_⟩
    have s1 : sliceA (ns.map AV.int) (some 1) none = (ns.drop 1).map AV.int := drop_ints ns 1
    rw [s1]
    refine i_nil ⟨D1, _, rfl, upd_same .., by rw [List.length_map, List.length_drop]; omega, fun D2 hB2 hD2 => ?_⟩
    have x2 : Ext h (upd (upd h D1 (.list ((ns.drop 1).map AV.int))) D2 (.list ((ns.drop 1).map AV.int))) := (Ext.new hD1).trans (Ext.new hD2)
    refine ⟨D2, gM, _, _, rfl, rfl, upd_same .., x2 _ _ hM, by rw [List.length_map, List.length_map, List.length_drop, hml]; omega, fun D3 hB3 hD3 => ?_⟩
    rw [← List.map_append]
    have x3 := x2.trans (Ext.new (c := .list ((ns.drop 1 ++ moreL).map AV.int)) hD3)
    refine i_bin (i_int (i_var (upd_same ..) ⟨_, _, rfl, rfl, IntMulOk.of_left (by decide), ((4 * n : Nat) : Int), by rw [show (4 : Int) * (n : Int) = ((4 * n : Nat) : Int) by omega], D3, _, rfl, upd_same .., by rw [List.length_map, List.length_append, List.length_drop, hml]; omega, trivial, Int.natCast_nonneg _, fun D4 hB4 hD4 => ?_⟩))
    have s2 : sliceA ((ns.drop 1 ++ moreL).map AV.int) none (some ((4 * n : Nat) : Int)) = ((ns.drop 1 ++ moreL).take (4 * n)).map AV.int := take_ints _ _
    rw [s2]
    have x4 := x3.trans (Ext.new (c := .list (((ns.drop 1 ++ moreL).take (4 * n)).map AV.int)) hD4)
    have nl : ((ns.drop 1 ++ moreL).take (4 * n)).length = 4 * n := by rw [List.length_take, List.length_append, List.length_drop, hml]; omega
    have nbd : ∀ x ∈ (ns.drop 1 ++ moreL).take (4 * n), x.natAbs < 2 ^ K := fun x hx => by
      rcases List.mem_append.mp (List.mem_of_mem_take hx) with h | h
      · exact hb x (List.mem_of_mem_drop h)
      · exact hmb x h
    generalize (ns.drop 1 ++ moreL).take (4 * n) = nums at *
    refine i_seq (i_ife (i_cmp (i_bin (i_bin (i_var ((upd_ne (by decide)).trans ((upd_ne (by decide)).trans e1)) (i_int ⟨_, _, rfl, rfl, by decide, PyProof.noPylong_small (by decide), i_int ⟨_, _, rfl, rfl, by decide, i_int ⟨_, _, rfl, rfl, ?_⟩⟩⟩))))))
    by_cases hc : ((((F1 : Int)).fdiv 6).fmod 2 == 1) = true
    · refine i_t hc ?_
      refine i_asg ?_
      refine comp_listV (xs := nums.map AV.int) (g := fun v => match v with | .int x => .int (x.fmod 7) | _ => .none) (upd_same ..) (upd_same ..) (by rw [List.length_map]; omega) ?_ fun D5 hB5 hD5 => ?_
      · intro v hv h2 hx Q' q'
        obtain ⟨x, hx', rfl⟩ := List.mem_map.mp hv
        exact i_bin (i_var (upd_same ..) (i_int ⟨_, _, rfl, rfl, by decide, q'⟩))
      · have : (nums.map AV.int).map (fun v => match v with | .int x => AV.int (x.fmod 7) | _ => .none) = (nums.map fun x => x.fmod 7).map AV.int := by
          rw [List.map_map, List.map_map]; rfl
        rw [this]
        refine q _ _ (nums.map fun x => x.fmod 7) n D5 (x4.trans (Ext.new hD5)) n1 n6 (by rw [List.length_map]; exact nl) (fun x hx => ?_) ?_ (upd_same ..) (upd_same ..)
        · obtain ⟨y, hy, rfl⟩ := List.mem_map.mp hx
          have h16 : 2 ^ 4 ≤ 2 ^ K := Nat.pow_le_pow_right (by decide) hK
          have h1 := Int.fmod_nonneg_of_pos y (b := 7) (by decide)
          have h2 := Int.fmod_lt_of_pos y (b := 7) (by decide)
          omega
        · exact (upd_ne (by decide)).trans ((upd_ne (by decide)).trans (upd_same ..))
    · refine i_f (by simpa using hc) (i_skip ?_)
      exact q _ _ nums n D4 x4 n1 n6 nl nbd ((upd_ne (by decide)).trans (upd_same ..)) (upd_same ..) (upd_same ..)
  refine ⟨_, l0, a, _, rfl, ha, by rw [List.length_map]; omega, ?_⟩
  cases ns with
  | nil => exact i_f rfl (i_int (step 3))
  | cons x r =>
    refine i_t rfl (i_call (i_cons (i_idx (k := 0) l0 ha (by decide) rfl (i_nil ⟨x, rfl, step _⟩))))
end Mini

/-! L2O -/
namespace Mini

theorem slice4 {nums : List Int} {k : Nat} (h : 4 * k + 4 ≤ nums.length) : ∃ a b c d, (nums.take (4 * k + 4)).drop (4 * k) = [a, b, c, d] ∧ a ∈ nums ∧ b ∈ nums ∧ c ∈ nums ∧ d ∈ nums := by
  have hl : ((nums.take (4 * k + 4)).drop (4 * k)).length = 4 := by rw [List.length_drop, List.length_take]; omega
  have hm : ∀ x ∈ (nums.take (4 * k + 4)).drop (4 * k), x ∈ nums := fun x hx => List.mem_of_mem_take (List.mem_of_mem_drop hx)
  generalize (nums.take (4 * k + 4)).drop (4 * k) = l at *
  match l, hl, hm with
  | [a, b, c, d], _, hm => exact ⟨a, b, c, d, rfl, hm a (by simp), hm b (by simp), hm c (by simp), hm d (by simp)⟩

theorem asT4 {a : Addr} {x y z u : AV} {i j k l : Nat} {loc : Loc} {h : AH} {Q : Loc → AH → Prop} (ha : h a = some (.list [x, y, z, u])) (q : Q (upd (upd (upd (upd loc i x) j y) k z) l u) h) : T.asT [i, j, k, l] (.ref a) loc h Q :=
  ⟨a, _, rfl, .inl ha, rfl, q⟩

theorem boxes_ok {B D : Addr} {h : AH} {nums : List Int} {n K : Nat} {loc : Loc} {Q : Fl → Loc → AH → Prop} {rest : ST} (n1 : 1 ≤ n) (n6 : n ≤ 6) (nl : nums.length = 4 * n) (nb : ∀ x ∈ nums, x.natAbs < 2 ^ K) (l2 : loc 2 = some (.int (n : Nat))) (l3 : loc 3 = some (.ref D)) (hD : h D = some (.list (nums.map AV.int)))
    (q : ∀ (loc' : Loc) (h' : AH) (bl : Addr) (bx : List (Addr × Box)), Ext h h' → bx.length = n → BoxesAt h' bl bx → (∀ p ∈ bx, p.2.l ≤ p.2.r ∧ p.2.b ≤ p.2.t ∧ ∀ k, (p.2.at k).natAbs < 2 ^ K) → loc' 2 = some (.int (n : Nat)) → loc' 4 = some (.ref bl) → rest loc' h' Q) :
    T.seq (T.asg 4 (T.list B T.enil))
  (T.seq (T.for_ (T.itR1 (T.econs (T.var 2) T.enil)) (T.asN 5)
   (T.seq (T.asgT [6, 7, 8, 9] (T.slice B (T.var 3) (some (T.bin P.mul (T.int 4) (T.var 5))) (some (T.bin P.add (T.bin P.mul (T.int 4) (T.var 5)) (T.int 4)))))
  (T.expr (T.meth (T.var 4) (T.econs (T.list B (T.econs (T.call (T.econs (T.var 6) (T.econs (T.var 7) T.enil)) F.min2) (T.econs (T.call (T.econs (T.var 6) (T.econs (T.var 7) T.enil)) F.max2) (T.econs (T.call (T.econs (T.var 8) (T.econs (T.var 9) T.enil)) F.min2) (T.econs (T.call (T.econs (T.var 8) (T.econs (T.var 9) T.enil)) F.max2) T.enil))))) T.enil) (F.append B))))) rest) loc h Q := by
  refine i_seq (i_asg (i_list (i_nil ⟨Nat.zero_le _, fun bl hB0 hbl => ?_⟩)))
  refine i_seq (i_itR1 (i_cons (i_var ((upd_ne (by decide)).trans l2) (i_nil ⟨(n : Int), rfl, ⟨by omega, by omega⟩, ?_⟩))))
  rw [Int.toNat_natCast]
  refine ⟨fun k loc' h' => ∃ bx : List (Addr × Box), k ≤ n ∧ bx.length = k ∧ loc' 2 = some (.int (n : Nat)) ∧ loc' 3 = some (.ref D) ∧ loc' 4 = some (.ref bl) ∧ Ext h h' ∧ BoxesAt h' bl bx ∧ ∀ p ∈ bx, p.1 ≠ bl ∧ p.2.l ≤ p.2.r ∧ p.2.b ≤ p.2.t ∧ ∀ k, (p.2.at k).natAbs < 2 ^ K, n,
    ⟨[], Nat.zero_le _, rfl, (upd_ne (by decide)).trans l2, (upd_ne (by decide)).trans l3, upd_same .., Ext.new hbl, ⟨upd_same .., fun p hp => absurd hp (List.not_mem_nil)⟩, fun p hp => absurd hp (List.not_mem_nil)⟩, ?_⟩
  rintro k loc1 h1 ⟨bx, hk, hbx, k2, k3, k4, e1, hb, hp⟩
  refine ⟨_, rfl, by rw [rangeL_len]; exact Nat.le_refl _, ?_⟩
  by_cases hkl : k < n
  · rw [rangeL_get hkl]
    have e0 : (0 : Int) + (k : Int) * 1 = (k : Int) := by omega
    rw [e0]
    dsimp only [T.asN]
    refine i_seq ?_
    refine ⟨_, (upd_ne (by decide)).trans k3, ?_⟩
    refine i_bin (i_int (i_var (upd_same ..) ⟨_, _, rfl, rfl, IntMulOk.of_left (by decide), ((4 * k : Nat) : Int), by rw [show (4 : Int) * (k : Int) = ((4 * k : Nat) : Int) by omega], ?_⟩))
    refine i_bin (i_bin (i_int (i_var (upd_same ..) ⟨_, _, rfl, rfl, IntMulOk.of_left (by decide), i_int (i_add ⟨((4 * k + 4 : Nat) : Int), by rw [show (4 : Int) * (k : Int) + 4 = ((4 * k + 4 : Nat) : Int) by omega], ?_⟩)⟩)))
    refine ⟨D, _, rfl, e1 _ _ hD, by rw [List.length_map]; omega, Int.natCast_nonneg _, Int.natCast_nonneg _, fun D1 hB1 hD1 => ?_⟩
    obtain ⟨a, b, c, d, hs, ha, hb', hc, hd⟩ := slice4 (nums := nums) (k := k) (by omega)
    have hsl : sliceA (nums.map AV.int) (some ((4 * k : Nat) : Int)) (some ((4 * k + 4 : Nat) : Int)) = [.int a, .int b, .int c, .int d] := by
      show ((nums.map AV.int).take (4 * k + 4)).drop (4 * k) = _
      rw [take_ints, drop_ints, hs]; rfl
    rw [hsl]
    refine asT4 (upd_same ..) ?_
    have x1 : Ext h1 (upd h1 D1 (.list [.int a, .int b, .int c, .int d])) := Ext.new hD1
    refine i_expr ?_
    have m4 : upd (upd (upd (upd (upd loc1 5 (.int (k : Int))) 6 (.int a)) 7 (.int b)) 8 (.int c)) 9 (.int d) 4 = some (.ref bl) := by
      rw [upd_ne (by decide), upd_ne (by decide), upd_ne (by decide), upd_ne (by decide), upd_ne (by decide)]; exact k4
    refine ⟨_, m4, ⟨bl, _, rfl, (hb.ext x1).1⟩, ?_⟩
    refine i_cons (i_list (i_cons (i_call (i_cons (i_var (v := .int a) rfl (i_cons (i_var (v := .int b) rfl (i_nil ⟨a, b, rfl, ?_⟩))))))))
    refine i_cons (i_call (i_cons (i_var (v := .int a) rfl (i_cons (i_var (v := .int b) rfl (i_nil ⟨a, b, rfl, ?_⟩))))))
    refine i_cons (i_call (i_cons (i_var (v := .int c) rfl (i_cons (i_var (v := .int d) rfl (i_nil ⟨c, d, rfl, ?_⟩))))))
    refine i_cons (i_call (i_cons (i_var (v := .int c) rfl (i_cons (i_var (v := .int d) rfl (i_nil ⟨c, d, rfl, ?_⟩))))))
    refine i_nil ⟨by show (4 : Nat) ≤ 2 ^ 20; decide, fun D2 hB2 hD2 => ?_⟩
    have x2 : Ext h1 (upd (upd h1 D1 (.list [.int a, .int b, .int c, .int d])) D2 (.list [.int (min a b), .int (max a b), .int (min c d), .int (max c d)])) := x1.trans (Ext.new hD2)
    have hDb : D2 ≠ bl := (ne_of (x1 _ _ hb.1) hD2).symm
    refine i_nil ⟨bl, _, _, rfl, x2 _ _ hb.1, hB0, by rw [List.length_map]; omega, ?_⟩
    refine ⟨bx ++ [(D2, ⟨min a b, max a b, min c d, max c d⟩)], by omega, by rw [List.length_append, hbx]; rfl, ?_, ?_, m4, (e1.trans x2).set hbl, ⟨?_, fun p hpm => ?_⟩, fun p hpm => ?_⟩
    · rw [upd_ne (by decide), upd_ne (by decide), upd_ne (by decide), upd_ne (by decide), upd_ne (by decide)]; exact k2
    · rw [upd_ne (by decide), upd_ne (by decide), upd_ne (by decide), upd_ne (by decide), upd_ne (by decide)]; exact k3
    · rw [upd_same, List.map_append]; rfl
    · rcases List.mem_append.mp hpm with hpm | hpm
      · rw [upd_ne (hp p hpm).1]; exact (hb.ext x2).2 p hpm
      · rw [List.mem_singleton.mp hpm]
        show upd _ bl _ D2 = _
        rw [upd_ne hDb]; exact upd_same ..
    · rcases List.mem_append.mp hpm with hpm | hpm
      · exact hp p hpm
      · rw [List.mem_singleton.mp hpm]
        have za := nb a ha
        have zb := nb b hb'
        have zc := nb c hc
        have zd := nb d hd
        refine ⟨hDb, by show min a b ≤ max a b; omega, by show min c d ≤ max c d; omega, fun i => ?_⟩
        generalize 2 ^ K = M at *
        match i with
        | 0 => show (min a b).natAbs < M; omega
        | 1 => show (max a b).natAbs < M; omega
        | 2 => show (min c d).natAbs < M; omega
        | (i + 3) => show (max c d).natAbs < M; omega
  · rw [rangeL_end (by omega)]
    have : k = n := by omega
    subst this
    exact q loc1 h1 bl bx e1 hbx hb (fun p hpm => (hp p hpm).2) k2 k4
end Mini

/-! L2P -/
namespace Mini

theorem ch_small : ∀ j ∈ List.range 7, ∀ k ∈ List.range 7, (ch j k).natAbs < 2 ^ 60 := by decide +kernel
theorem one_pow_abs (i : Nat) : ((-1 : Int) ^ i).natAbs = 1 := by
  induction i with
  | zero => rfl
  | succ i ih => rw [Int.pow_succ, Int.natAbs_mul, ih]; rfl
theorem small_bits {x : Int} (h : x.natAbs < 2 ^ 60) : Builtin.Int.intBits x ≤ 64 := by have := bits_le h; omega

def dueF (n : Nat) (S : Nat → Int) (k : Nat) : Int := sumN (n + 1 - k) fun i => (-1) ^ i * ch (k + i) k * S (k + i)

theorem due_ok {B sm rw_ : Addr} {rs : List Addr} {h : AH} {n : Nat} {S : Nat → Int} {loc : Loc} {Q : AV → AH → Prop} (n6 : n ≤ 6) (l2 : loc 2 = some (.int (n : Nat))) (l11 : loc 11 = some (.ref sm)) (l12 : loc 12 = some (.ref rw_))
    (hs : h sm = some (.list ((mk (n + 1) S).map AV.int))) (hrl : rs.length = n + 1) (R : RowsAt h rw_ rs)
    (q : ∀ D h', Ext h h' → h' D = some (.list ((mk (n + 1) (dueF n S)).map AV.int)) → Q (.ref D) h') :
    T.comp B (T.itR1 (T.econs (T.bin P.add (T.var 2) (T.int 1)) T.enil)) 14 T.yes (T.call (T.econs (T.comp B (T.itR2 (T.econs (T.var 14) (T.econs (T.bin P.add (T.var 2) (T.int 1)) T.enil))) 15 T.yes (T.bin P.mul (T.bin P.mul (T.bin P.pow (T.neg (T.int 1)) (T.bin P.sub (T.var 15) (T.var 14))) (T.idx (T.idx (T.var 12) (T.var 15)) (T.var 14))) (T.idx (T.var 11) (T.var 15)))) T.enil) F.sum) loc h Q := by
  refine comp_rangeE (n := n + 1) (g := fun k => .int (dueF n S k)) (by omega) (fun Q' q' => i_cons (i_bin (i_var l2 (i_int (i_add (i_nil q')))))) ?_ fun D h' hB hD e hd => ?_
  · intro k hk h2 e2 Q' q'
    refine i_call (i_cons ?_)
    refine comp_range2 (k := k) (n := n + 1) (g := fun i => .int ((-1) ^ i * ch (k + i) k * S (k + i))) (by omega) (by omega) (fun Q'' q'' => i_cons (i_var (upd_same ..) (i_cons (i_bin (i_var ((upd_ne (by decide)).trans l2) (i_int (i_add (i_nil q''))))))) ) ?_ fun D1 hB1 hD1 => ?_
    · intro i hi h3 e3 Q'' q''
      have R3 := R.ext (e2.trans e3)
      have m12 : upd (upd loc 14 (.int (k : Int))) 15 (.int ((k + i : Nat) : Int)) 12 = some (.ref rw_) := by rw [upd_ne (by decide), upd_ne (by decide)]; exact l12
      have m11 : upd (upd loc 14 (.int (k : Int))) 15 (.int ((k + i : Nat) : Int)) 11 = some (.ref sm) := by rw [upd_ne (by decide), upd_ne (by decide)]; exact l11
      have m14 : upd (upd loc 14 (.int (k : Int))) 15 (.int ((k + i : Nat) : Int)) 14 = some (.int (k : Int)) := by rw [upd_ne (by decide)]; exact upd_same ..
      have m15 : upd (upd loc 14 (.int (k : Int))) 15 (.int ((k + i : Nat) : Int)) 15 = some (.int ((k + i : Nat) : Int)) := upd_same ..
      generalize upd (upd loc 14 (AV.int (k : Int))) 15 (AV.int ((k + i : Nat) : Int)) = loc2 at *
      refine i_bin (i_bin (i_bin ⟨1, rfl, i_bin (i_var m15 (i_var m14 (i_sub ⟨_, _, rfl, rfl, by omega, ?_, ?_⟩)))⟩))
      · have : Builtin.Int.intBits (-1) = 1 := by decide
        rw [this]; omega
      · rw [show (((k + i : Nat) : Int) - (k : Int)).toNat = i by omega]
        have c60 := ch_small (k + i) (List.mem_range.mpr (by omega)) k (List.mem_range.mpr (by omega))
        have p1 := one_pow_abs i
        refine row_idx (j := k + i) (k := k) R3 m12 (by omega) (by omega) (by omega) (fun Q3 q3 => i_var m15 q3) (fun Q3 q3 => i_var m14 q3) ⟨_, _, rfl, rfl, ?_, ?_⟩
        · exact IntMulOk.of_left (small_bits (by show ((-1 : Int) ^ i).natAbs < 2 ^ 60; rw [p1]; decide))
        · refine ⟨_, m11, _, m15, sm, _, _, _, rfl, rfl, (e2.trans e3) _ _ hs, by omega, by omega, by rw [Int.toNat_natCast]; exact getMk (by omega), ?_⟩
          refine ⟨_, _, rfl, rfl, IntMulOk.of_left (small_bits ?_), q''⟩
          show ((-1 : Int) ^ i * ch (k + i) k).natAbs < 2 ^ 60
          rw [Int.natAbs_mul, p1, Nat.one_mul]; exact c60
    · have hl : (List.range (n + 1 - k)).map (fun i => AV.int ((-1) ^ i * ch (k + i) k * S (k + i))) = (mk (n + 1 - k) fun i => (-1) ^ i * ch (k + i) k * S (k + i)).map AV.int := by
        unfold mk; rw [List.map_map]; rfl
      rw [hl]
      refine i_nil ⟨D1, _, rfl, upd_same .., ?_⟩
      rw [mk_sum]
      exact q' _ (Ext.new hD1)
  · refine q D h' e ?_
    rw [hd]; unfold mk; rw [List.map_map]; rfl

theorem law_spec {B a gM : Addr} {h : AH} {ns : List Int} {K : Nat} {Q : AV → AH → Prop} (ha : h a = some (.list (ns.map AV.int))) (hM : h gM = some (.list (moreL.map AV.int))) (hlen : ns.length ≤ 63)
    (hK : 4 ≤ K) (hK2 : K + 1 ≤ 2000000) (hb : ∀ x ∈ ns, x.natAbs < 2 ^ K) (q : ∀ h', Ext h h' → Q (.bool true) h') : f_law B gM [.ref a] h Q := by
  refine ⟨rfl, ?_⟩
  show t_law B gM _ _ _
  unfold t_law
  refine nums_ok ha hM hlen hK hb rfl fun loc1 h1 nums n D e1 n1 n6 nl nbd k2 k3 hD => ?_
  refine boxes_ok n1 n6 nl nbd k2 k3 hD fun loc2 h2 bl bx e2 hbx hbl hp m2 m4 => ?_
  subst hbx
  refine i_seq (i_asg (i_call (i_cons (i_var m4 (i_nil ?_)))))
  refine sweep_spec hbl n1 (by omega) (fun p hpm => (hp p hpm).1) hK2 (fun p hpm => (hp p hpm).2.2) fun X Y hX hY mX mY tm h3 e3 ht => ?_
  refine i_seq (i_asg (i_call (i_cons (i_var ((upd_ne (by decide)).trans m4) (i_nil ?_)))))
  refine common_spec (hbl.ext e3) n1 n6 hK2 (fun p hpm => (hp p hpm).2.2) fun aL aR aB aT AA sm h4 e4 hs => ?_
  refine i_seq (i_asg (i_call (i_cons (i_var ((upd_ne (by decide)).trans ((upd_ne (by decide)).trans m2)) (i_nil ?_)))))
  refine choose_spec (by omega) fun rm rs h5 e5 hrl R => ?_
  refine i_seq (i_asg ?_)
  refine due_ok (S := commonF bx aL aR aB aT (2 ^ bx.length)) n6 ((upd_ne (by decide)).trans ((upd_ne (by decide)).trans ((upd_ne (by decide)).trans m2))) ((upd_ne (by decide)).trans (upd_same ..)) (upd_same ..) (e5 _ _ hs) hrl R fun dm h6 e6 hd => ?_
  refine i_ret ?_
  refine i_cmp (i_var (v := .ref tm) ((upd_ne (by decide)).trans ((upd_ne (by decide)).trans ((upd_ne (by decide)).trans (upd_same ..)))) (i_var (upd_same ..) ⟨tm, dm, _, _, rfl, rfl, e6 _ _ (e5 _ _ (e4 _ _ ht)), hd, ?_⟩))
  have heq : mk (bx.length + 1) (fun k => toldF X Y bx (X.length - 1) k) = mk (bx.length + 1) (dueF bx.length (commonF bx aL aR aB aT (2 ^ bx.length))) :=
    mk_congr fun k hk => sweep_is_due n6 AA hX hY mX mY (fun p hpm => (hp p hpm).1) (fun p hpm => (hp p hpm).2.1) (by omega)
  rw [decide_eq_true heq]
  exact q _ ((((e1.trans e2).trans e3).trans e4).trans (e5.trans e6))
end Mini

namespace Mini
set_option maxRecDepth 100000 in
set_option maxHeartbeats 8000000 in
open_top hd for PySem.Challenge.rw_ec5002_02
end Mini
/-! L2Q -/
namespace Mini
open PySem.Challenge

noncomputable abbrev K2 (P : Params) : Frag := Mini.hd.heap_39 P
theorem in_bis (P : Params) : FnIn (K2 P) 23 (fdOf (K2 P) 23) (bodyAt pw_ec5002_02 1) (scopeAt pw_ec5002_02 1) := ⟨⟨_, _, _, rfl⟩, rfl, rfl, rfl, rfl, rfl, rfl⟩
theorem in_marks (P : Params) : FnIn (K2 P) 31 (fdOf (K2 P) 31) (bodyAt pw_ec5002_02 4) (scopeAt pw_ec5002_02 4) := ⟨⟨_, _, _, rfl⟩, rfl, rfl, rfl, rfl, rfl, rfl⟩
theorem in_sweep (P : Params) : FnIn (K2 P) 36 (fdOf (K2 P) 36) (bodyAt pw_ec5002_02 5) (scopeAt pw_ec5002_02 5) := ⟨⟨_, _, _, rfl⟩, rfl, rfl, rfl, rfl, rfl, rfl⟩
theorem in_common (P : Params) : FnIn (K2 P) 41 (fdOf (K2 P) 41) (bodyAt pw_ec5002_02 6) (scopeAt pw_ec5002_02 6) := ⟨⟨_, _, _, rfl⟩, rfl, rfl, rfl, rfl, rfl, rfl⟩
theorem in_choose (P : Params) : FnIn (K2 P) 46 (fdOf (K2 P) 46) (bodyAt pw_ec5002_02 7) (scopeAt pw_ec5002_02 7) := ⟨⟨_, _, _, rfl⟩, rfl, rfl, rfl, rfl, rfl, rfl⟩
theorem in_law (P : Params) : FnIn (K2 P) 51 (fdOf (K2 P) 51) (bodyAt pw_ec5002_02 8) (scopeAt pw_ec5002_02 8) := ⟨⟨_, _, _, rfl⟩, rfl, rfl, rfl, rfl, rfl, rfl⟩
theorem pk_bis (P : Params) (a b : Value) (S : Setting) : peek (K2 P) S (bindArgs (fdOf (K2 P) 23) ⟨[a, b], []⟩) = some (n_bis.zip [a, b, .int 0 189, .none, .none]) := rfl
theorem pk_marks (P : Params) (a : Value) (S : Setting) : peek (K2 P) S (bindArgs (fdOf (K2 P) 31) ⟨[a], []⟩) = some (n_marks.zip [a]) := rfl
theorem pk_sweep (P : Params) (a : Value) (S : Setting) : peek (K2 P) S (bindArgs (fdOf (K2 P) 36) ⟨[a], []⟩) = some (n_sweep.zip [a]) := rfl
theorem pk_common (P : Params) (a : Value) (S : Setting) : peek (K2 P) S (bindArgs (fdOf (K2 P) 41) ⟨[a], []⟩) = some (n_common.zip [a]) := rfl
theorem pk_choose (P : Params) (a : Value) (S : Setting) : peek (K2 P) S (bindArgs (fdOf (K2 P) 46) ⟨[a], []⟩) = some (n_choose.zip [a]) := rfl
theorem pk_law (P : Params) (a : Value) (S : Setting) : peek (K2 P) S (bindArgs (fdOf (K2 P) 51) ⟨[a], []⟩) = some (n_law.zip [a]) := rfl
theorem more_at (P : Params) : ∃ vs, (K2 P).lookup 24 = some ⟨.type "list", none, .seq vs 0, #[]⟩ ∧ vs.toList.map er = moreL.map AV.int := ⟨_, rfl, rfl⟩
end Mini

/-! L2R -/
namespace Mini
open PySem.Challenge

theorem fo_one {W : Wd} (ok : WdOk W) {K : Frag} (X : K.In W.h₀) {n : Nat} {f : Addr} {fd : FuncData} {body : List Stmt} {sc : Scope} {v : List (Nat × Str)} {x : Str} {t : ST} (F : FnIn K f fd body sc) (hb : BkOk W n sc (vmOf v) body t)
    (pk : ∀ (a : Value) (S : Setting), peek K S (bindArgs fd ⟨[a], []⟩) = some ([x].zip [a])) (hvm : (v.all fun p => match [x][p.1]? with | some y => p.2 == y | none => true) = true)
    (hkind : sc.names.lookup x = some .local ∨ sc.names.lookup x = some .cell) (knd : sc.kind = .function) (cor : sc.isCoroutine = false) (gen : sc.isGenerator = false) :
    FOk W (n + 1) (.ref f) (fun avs h Q => avs.length = 1 ∧ fnT (fun avs => avs) t avs h Q) := by
  refine fn_ok ok (names := [x]) (vfill := fun vs => vs) (F.at X knd cor gen) (by rw [F.scp]; exact hb) (vm_names hvm) (by simp) (fun y hy => by rw [F.scp, List.mem_singleton.mp hy]; exact hkind) ?_ (fun vs h => h) (fun _ _ => rfl)
  intro s vs hl k
  match vs, hl with
  | [a], _ => exact binds_peek X (pk a) s k

theorem plain_of_well {P : Params} {h : Heap} {a : Addr} {xs : List WData} (w : Well P h (.ref a) (.list xs)) {vs : List Value} (hl : h.IsList a vs.toArray) : h.PlainList a vs.toArray := by
  cases w with
  | list ho _ =>
    obtain ⟨o, h1, h2, n, h3⟩ := hl
    rw [ho] at h1; cases h1
    cases h3
    exact ⟨_, ho⟩
theorem er_ints {vs : List Value} {ns : List Int} (h : IntsAre vs ns) : vs.map er = ns.map AV.int := by
  induction h with
  | nil => rfl
  | cons n t _ ih => rw [List.map_cons, List.map_cons, ih]; rfl
theorem size_int {ns : List Int} (h : (PyData.list (ns.map PyData.int)).layable0 = true) : ∃ K, 4 ≤ K ∧ K + 1 ≤ 2000000 ∧ ∀ x ∈ ns, x.natAbs < 2 ^ K := by
  refine ⟨1048576, by decide, by decide, fun x hx => ?_⟩
  have h1 := PyData.weight_item_of_list h (List.mem_map_of_mem hx)
  generalize hK : 1048576 = K
  have h1 : PyData.weight (PyData.int x) ≤ K := by rw [← hK]; exact h1
  unfold PyData.weight at h1
  by_cases h0 : x = 0
  · subst h0; exact Nat.pow_pos (by decide)
  · rw [if_neg (by simpa using h0)] at h1
    exact (Nat.log2_lt (by omega)).mp (by omega)

section
variable {w : World} {h₀ : Heap} {p : Program} {loose : List Str} {mean : ExcName → Option Value} {mg mb : Str → Option Value}

abbrev W2 (w : World) (h₀ : Heap) : Wd := ⟨pw_ec5002_02, w, h₀, h₀.objs.size⟩
theorem W2_ok (T : Top p loose mean mg mb h₀) : WdOk (W2 w h₀) := ⟨fun b o e => Heap.lt_size e, T.nolimit⟩

theorem fo_bis (X : (K2 w.params).In h₀) (T : Top p loose mean mg mb h₀) (n : Nat) : FOk (W2 w h₀) (n + 1) (.ref 23) (f_bis2 (W2 w h₀).B) := by
  refine fn_ok (W2_ok T) (names := n_bis) (vfill := fun vs => vs ++ [.int 0 189, .none, .none]) (FnIn.at (in_bis w.params) X rfl rfl rfl) (bk_bis (W2_ok T) (n := n) (glob_blt X T (x := "len") rfl rfl (by decide))) (vm_names (by decide +kernel)) (by decide +kernel) ?_ ?_ ?_ ?_
  · intro y hy
    have : ∀ y ∈ n_bis, (scopeAt pw_ec5002_02 1).names.lookup y = some .local ∨ (scopeAt pw_ec5002_02 1).names.lookup y = some .cell := by decide +kernel
    exact this y hy
  · intro s vs hl k
    match vs, hl with
    | [a, b], _ => exact binds_peek X (pk_bis w.params a b) s k
  · intro vs hl; rw [List.length_append, hl]; rfl
  · intro vs hl; rw [List.map_append]; rfl

theorem k_names {sc : Scope} {x : Str} (h : (sc.names.lookup x == some .local || sc.names.lookup x == some .cell) = true) : sc.names.lookup x = some .local ∨ sc.names.lookup x = some .cell := by
  rcases Bool.or_eq_true_iff.mp h with h | h
  · exact .inl (beq_iff_eq.mp h)
  · exact .inr (beq_iff_eq.mp h)

theorem fo_marks (X : (K2 w.params).In h₀) (T : Top p loose mean mg mb h₀) (n : Nat) : FOk (W2 w h₀) (n + 2) (.ref 31) (f_marks (W2 w h₀).B) :=
  fo_one (W2_ok T) (n := n + 1) X (in_marks w.params) (bk_marks (W2_ok T) (FnIn.def (in_bis w.params) X T rfl) (fo_bis X T n) (glob_blt X T (x := "len") rfl rfl (by decide))) (pk_marks w.params) (by decide +kernel) (k_names (by decide +kernel)) rfl rfl rfl
theorem fo_sweep (X : (K2 w.params).In h₀) (T : Top p loose mean mg mb h₀) (n : Nat) : FOk (W2 w h₀) (n + 3) (.ref 36) (f_sweep (W2 w h₀).B) :=
  fo_one (W2_ok T) (n := n + 2) X (in_sweep w.params) (bk_sweep (W2_ok T) (d_marks := FnIn.def (in_marks w.params) X T rfl) (h_marks := fo_marks X T n) (d_bis := FnIn.def (in_bis w.params) X T rfl) (h_bis2 := fo_bis X T (n + 1)) (g_range := glob_blt X T (x := "range") rfl rfl (by decide)) (g_len := glob_blt X T (x := "len") rfl rfl (by decide))) (pk_sweep w.params) (by decide +kernel) (k_names (by decide +kernel)) rfl rfl rfl
theorem fo_common (X : (K2 w.params).In h₀) (T : Top p loose mean mg mb h₀) (n : Nat) : FOk (W2 w h₀) (n + 1) (.ref 41) (f_common (W2 w h₀).B) :=
  fo_one (W2_ok T) (n := n) X (in_common w.params) (bk_common (W2_ok T) (g_min := glob_blt X T (x := "min") rfl rfl (by decide)) (g_max := glob_blt X T (x := "max") rfl rfl (by decide)) (g_range := glob_blt X T (x := "range") rfl rfl (by decide)) (g_len := glob_blt X T (x := "len") rfl rfl (by decide))) (pk_common w.params) (by decide +kernel) (k_names (by decide +kernel)) rfl rfl rfl
theorem fo_choose (X : (K2 w.params).In h₀) (T : Top p loose mean mg mb h₀) (n : Nat) : FOk (W2 w h₀) (n + 1) (.ref 46) (f_choose (W2 w h₀).B) :=
  fo_one (W2_ok T) (n := n) X (in_choose w.params) (bk_choose (W2_ok T) (g_range := glob_blt X T (x := "range") rfl rfl (by decide))) (pk_choose w.params) (by decide +kernel) (k_names (by decide +kernel)) rfl rfl rfl

theorem law2_ok (X : (K2 w.params).In h₀) (T : Top p loose mean mg mb h₀) {a : Addr} {vs : List Value} {ns : List Int} {s : Shared} (hs : s.heap = h₀) (hl : h₀.PlainList a vs.toArray) (hv : vs.map er = ns.map AV.int) (hlen : ns.length ≤ 63)
    (hlay : (PyData.list (ns.map PyData.int)).layable0 = true) {R : Result → Shared → Prop} (q : ∀ s' : Shared, (∀ b o, s.heap.get? b = some o → s'.heap.get? b = some o) → s'.os = s.os → s'.gens = s.gens → R (.ok (.ret (.bool true))) s') :
    codeAny (model pw_ec5002_02 w) callerA (.call (.ref 51) ⟨[.ref a], []⟩) R s := by
  subst hs
  obtain ⟨K, k1, k2, k3⟩ := size_int hlay
  obtain ⟨ms, hm, he⟩ := more_at w.params
  have ok := W2_ok (w := w) T
  have hb := bk_law ok (n := 5) (g_range := glob_blt X T (x := "range") rfl rfl (by decide)) (d_sweep := FnIn.def (in_sweep w.params) X T rfl) (h_sweep := fo_sweep X T 2) (d_common := FnIn.def (in_common w.params) X T rfl) (h_common := fo_common X T 4)
    (d_choose := FnIn.def (in_choose w.params) X T rfl) (h_choose := fo_choose X T 4) (g_abs := glob_blt X T (x := "abs") rfl rfl (by decide)) (g_MORE := glob_def X T (x := "_law_MORE") (v := .ref 24) rfl) (g_sum := glob_blt X T (x := "sum") rfl rfl (by decide))
    (g_list := glob_blt X T (x := "list") rfl rfl (by decide)) (g_min := glob_blt X T (x := "min") rfl rfl (by decide)) (g_max := glob_blt X T (x := "max") rfl rfl (by decide))
  have hmore : s.heap.PlainList 24 ms := ⟨0, X _ _ hm⟩
  have hcells : ∀ (b : Addr) c, upd (upd (fun _ => none) a (.list (ns.map AV.int))) 24 (.list (moreL.map AV.int)) b = some c → CellAt (W2 w s.heap) s.heap b c := fun b c e => by
    by_cases h24 : b = 24
    · subst h24; rw [upd_same] at e; cases e
      exact ⟨ms, hmore, he⟩
    · rw [upd_ne h24] at e
      by_cases hba : b = a
      · subst hba; rw [upd_same] at e; cases e
        exact ⟨_, hl, hv⟩
      · rw [upd_ne hba] at e; cases e
  have ha : upd (upd (fun _ => none) a (.list (ns.map AV.int))) (24 : Nat) (.list (moreL.map AV.int)) a = some (Cell.list (ns.map AV.int)) := by
    by_cases h24 : a = (24 : Nat)
    · subst h24
      rw [upd_same]
      obtain ⟨n1, o1⟩ := hl
      have o2 := X _ _ hm
      rw [o1] at o2
      have : vs.toArray = ms := by injection o2 with o2; injection o2 with _ _ o2; injection o2
      rw [← this] at he
      have he' : vs.map er = moreL.map AV.int := he
      rw [← he', hv]
    · rw [upd_ne h24, upd_same]
  refine codeAny_mono (fn_top ok (n := 5) (FnIn.at (in_law w.params) X rfl rfl rfl) (names := n_law) (vals := [.ref a]) (E := fun _ _ => False) hb (vm_names (by decide +kernel)) (by decide +kernel) ?_ ⟨rfl, by decide +kernel, by decide +kernel⟩ hcells (fun _ _ e => e) (Nat.le_refl _) (binds_peek X (pk_law w.params (.ref a))) rfl
    (Q := fun v _ => v = .bool true) (law_spec (Q := fun v _ => v = .bool true) ha (upd_same ..) hlen k1 k2 k3 fun _ _ => rfl).2) ?_
  · intro y hy
    have : ∀ y ∈ n_law, (scopeAt pw_ec5002_02 8).names.lookup y = some .local ∨ (scopeAt pw_ec5002_02 8).names.lookup y = some .cell := by decide +kernel
    exact this y hy
  · intro r s' g
    match r, g with
    | .ok (.ret v), ⟨h', hp, tk, e, S, hq⟩ =>
      subst e
      rw [er_bool hq]
      exact q _ (fun b o eb => S.keep b o eb (.inr (.inl (Heap.lt_size eb)))) rfl rfl
end
end Mini

/-! L2S -/
namespace Mini
theorem ofPy_list (xs : List PyData) : ofPy (.list xs) = .list (ofPys xs) := by simp only [ofPy]
theorem post_t (x : List WData) : PySem.Challenge.rw_ec5002_02.row.claim.post x (WData.bool true) x = true :=
  postW_of (X := true) (by simp [OpenLaw.row, WShape.has, WShape.arms]) ((w_eq_bool (k := true) (l := true) (w_res rfl) w_lit).trans rfl) rfl
end Mini
set_option maxRecDepth 100000 in
set_option maxHeartbeats 8000000 in
theorem PySem.Challenge.cw_ec5002_02_holds : PySem.Challenge.rw_ec5002_02.Holds := by
  refine Mini.hd ?_
  k_fill
  intro w s₀ s₁ mg mb G Y fa o pm cd doc dV kV ho hd hcd hD hmg hg args vals as hpre hlay hrd hwl hlo
  have KX := kIn_of Y
  refine Ground.open G ?_
  intro T B D TE TW
  wrow_args hpre hlay hrd hwl hlo
  refine enter_call ?_
  refine codeAny_mono ?_ (fun _ _ g => GoodW.toG g)
  rename_i ns hs1 hlay0 hL hr2 hl2 w4 w3 a vs w0 hList ra w1 r0 hI hr1 hc1 hc2
  have hfa : some (Value.ref 51) = some (Value.ref fa) := (mg_of KX T.g (n := "law") rfl).symm.trans hmg
  cases hfa
  rw [Mini.ofPy_list] at w1
  exact Mini.law2_ok KX T rfl (Mini.plain_of_well w1 hList) (Mini.er_ints hI) (by omega) hL (fun s' k e1 e2 => ⟨.inl ⟨_, .bool true, [], rfl, fun _ => rfl, ReadsW.bool true, Mini.post_t _, fun _ => ⟨List.nodup_nil, fun a ha => absurd ha List.not_mem_nil⟩⟩, k, e1, e2.trans hg⟩)
