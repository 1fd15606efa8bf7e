import PyProof.Rows.All
import Wide.All
import OpenK.AllK
import Wide.FinOn
import KE.KSortTup
import PySem.Challenge.RW_fc0126_01
set_option Elab.async false
set_option autoImplicit false
set_option linter.all false
set_option maxRecDepth 100000
set_option maxHeartbeats 0
open PySem PySem.W PyProof.Rows
open_top Mine.hd for PySem.Challenge.rw_fc0126_01
namespace Mine
open PySem PySem.W PySem.Calls PyProof.Rows

abbrev Rgn := Addr → Prop

/-- how much room is left around a tree -/
structure AOk (A : Around) (n : Nat) : Prop where
  handled : A.handled = none
  depth : A.depth + 10 * n ≤ 900
  units : A.units + 100 * n ≤ 9000

theorem AOk.mono {A : Around} {n m : Nat} (h : AOk A n) (hm : m ≤ n) : AOk A m :=
  ⟨h.handled, by have := h.depth; omega, by have := h.units; omega⟩
theorem AOk.in1 {A : Around} {n : Nat} (h : AOk A (n + 1)) : AOk A.in1 n :=
  ⟨h.handled, by have := h.depth; simp only [Around.in1_depth]; omega, by have := h.units; simp only [Around.in1_units]; omega⟩
theorem AOk.deeper {A : Around} {n : Nat} (h : AOk A (n + 1)) (env : Env) : AOk (A.deeper env) n :=
  ⟨h.handled, by have := h.depth; show A.depth + 1 + 10 * n ≤ 900; omega, by have := h.units; show A.units + 3 + 100 * n ≤ 9000; omega⟩
theorem AOk.room {A : Around} {n : Nat} (h : AOk A n) : A.depth < recursionLimit := by
  have := h.depth; unfold recursionLimit; omega
theorem AOk.unit {A : Around} {n : Nat} (h : AOk A n) : A.units + 64 < cLine := by
  have := h.units; unfold cLine; omega
theorem AOk.unit' {A : Around} {n : Nat} (h : AOk A n) : A.units < cLine := by
  have := h.units; unfold cLine; omega
theorem aok_caller : AOk callerA 50 := ⟨rfl, by decide, by decide⟩

/-- from s to s' only what W holds has changed; generators made meanwhile are at their end -/
structure Step (W : Rgn) (s s' : Shared) : Prop where
  keep : ∀ a o, ¬ W a → s.heap.get? a = some o → s'.heap.get? a = some o
  os : s'.os = s.os
  gkeep : ∀ (i : Nat) (x : GenState), s.gens[i]? = some x → s'.gens[i]? = some x
  gnew : ∀ (i : Nat) (x : GenState), s'.gens[i]? = some x → s.gens[i]? = some x ∨ x = .finished

theorem none_of_keep {h h' : Heap} {x : Addr} (hk : ∀ o, h.get? x = some o → h'.get? x = some o) (e : h'.get? x = none) : h.get? x = none := by
  cases q : h.get? x with
  | none => rfl
  | some o => rw [hk o q] at e; cases e
theorem get?_none_of_le {h : Heap} {a : Addr} (e : h.objs.size ≤ a) : h.get? a = none := by
  cases q : h.get? a with
  | none => rfl
  | some o => exact absurd (Heap.lt_size q) (Nat.not_lt.mpr e)
theorem get?_size (h : Heap) : h.get? h.objs.size = none := get?_none_of_le (Nat.le_refl _)

abbrev None : Rgn := fun _ => False

theorem Step.refl (W : Rgn) (s : Shared) : Step W s s := ⟨fun _ _ _ e => e, rfl, fun _ _ e => e, fun _ _ e => .inl e⟩
theorem Step.trans {W : Rgn} {s₁ s₂ s₃ : Shared} (x : Step W s₁ s₂) (y : Step W s₂ s₃) : Step W s₁ s₃ :=
  ⟨fun a o h e => y.keep a o h (x.keep a o h e), y.os.trans x.os, fun i g e => y.gkeep i g (x.gkeep i g e),
   fun i g e => (y.gnew i g e).elim (fun e' => x.gnew i g e') .inr⟩
theorem Step.mono {W W' : Rgn} {s s' : Shared} (x : Step W s s') (h : ∀ a, W a → W' a) : Step W' s s' :=
  ⟨fun a o n e => x.keep a o (fun w => n (h a w)) e, x.os, x.gkeep, x.gnew⟩
/-- what lies above the old heap is nobody's -/
theorem Step.old {W W' : Rgn} {s s' : Shared} (x : Step W s s') (h : ∀ a, W a → W' a ∨ s.heap.get? a = none) : Step W' s s' :=
  ⟨fun a o n e => x.keep a o (fun w => by rcases h a w with h | h; exact n h; rw [h] at e; cases e) e, x.os, x.gkeep, x.gnew⟩
theorem Step.all {s s' : Shared} (x : Step None s s') (W : Rgn) : Step W s s' := x.mono fun _ h => h.elim
theorem Step.kp {s s' : Shared} (x : Step None s s') : ∀ a o, s.heap.get? a = some o → s'.heap.get? a = some o := fun a o e => x.keep a o (fun h => h) e

theorem Step.heap {W : Rgn} {s : Shared} {h' : Heap} {t : Nat} (hk : ∀ a o, ¬ W a → s.heap.get? a = some o → h'.get? a = some o) :
    Step W s { s with heap := h', toks := t } := ⟨hk, rfl, fun _ _ e => e, fun _ _ e => .inl e⟩
theorem Step.toks {W : Rgn} {s : Shared} {t : Nat} : Step W s { s with toks := t } := ⟨fun _ _ _ e => e, rfl, fun _ _ e => e, fun _ _ e => .inl e⟩
theorem Step.push {W : Rgn} {s : Shared} (o : Obj) {t : Nat} : Step W s { s with heap := s.heap.push o, toks := t } :=
  Step.heap fun _ _ _ e => Heap.get?_push_of_some _ e
theorem Step.same {W : Rgn} {s : Shared} {h' : Heap} {t : Nat} {a : Addr} (hs : Heap.SameBut a s.heap h') (ha : W a) : Step W s { s with heap := h', toks := t } :=
  Step.heap fun b o n e => (hs.2 b (fun q => n (q ▸ ha))).trans e

/-- immutable data -/
inductive PV where
  | none
  | bool (b : Bool)
  | int (i : Int)
  | str (s : Str)
  | ptr (a : Addr)
  | seq (c : Value) (l : List PV)
  | row (C : Addr) (l : List PV)
  | dict (ks ds : List PV)
  | oset (ks : List PV)

abbrev tList : Value := .type "list"
abbrev tTuple : Value := .type "tuple"
abbrev cSet : Value := .ref 101
abbrev cSym : Value := .ref 228
abbrev cOpt : Value := .ref 308
abbrev cRule : Value := .ref 388
abbrev PV.list (l : List PV) : PV := .seq tList l
abbrev PV.tup (l : List PV) : PV := .seq tTuple l
abbrev PV.sym (x : Str) (b : Bool) : PV := .row 228 [.str x, .bool b]

abbrev seqO (c : Value) (vs : Array Value) (n : Nat) : Obj := { cls := c, data := .seq vs n }
abbrev rowO (C : Addr) (od : Option Addr) (vs : Array Value) (n : Nat) : Obj := { cls := .ref C, dict := od, data := .seq vs n }
abbrev dictO (es : Array DictEntry) (n : Nat) : Obj := { cls := .type "dict", data := .dict es n }

def hashAtom (P : Params) : PV → Int
  | .str x => PyData.keyHash P x
  | .bool b => if b then 1 else 0
  | _ => 0
def hashPV (P : Params) : PV → Int
  | .seq _ l => reduceHash (Builtin.Tuple.tupleHashOf (l.map (hashAtom P)))
  | .row _ l => reduceHash (Builtin.Tuple.tupleHashOf (l.map (hashAtom P)))
  | d => hashAtom P d

mutual
def Val (P : Params) (V : Rgn) (h : Heap) : PV → Value → Prop
  | .none, v => v = .none
  | .bool b, v => v = .bool b
  | .int i, v => ∃ t, v = .int i t
  | .str x, v => ∃ t, v = .str x t
  | .ptr a, v => v = .ref a
  | .seq c l, v => ∃ a n vs, v = .ref a ∧ ¬ V a ∧ h.get? a = some (seqO c vs n) ∧ Vals P V h l vs.toList
  | .row C l, v => ∃ a n od vs, v = .ref a ∧ ¬ V a ∧ h.get? a = some (rowO C od vs n) ∧ Vals P V h l vs.toList
  | .dict ks ds, v => ∃ a n es, v = .ref a ∧ (a == sysModules) = false ∧ ¬ V a ∧ h.get? a = some (dictO es n) ∧ Vals P V h ks (es.toList.map (·.key)) ∧ Vals P V h ds (es.toList.map (·.val)) ∧ es.toList.map (·.hash) = ks.map (hashPV P)
  | .oset ks, v => ∃ a da dd n es hd kd, v = .ref a ∧ (dd == sysModules) = false ∧ ¬ V a ∧ ¬ V da ∧ ¬ V dd ∧ h.get? a = some { cls := cSet, dict := some da, data := .plain } ∧
      h.get? da = some (dictO #[⟨hd, .str (Str.ofString "d") kd, .ref dd⟩] 1) ∧ h.get? dd = some (dictO es n) ∧
      Vals P V h ks (es.toList.map (·.key)) ∧ es.toList.map (·.hash) = ks.map (hashPV P) ∧ es.toList.map (·.val) = ks.map fun _ => Value.none
def Vals (P : Params) (V : Rgn) (h : Heap) : List PV → List Value → Prop
  | [], vs => vs = []
  | d :: l, vs => ∃ v r, vs = v :: r ∧ Val P V h d v ∧ Vals P V h l r
end

section
variable {P : Params} {V V' : Rgn} {h h' : Heap}
@[simp] theorem vals_nil {vs : List Value} : Vals P V h [] vs ↔ vs = [] := by rw [Vals]
theorem vals_cons {d : PV} {l : List PV} {vs : List Value} : Vals P V h (d :: l) vs ↔ ∃ v r, vs = v :: r ∧ Val P V h d v ∧ Vals P V h l r := by rw [Vals]
@[simp] theorem vals_cons' {d : PV} {l : List PV} {v : Value} {r : List Value} : Vals P V h (d :: l) (v :: r) ↔ Val P V h d v ∧ Vals P V h l r := by
  rw [vals_cons]
  constructor
  · rintro ⟨_, _, e, a, b⟩; cases e; exact ⟨a, b⟩
  · rintro ⟨a, b⟩; exact ⟨_, _, rfl, a, b⟩
theorem val_int {i : Int} {v : Value} : Val P V h (.int i) v ↔ ∃ t, v = .int i t := by rw [Val]
theorem val_str {x : Str} {v : Value} : Val P V h (.str x) v ↔ ∃ t, v = .str x t := by rw [Val]
theorem val_bool {b : Bool} {v : Value} : Val P V h (.bool b) v ↔ v = .bool b := by rw [Val]
theorem val_none {v : Value} : Val P V h .none v ↔ v = .none := by rw [Val]
theorem val_ptr {a : Addr} {v : Value} : Val P V h (.ptr a) v ↔ v = .ref a := by rw [Val]
theorem val_seq {c : Value} {l : List PV} {v : Value} : Val P V h (.seq c l) v ↔ ∃ a n vs, v = .ref a ∧ ¬ V a ∧ h.get? a = some (seqO c vs n) ∧ Vals P V h l vs.toList := by rw [Val]
theorem val_row {C : Addr} {l : List PV} {v : Value} : Val P V h (.row C l) v ↔ ∃ a n od vs, v = .ref a ∧ ¬ V a ∧ h.get? a = some (rowO C od vs n) ∧ Vals P V h l vs.toList := by rw [Val]
theorem val_dict {ks ds : List PV} {v : Value} : Val P V h (.dict ks ds) v ↔ ∃ a n es, v = .ref a ∧ (a == sysModules) = false ∧ ¬ V a ∧ h.get? a = some (dictO es n) ∧ Vals P V h ks (es.toList.map (·.key)) ∧ Vals P V h ds (es.toList.map (·.val)) ∧ es.toList.map (·.hash) = ks.map (hashPV P) := by rw [Val]
theorem val_oset {ks : List PV} {v : Value} : Val P V h (.oset ks) v ↔ ∃ a da dd n es hd kd, v = .ref a ∧ (dd == sysModules) = false ∧ ¬ V a ∧ ¬ V da ∧ ¬ V dd ∧ h.get? a = some { cls := cSet, dict := some da, data := .plain } ∧
      h.get? da = some (dictO #[⟨hd, .str (Str.ofString "d") kd, .ref dd⟩] 1) ∧ h.get? dd = some (dictO es n) ∧
      Vals P V h ks (es.toList.map (·.key)) ∧ es.toList.map (·.hash) = ks.map (hashPV P) ∧ es.toList.map (·.val) = ks.map fun _ => Value.none := by rw [Val]

mutual
/-- data outlives whatever keeps the addresses it stands on -/
theorem Val.at (hk : ∀ a o, ¬ V a → h.get? a = some o → ¬ V' a ∧ h'.get? a = some o) : ∀ (d : PV) {v : Value}, Val P V h d v → Val P V' h' d v
  | .none, _, x => by rw [Val] at x ⊢; exact x
  | .bool _, _, x => by rw [Val] at x ⊢; exact x
  | .int _, _, x => by rw [Val] at x ⊢; exact x
  | .str _, _, x => by rw [Val] at x ⊢; exact x
  | .ptr _, _, x => by rw [Val] at x ⊢; exact x
  | .seq c l, _, x => by
    rw [Val] at x ⊢
    obtain ⟨a, n, vs, e, na, ha, hl⟩ := x
    exact ⟨a, n, vs, e, (hk a _ na ha).1, (hk a _ na ha).2, Vals.at hk l hl⟩
  | .row C l, _, x => by
    rw [Val] at x ⊢
    obtain ⟨a, n, od, vs, e, na, ha, hl⟩ := x
    exact ⟨a, n, od, vs, e, (hk a _ na ha).1, (hk a _ na ha).2, Vals.at hk l hl⟩
  | .dict ks ds, _, x => by
    rw [Val] at x ⊢
    obtain ⟨a, n, es, e, sm, na, ha, hl, hm, hh⟩ := x
    exact ⟨a, n, es, e, sm, (hk a _ na ha).1, (hk a _ na ha).2, Vals.at hk ks hl, Vals.at hk ds hm, hh⟩
  | .oset ks, _, x => by
    rw [Val] at x ⊢
    obtain ⟨a, da, dd, n, es, hd, kd, e, sm, n1, n2, n3, h1, h2, h3, hl, hh⟩ := x
    exact ⟨a, da, dd, n, es, hd, kd, e, sm, (hk _ _ n1 h1).1, (hk _ _ n2 h2).1, (hk _ _ n3 h3).1, (hk _ _ n1 h1).2, (hk _ _ n2 h2).2, (hk _ _ n3 h3).2, Vals.at hk ks hl, hh⟩
theorem Vals.at (hk : ∀ a o, ¬ V a → h.get? a = some o → ¬ V' a ∧ h'.get? a = some o) : ∀ (l : List PV) {vs : List Value}, Vals P V h l vs → Vals P V' h' l vs
  | [], _, x => by rw [Vals] at x ⊢; exact x
  | d :: l, _, x => by
    rw [Vals] at x ⊢
    obtain ⟨v, r, e, a, b⟩ := x
    exact ⟨v, r, e, Val.at hk d a, Vals.at hk l b⟩
end

theorem Val.keeps {d : PV} {v : Value} (x : Val P V h d v) (hk : ∀ a o, ¬ V a → h.get? a = some o → h'.get? a = some o) : Val P V h' d v := Val.at (fun a o n e => ⟨n, hk a o n e⟩) d x
theorem Vals.keeps {l : List PV} {vs : List Value} (x : Vals P V h l vs) (hk : ∀ a o, ¬ V a → h.get? a = some o → h'.get? a = some o) : Vals P V h' l vs := Vals.at (fun a o n e => ⟨n, hk a o n e⟩) l x
theorem Val.step {d : PV} {v : Value} {W : Rgn} {s s' : Shared} (x : Val P V s.heap d v) (st : Step W s s') (hw : ∀ a, W a → V a) : Val P V s'.heap d v := x.keeps fun a o n e => st.keep a o (fun w => n (hw a w)) e
theorem Vals.step {l : List PV} {vs : List Value} {W : Rgn} {s s' : Shared} (x : Vals P V s.heap l vs) (st : Step W s s') (hw : ∀ a, W a → V a) : Vals P V s'.heap l vs := x.keeps fun a o n e => st.keep a o (fun w => n (hw a w)) e
theorem Val.stepN {d : PV} {v : Value} {s s' : Shared} (x : Val P V s.heap d v) (st : Step None s s') : Val P V s'.heap d v := x.step st fun _ h => h.elim
theorem Vals.stepN {l : List PV} {vs : List Value} {s s' : Shared} (x : Vals P V s.heap l vs) (st : Step None s s') : Vals P V s'.heap l vs := x.step st fun _ h => h.elim
/-- a region may grow by what the heap does not hold yet -/
theorem Val.grow {d : PV} {v : Value} (x : Val P V h d v) (hw : ∀ a, V' a → V a ∨ h.get? a = none) : Val P V' h d v :=
  Val.at (fun a _ n e => ⟨fun w => (hw a w).elim n (fun q => by rw [q] at e; cases e), e⟩) d x
theorem Vals.grow {l : List PV} {vs : List Value} (x : Vals P V h l vs) (hw : ∀ a, V' a → V a ∨ h.get? a = none) : Vals P V' h l vs :=
  Vals.at (fun a _ n e => ⟨fun w => (hw a w).elim n (fun q => by rw [q] at e; cases e), e⟩) l x
theorem Val.less {d : PV} {v : Value} (x : Val P V h d v) (hw : ∀ a, V' a → V a) : Val P V' h d v := x.grow fun a w => .inl (hw a w)
theorem Vals.less {l : List PV} {vs : List Value} (x : Vals P V h l vs) (hw : ∀ a, V' a → V a) : Vals P V' h l vs := x.grow fun a w => .inl (hw a w)

theorem Vals.length : ∀ {l : List PV} {vs : List Value}, Vals P V h l vs → l.length = vs.length
  | [], _, x => by rw [Vals] at x; subst x; rfl
  | d :: l, _, x => by
    rw [Vals] at x
    obtain ⟨v, r, rfl, _, b⟩ := x
    simp [Vals.length b]
theorem Vals.append : ∀ {l l' : List PV} {vs vs' : List Value}, Vals P V h l vs → Vals P V h l' vs' → Vals P V h (l ++ l') (vs ++ vs')
  | [], _, _, _, x, y => by rw [Vals] at x; subst x; simpa using y
  | d :: l, _, _, _, x, y => by
    rw [Vals] at x
    obtain ⟨v, r, rfl, a, b⟩ := x
    rw [List.cons_append, List.cons_append, vals_cons']
    exact ⟨a, Vals.append b y⟩
theorem Vals.one {d : PV} {v : Value} (x : Val P V h d v) : Vals P V h [d] [v] := by simp [x]
theorem Vals.snoc {l : List PV} {vs : List Value} {d : PV} {v : Value} (x : Vals P V h l vs) (y : Val P V h d v) : Vals P V h (l ++ [d]) (vs ++ [v]) := x.append (Vals.one y)
theorem Vals.get : ∀ {l : List PV} {vs : List Value}, Vals P V h l vs → ∀ {i : Nat} {d : PV}, l[i]? = some d → ∃ v, vs[i]? = some v ∧ Val P V h d v
  | [], _, _, i, d, e => by simp at e
  | d :: l, _, x, i, d', e => by
    rw [Vals] at x
    obtain ⟨v, r, rfl, a, b⟩ := x
    cases i with
    | zero => simp at e; subst e; exact ⟨v, by simp, a⟩
    | succ i => simp at e; obtain ⟨u, hu, hv⟩ := Vals.get b e; exact ⟨u, by simpa using hu, hv⟩
theorem Vals.get' : ∀ {l : List PV} {vs : List Value}, Vals P V h l vs → ∀ {i : Nat} {v : Value}, vs[i]? = some v → ∃ d, l[i]? = some d ∧ Val P V h d v
  | [], _, x, i, v, e => by rw [Vals] at x; subst x; simp at e
  | d :: l, _, x, i, v', e => by
    rw [Vals] at x
    obtain ⟨v, r, rfl, a, b⟩ := x
    cases i with
    | zero => simp at e; subst e; exact ⟨d, by simp, a⟩
    | succ i => simp at e; obtain ⟨u, hu, hv⟩ := Vals.get' b e; exact ⟨u, by simpa using hu, hv⟩
theorem Vals.take : ∀ {l : List PV} {vs : List Value} (n : Nat), Vals P V h l vs → Vals P V h (l.take n) (vs.take n)
  | [], _, n, x => by rw [Vals] at x; subst x; simp
  | d :: l, _, 0, x => by simp
  | d :: l, _, n + 1, x => by
    rw [Vals] at x
    obtain ⟨v, r, rfl, a, b⟩ := x
    simp only [List.take_succ_cons, vals_cons']
    exact ⟨a, Vals.take n b⟩
theorem Vals.drop : ∀ {l : List PV} {vs : List Value} (n : Nat), Vals P V h l vs → Vals P V h (l.drop n) (vs.drop n)
  | [], _, n, x => by rw [Vals] at x; subst x; simp
  | d :: l, _, 0, x => by simpa using x
  | d :: l, _, n + 1, x => by
    rw [Vals] at x
    obtain ⟨v, r, rfl, a, b⟩ := x
    simpa using Vals.drop n b
theorem Vals.map_iff {α : Type} {f : α → PV} {g : α → Value} : ∀ {l : List α}, (∀ x ∈ l, Val P V h (f x) (g x)) → Vals P V h (l.map f) (l.map g)
  | [], _ => by simp
  | a :: l, H => by simp only [List.map_cons, vals_cons']; exact ⟨H a (by simp), Vals.map_iff fun x hx => H x (by simp [hx])⟩
end
end Mine
namespace Mine
open PySem PySem.W PySem.Calls PyProof.Rows

structure Wd where
  prog : Program
  w : World
  K : Frag
  b₀ : Heap
  inK : K.In b₀
  top : ∃ p loose mg mb, TopRead p loose mg mb b₀
  sysm : ∃ o, b₀.get? sysModules = some o

abbrev Wd.P (X : Wd) : Params := X.w.params
abbrev Wd.mo (X : Wd) : Model := model X.prog X.w

/-- what a name may stand for -/
inductive Slot where
  | fz (d : PV)
  | mt (d : PV)

/-- what a frame knows -/
structure Vw where
  S : Rgn
  ρ : Str → Option Slot
  I : Rgn → Heap → Prop

structure AS extends Vw where
  M : Rgn
  V : Rgn

structure Act extends Wd where
  env : Env
  O : Rgn
  U : Rgn
  n : Nat
  hn : 4 ≤ n

def own (env : Env) (x : Addr) : Prop := x = env.locals ∨ ∃ n, env.cells.lookup n = some x

def Top (P : Params) (V : Rgn) (h : Heap) : PV → Addr → Prop
  | .seq c l, r => ∃ n vs, h.get? r = some (seqO c vs n) ∧ Vals P V h l vs.toList
  | .dict ks ds, r => ∃ n es, h.get? r = some (dictO es n) ∧ Vals P V h ks (es.toList.map (·.key)) ∧ Vals P V h ds (es.toList.map (·.val)) ∧ es.toList.map (·.hash) = ks.map (hashPV P)
  | _, _ => False

def Reads1 (env : Env) (h : Heap) (x : Str) (v : Value) : Prop :=
  (env.kindOf x = some .local ∧ ∃ m, h.Ns env.locals m ∧ m x = some v) ∨
  ((env.kindOf x = some .cell ∨ env.kindOf x = some .free) ∧ ∃ c, env.cells.lookup x = some c ∧ h.IsCell c (some v))

def SlotOk (Y : Act) (a : AS) (h : Heap) : Slot → Value → Prop
  | .fz d, v => Val Y.P a.V h d v
  | .mt d, v => ∃ r, v = .ref r ∧ a.M r ∧ ¬ own Y.env r ∧ ¬ Y.U r ∧ ¬ a.S r ∧ Top Y.P a.V h d r

structure EnvOk (Y : Act) (a : AS) (s : Shared) : Prop where
  kind : Y.env.scope.kind = .function
  glob : Y.env.globals = mainGlobals
  blt : Y.env.builtins = builtinsNs
  keep : ∀ b o, Y.b₀.get? b = some o → s.heap.get? b = some o
  bnd : ∀ x, a.V x → ∃ o, s.heap.get? x = some o
  mv : ∀ x, a.M x → a.V x
  uv : ∀ x, Y.U x → a.V x
  om : ∀ x, own Y.env x → a.M x
  ou : ∀ x, own Y.env x → ¬ Y.U x
  oo : ∀ x, Y.O x → own Y.env x
  lo : Y.O Y.env.locals
  low : ∀ x, a.V x → Y.b₀.get? x = none
  ns : ∃ m, s.heap.Ns Y.env.locals m
  cell : ∀ n c, Y.env.cells.lookup n = some c → c ≠ Y.env.locals ∧ ∃ v, s.heap.IsCell c v
  apart : ∀ n n' c, Y.env.cells.lookup n = some c → Y.env.cells.lookup n' = some c → n = n'
  slots : ∀ x sl, a.ρ x = some sl → ∃ v, Reads1 Y.env s.heap x v ∧ SlotOk Y a s.heap sl v
  dist : ∀ x y d e v, x ≠ y → a.ρ x = some (.mt d) → a.ρ y = some (.mt e) → Reads1 Y.env s.heap x v → Reads1 Y.env s.heap y v → False
  sm : ∀ x, a.S x → a.M x
  os : ∀ x, a.S x → ¬ own Y.env x
  inv : a.I a.V s.heap
  stab : ∀ (V₁ V₂ : Rgn) (h₁ h₂ : Heap), a.I V₁ h₁ → (∀ b o, a.S b → h₁.get? b = some o → h₂.get? b = some o) → (∀ b o, ¬ V₁ b → h₁.get? b = some o → ¬ V₂ b ∧ h₂.get? b = some o) → a.I V₂ h₂

def PE (Y : Act) (q : Vw) (e : Expr) (P : PV → Prop) : Prop :=
  ∀ (M V : Rgn) (A : Around) (E : Value → Shared → Prop) (s : Shared), AOk A Y.n → EnvOk Y ⟨q, M, V⟩ s →
    wpAny Y.mo A (eval e Y.env) (fun v s' => Step None s s' ∧ ∃ d, P d ∧ Val Y.P V s'.heap d v) E s

def PT (Y : Act) (q : Vw) (e : Expr) (P : Bool → Prop) : Prop :=
  ∀ (M V : Rgn) (A : Around) (E : Value → Shared → Prop) (s : Shared), AOk A Y.n → EnvOk Y ⟨q, M, V⟩ s →
    wpAny Y.mo A (isTrue e Y.env (eval e Y.env)) (fun b s' => Step None s s' ∧ P b) E s

inductive AF where
  | next | brk | cont
  | ret (d : PV)

def FlowOk (P : Params) (V : Rgn) (h : Heap) : AF → Flow → Prop
  | .next, f => f = .next
  | .brk, f => f = .brk
  | .cont, f => f = .cont
  | .ret d, f => ∃ v, f = .ret v ∧ Val P V h d v

/-- from one frame's state to the next -/
structure Gr (a : AS) (s : Shared) (a' : AS) (s' : Shared) : Prop where
  st : Step a.M s s'
  m : ∀ x, a'.M x → a.M x ∨ s.heap.get? x = none
  v : ∀ x, a'.V x → a.V x ∨ s.heap.get? x = none
  k : ∀ x, a.V x → ¬ a.M x → a'.V x

def Post (Y : Act) (Φ : AF → Vw → Prop) (a : AS) (s : Shared) (f : Flow) (s' : Shared) : Prop :=
  ∃ af a', Φ af a'.toVw ∧ FlowOk Y.P a'.V s'.heap af f ∧ EnvOk Y a' s' ∧ Gr a s a' s'

/-- the triple of a block -/
def PS (Y : Act) (q : Vw) (sts : List Stmt) (Φ : AF → Vw → Prop) : Prop :=
  ∀ (M V : Rgn) (A : Around) (E : Value → Shared → Prop) (s : Shared), AOk A Y.n → EnvOk Y ⟨q, M, V⟩ s → wpAny Y.mo A (execs sts Y.env) (Post Y Φ ⟨q, M, V⟩ s) E s
def PS1 (Y : Act) (q : Vw) (st : Stmt) (Φ : AF → Vw → Prop) : Prop :=
  ∀ (M V : Rgn) (A : Around) (E : Value → Shared → Prop) (s : Shared), AOk A Y.n → EnvOk Y ⟨q, M, V⟩ s → wpAny Y.mo A (exec st Y.env) (Post Y Φ ⟨q, M, V⟩ s) E s

section
variable {P : Params} {V V' : Rgn} {h h' : Heap}
theorem Top.at (hk : ∀ a o, ¬ V a → h.get? a = some o → ¬ V' a ∧ h'.get? a = some o) {d : PV} {r : Addr} (x : Top P V h d r) (hr : ∀ o, h.get? r = some o → h'.get? r = some o) : Top P V' h' d r := by
  cases d <;> simp only [Top] at x ⊢
  · obtain ⟨n, vs, ho, hl⟩ := x
    exact ⟨n, vs, hr _ ho, hl.at hk⟩
  · obtain ⟨n, es, ho, h1, h2, h3⟩ := x
    exact ⟨n, es, hr _ ho, h1.at hk, h2.at hk, h3⟩
theorem Top.val {d : PV} {r : Addr} (x : Top P V h d r) (hr : ¬ V r) (hm : (r == sysModules) = false) : Val P V h d (.ref r) := by
  cases d <;> simp only [Top] at x
  · obtain ⟨n, vs, ho, hl⟩ := x
    exact val_seq.mpr ⟨r, n, vs, rfl, hr, ho, hl⟩
  · obtain ⟨n, es, ho, h1, h2, h3⟩ := x
    exact val_dict.mpr ⟨r, n, es, rfl, hm, hr, ho, h1, h2, h3⟩
theorem Top.lt {d : PV} {r : Addr} (x : Top P V h d r) : r < h.objs.size := by
  cases d <;> simp only [Top] at x
  · obtain ⟨n, vs, ho, hl⟩ := x; exact Heap.lt_size ho
  · obtain ⟨n, es, ho, _⟩ := x; exact Heap.lt_size ho
theorem Ns.uniq {h : Heap} {L : Addr} {m m' : Str → Option Value} (x : h.Ns L m) (y : h.Ns L m') : m = m' := by
  obtain ⟨o, es, ep, ho, hd, _, hf⟩ := x
  obtain ⟨o', es', ep', ho', hd', _, hf'⟩ := y
  rw [ho] at ho'; cases ho'
  rw [hd] at hd'; cases hd'
  funext n
  exact (hf n).symm.trans (hf' n)
theorem Cell.uniq {h : Heap} {c : Addr} {v v' : Option Value} (x : h.IsCell c v) (y : h.IsCell c v') : v = v' := by
  obtain ⟨o, ho, hd⟩ := x
  obtain ⟨o', ho', hd'⟩ := y
  rw [ho] at ho'; cases ho'
  rw [hd] at hd'; cases hd'; rfl
theorem Reads1.uniq {env : Env} {x : Str} {v v' : Value} (a : Reads1 env h x v) (b : Reads1 env h x v') : v = v' := by
  rcases a with ⟨k, m, n, e⟩ | ⟨k, c, l, e⟩ <;> rcases b with ⟨k', m', n', e'⟩ | ⟨k', c', l', e'⟩
  · rw [Ns.uniq n n'] at e; rw [e] at e'; exact Option.some.inj e'
  · rw [k] at k'; rcases k' with k' | k' <;> cases k'
  · rw [k'] at k; rcases k with k | k <;> cases k
  · rw [l] at l'; cases l'; exact Option.some.inj (Cell.uniq e e')
theorem Reads1.keeps {env : Env} {x : Str} {v : Value} (a : Reads1 env h x v) (hk : ∀ b o, own env b → h.get? b = some o → h'.get? b = some o) : Reads1 env h' x v := by
  rcases a with ⟨k, m, n, e⟩ | ⟨k, c, l, e⟩
  · obtain ⟨o, es, ep, ho, r⟩ := n
    exact .inl ⟨k, m, ⟨o, es, ep, hk _ _ (.inl rfl) ho, r⟩, e⟩
  · obtain ⟨o, ho, hd⟩ := e
    exact .inr ⟨k, c, l, ⟨o, hk _ _ (.inr ⟨x, l⟩) ho, hd⟩⟩
end

section
variable {Y : Act} {a a' : AS} {s s' : Shared}
theorem SlotOk.at {h h' : Heap} {sl : Slot} {v : Value} (x : SlotOk Y a h sl v) (hk : ∀ b o, h.get? b = some o → h'.get? b = some o) : SlotOk Y a h' sl v := by
  cases sl with
  | fz d => exact Val.keeps (d := d) x fun b o _ e => hk b o e
  | mt d => obtain ⟨r, e, a1, a2, a3, a4, t⟩ := x; exact ⟨r, e, a1, a2, a3, a4, t.at (fun b o n e => ⟨n, hk b o e⟩) fun o e => hk r o e⟩

theorem SlotOk.stepW {h h' : Heap} {sl : Slot} {v : Value} {W : Rgn} (x : SlotOk Y a h sl v) (st : ∀ b o, ¬ W b → h.get? b = some o → h'.get? b = some o) (hw : ∀ b, W b → a.V b) (hm : ∀ b, W b → ¬ a.M b) : SlotOk Y a h' sl v := by
  cases sl with
  | fz d => exact Val.keeps (d := d) x fun b o n e => st b o (fun w => n (hw b w)) e
  | mt d => obtain ⟨r, e, a1, a2, a3, a4, t⟩ := x; exact ⟨r, e, a1, a2, a3, a4, t.at (fun b o n e => ⟨n, st b o (fun w => n (hw b w)) e⟩) fun o e => st r o (fun w => hm r w a1) e⟩
/-- a step beside what the frame holds -/
theorem EnvOk.stepW (G : EnvOk Y a s) (W : Rgn) (st : ∀ b o, ¬ W b → s.heap.get? b = some o → s'.heap.get? b = some o) (hw : ∀ b, W b → a.V b) (hm : ∀ b, W b → ¬ a.M b)
    (hb : ∀ b, W b → ∃ o, s'.heap.get? b = some o) : EnvOk Y a s' where
  kind := G.kind
  glob := G.glob
  blt := G.blt
  keep := fun b o e => st b o (fun w => by rw [G.low b (hw b w)] at e; cases e) (G.keep b o e)
  bnd := fun x hx => by
    by_cases w : W x
    · exact hb x w
    · obtain ⟨o, e⟩ := G.bnd x hx
      exact ⟨o, st x o w e⟩
  mv := G.mv
  uv := G.uv
  om := G.om
  ou := G.ou
  oo := G.oo
  lo := G.lo
  low := G.low
  ns := by
    obtain ⟨m, o, es, ep, ho, r⟩ := G.ns
    exact ⟨m, o, es, ep, st _ _ (fun w => hm _ w (G.om _ (.inl rfl))) ho, r⟩
  cell := fun n c e => by
    obtain ⟨h1, v, o, ho, r⟩ := G.cell n c e
    exact ⟨h1, v, o, st _ _ (fun w => hm _ w (G.om _ (.inr ⟨n, e⟩))) ho, r⟩
  apart := G.apart
  slots := fun x sl e => let ⟨v, h1, h2⟩ := G.slots x sl e; ⟨v, h1.keeps fun b o q e => st b o (fun w => hm _ w (G.om _ q)) e, h2.stepW st hw hm⟩
  dist := fun x y d e v hn hx hy h1 h2 => by
    obtain ⟨v1, r1, _⟩ := G.slots x _ hx
    obtain ⟨v2, r2, _⟩ := G.slots y _ hy
    have hk : ∀ b o, own Y.env b → s.heap.get? b = some o → s'.heap.get? b = some o := fun b o q e => st b o (fun w => hm _ w (G.om _ q)) e
    have e1 := (r1.keeps hk : Reads1 Y.env s'.heap x v1).uniq h1
    have e2 := (r2.keeps hk : Reads1 Y.env s'.heap y v2).uniq h2
    subst e1 e2
    exact G.dist x y d e _ hn hx hy r1 r2
  sm := G.sm
  os := G.os
  inv := G.stab _ _ _ _ G.inv (fun b o q e => st b o (fun w => hm b w (G.sm b q)) e) fun b o n e => ⟨n, st b o (fun w => n (hw b w)) e⟩
  stab := G.stab

/-- evaluation leaves the frame as it is -/
theorem EnvOk.stepN (G : EnvOk Y a s) (st : Step None s s') : EnvOk Y a s' := G.stepW None st.keep (fun _ q => q.elim) (fun _ q => q.elim) (fun _ q => q.elim)

theorem EnvOk.toks (G : EnvOk Y a s) (t : Nat) : EnvOk Y a { s with toks := t } := G.stepN Step.toks

theorem Step.trans' {M M' : Rgn} {s₁ s₂ s₃ : Shared} (x : Step M s₁ s₂) (y : Step M' s₂ s₃) (h : ∀ b, M' b → M b ∨ s₁.heap.get? b = none) : Step M s₁ s₃ :=
  ⟨fun b o n e => y.keep b o (fun w => by
      rcases h b w with q | q
      · exact n q
      · rw [q] at e; cases e) (x.keep b o n e),
    y.os.trans x.os, fun i g e => y.gkeep i g (x.gkeep i g e), fun i g e => (y.gnew i g e).elim (fun e' => x.gnew i g e') .inr⟩

theorem Step.none_or {M : Rgn} {s₁ s₂ : Shared} (x : Step M s₁ s₂) {b : Addr} (e : s₂.heap.get? b = none) : M b ∨ s₁.heap.get? b = none := by
  by_cases h : M b
  · exact .inl h
  · exact .inr (none_of_keep (fun o => x.keep b o h) e)

theorem Gr.refl (a : AS) (s : Shared) : Gr a s a s := ⟨Step.refl _ _, fun _ q => .inl q, fun _ q => .inl q, fun _ q _ => q⟩
theorem Gr.trans {a₁ a₂ a₃ : AS} {s₁ s₂ s₃ : Shared} (x : Gr a₁ s₁ a₂ s₂) (y : Gr a₂ s₂ a₃ s₃) (G : EnvOk Y a₁ s₁) : Gr a₁ s₁ a₃ s₃ :=
  ⟨x.st.trans' y.st x.m, fun b q => (y.m b q).elim (x.m b) x.st.none_or, fun b q => (y.v b q).elim (x.v b) fun q => x.st.none_or q |>.imp (G.mv b) id,
   fun b hv hm => y.k b (x.k b hv hm) fun q => (x.m b q).elim hm fun q => by obtain ⟨o, e⟩ := G.bnd b hv; rw [q] at e; cases e⟩
theorem Gr.stepN {a : AS} {s s' : Shared} (st : Step None s s') : Gr a s a s' := ⟨st.all _, fun _ q => .inl q, fun _ q => .inl q, fun _ q _ => q⟩

variable {q : Vw} {M V : Rgn} {A : Around} {E : Value → Shared → Prop}
theorem Post.after {s₁ : Shared} {Φ : AF → Vw → Prop} {f : Flow} (g : Gr a s a' s₁) (G₀ : EnvOk Y a s) (p : Post Y Φ a' s₁ f s') : Post Y Φ a s f s' :=
  let ⟨af, a'', h, hf, G, g'⟩ := p; ⟨af, a'', h, hf, G, g.trans g' G₀⟩
theorem Post.mono {Φ Φ' : AF → Vw → Prop} {f : Flow} (p : Post Y Φ a s f s') (h : ∀ f v, Φ f v → Φ' f v) : Post Y Φ' a s f s' :=
  let ⟨af, a'', x, r⟩ := p; ⟨af, a'', h _ _ x, r⟩

theorem PE.use {e : Expr} {P : PV → Prop} {Q : Value → Shared → Prop} (h : PE Y q e P) (hA : AOk A Y.n) (G : EnvOk Y ⟨q, M, V⟩ s)
    (k : ∀ v s' d, P d → Val Y.P V s'.heap d v → Step None s s' → EnvOk Y ⟨q, M, V⟩ s' → Q v s') : wpAny Y.mo A (eval e Y.env) Q E s :=
  wpAny_mono (h M V A E s hA G) (fun v s' q => by obtain ⟨st, d, hp, hv⟩ := q; exact k v s' d hp hv st (G.stepN st)) fun _ _ x => x
theorem PT.use {e : Expr} {P : Bool → Prop} {Q : Bool → Shared → Prop} (h : PT Y q e P) (hA : AOk A Y.n) (G : EnvOk Y ⟨q, M, V⟩ s)
    (k : ∀ b s', P b → Step None s s' → EnvOk Y ⟨q, M, V⟩ s' → Q b s') : wpAny Y.mo A (isTrue e Y.env (eval e Y.env)) Q E s :=
  wpAny_mono (h M V A E s hA G) (fun v s' q => k v s' q.2 q.1 (G.stepN q.1)) fun _ _ x => x
theorem PE.mono {e : Expr} {P P' : PV → Prop} (h : PE Y q e P) (hp : ∀ d, P d → P' d) : PE Y q e P' := fun M V A E s hA G =>
  wpAny_mono (h M V A E s hA G) (fun v s' q => by obtain ⟨st, d, x, hv⟩ := q; exact ⟨st, d, hp d x, hv⟩) fun _ _ x => x
theorem PT.mono {e : Expr} {P P' : Bool → Prop} (h : PT Y q e P) (hp : ∀ d, P d → P' d) : PT Y q e P' := fun M V A E s hA G =>
  wpAny_mono (h M V A E s hA G) (fun v s' q => ⟨q.1, hp v q.2⟩) fun _ _ x => x
theorem PS.mono {sts : List Stmt} {Φ Φ' : AF → Vw → Prop} (h : PS Y q sts Φ) (hp : ∀ f a', Φ f a' → Φ' f a') : PS Y q sts Φ' := fun M V A E s hA G =>
  wpAny_mono (h M V A E s hA G) (fun f s' p => p.mono hp) fun _ _ x => x
theorem PS1.mono {st : Stmt} {Φ Φ' : AF → Vw → Prop} (h : PS1 Y q st Φ) (hp : ∀ f a', Φ f a' → Φ' f a') : PS1 Y q st Φ' := fun M V A E s hA G =>
  wpAny_mono (h M V A E s hA G) (fun f s' p => p.mono hp) fun _ _ x => x

theorem PS.nil {Φ : AF → Vw → Prop} (h : Φ .next q) : PS Y q [] Φ := fun M V A E s hA G =>
  wpAny_execs_nil ⟨.next, _, h, rfl, G, Gr.refl _ _⟩

/-- one statement, then the rest -/
theorem PS.cons {st : Stmt} {rest : List Stmt} {Φ Ψ : AF → Vw → Prop} (h : PS1 Y q st Ψ) (hn : ∀ a', Ψ .next a' → PS Y a' rest Φ)
    (ho : ∀ f a', f ≠ AF.next → Ψ f a' → Φ f a') : PS Y q (st :: rest) Φ := fun M V A E s hA G => by
  refine wpAny_execs_cons (wpAny_mono (h M V A E s hA G) (fun f s' p => ?_) fun _ _ x => x)
  obtain ⟨af, a', hΨ, hf, G', g⟩ := p
  cases af with
  | next =>
    have hf' : f = .next := hf
    subst hf'
    exact wpAny_mono (hn _ hΨ a'.M a'.V A E s' hA G') (fun f s'' p => p.after g G) fun _ _ x => x
  | brk =>
    have hf' : f = .brk := hf
    subst hf'
    exact ⟨.brk, a', ho _ _ (fun q => nomatch q) hΨ, rfl, G', g⟩
  | cont =>
    have hf' : f = .cont := hf
    subst hf'
    exact ⟨.cont, a', ho _ _ (fun q => nomatch q) hΨ, rfl, G', g⟩
  | ret d =>
    obtain ⟨v, hf', hv⟩ := hf
    subst hf'
    exact ⟨.ret d, a', ho _ _ (fun q => nomatch q) hΨ, ⟨v, rfl, hv⟩, G', g⟩

/-- for a statement that goes on always -/
theorem PS.seq {st : Stmt} {rest : List Stmt} {Φ : AF → Vw → Prop} (h : PS1 Y q st fun f a' => f = .next ∧ PS Y a' rest Φ) : PS Y q (st :: rest) Φ :=
  PS.cons h (fun a' q => q.2) fun f a' hne q => absurd q.1 hne
end
end Mine
namespace Mine
open PySem PySem.W PySem.Calls PyProof.Rows

structure Hp (X : Wd) (V : Rgn) (s : Shared) : Prop where
  keep : ∀ b o, X.b₀.get? b = some o → s.heap.get? b = some o
  bnd : ∀ x, V x → ∃ o, s.heap.get? x = some o
  low : ∀ x, V x → X.b₀.get? x = none
theorem Hp.stepN {X : Wd} {V : Rgn} {s s' : Shared} (H : Hp X V s) (st : Step None s s') : Hp X V s' := ⟨fun b o e => st.kp b o (H.keep b o e), fun x hx => let ⟨o, e⟩ := H.bnd x hx; ⟨o, st.kp x o e⟩, H.low⟩
theorem EnvOk.hp {Y : Act} {a : AS} {s : Shared} (G : EnvOk Y a s) : Hp Y.toWd a.V s := ⟨G.keep, G.bnd, G.low⟩
theorem Hp.inK {X : Wd} {V : Rgn} {s : Shared} (H : Hp X V s) : X.K.In s.heap := X.inK.keeps H.keep
theorem Hp.fresh {X : Wd} {V : Rgn} {s : Shared} (H : Hp X V s) : ¬ V s.heap.objs.size := fun q => let ⟨_, e⟩ := H.bnd _ q; by rw [get?_size] at e; cases e
theorem Hp.nosys {X : Wd} {V : Rgn} {s : Shared} (H : Hp X V s) {r : Addr} (h : V r) : (r == sysModules) = false := by
  cases e : r == sysModules with
  | false => rfl
  | true => obtain ⟨o, q⟩ := X.sysm; have := H.low r h; rw [eq_of_beq e, q] at this; cases this
theorem Hp.nolimit {X : Wd} {V : Rgn} {s : Shared} (H : Hp X V s) : s.heap.NoLimit := let ⟨_, _, _, _, T⟩ := X.top; T.nolimit.keeps H.keep

/-- what an evaluation hands back -/
def Res (X : Wd) (V : Rgn) (P : PV → Prop) (s : Shared) (v : Value) (s' : Shared) : Prop := Step None s s' ∧ ∃ d, P d ∧ Val X.P V s'.heap d v
theorem Res.after {X : Wd} {V : Rgn} {P : PV → Prop} {s s₁ : Shared} {v : Value} {s' : Shared} (st : Step None s s₁) (r : Res X V P s₁ v s') : Res X V P s v s' := ⟨st.trans r.1, r.2⟩
theorem res_after {X : Wd} {V : Rgn} {P : PV → Prop} {s s₁ : Shared} {A : Around} {E : Value → Shared → Prop} {t : Sem Value} (st : Step None s s₁) (h : wpAny X.mo A t (Res X V P s₁) E s₁) : wpAny X.mo A t (Res X V P s) E s₁ :=
  wpAny_mono h (fun _ _ r => r.after st) fun _ _ x => x

/-- a function's contract: from data to data -/
def FC (X : Wd) (n : Nat) (f : Value) (ds : List PV) (P : PV → Prop) : Prop :=
  ∀ (A : Around) (E : Value → Shared → Prop) (s : Shared) (V : Rgn) (vs : List Value), AOk A n → Hp X V s → Vals X.P V s.heap ds vs → wpAny X.mo A (call f vs) (Res X V P s) E s
def Op2 (X : Wd) (n : Nat) (f : Value → Value → Sem Value) (d₁ d₂ : PV) (P : PV → Prop) : Prop :=
  ∀ (A : Around) (E : Value → Shared → Prop) (s : Shared) (V : Rgn) (v₁ v₂ : Value), AOk A n → Hp X V s → Val X.P V s.heap d₁ v₁ → Val X.P V s.heap d₂ v₂ → wpAny X.mo A (f v₁ v₂) (Res X V P s) E s
theorem FC.mono {X : Wd} {n m : Nat} {f : Value} {ds : List PV} {P P' : PV → Prop} (h : FC X n f ds P) (hm : n ≤ m) (hp : ∀ d, P d → P' d) : FC X m f ds P' := fun A E s V vs hA H hv =>
  wpAny_mono (h A E s V vs (hA.mono hm) H hv) (fun v s' ⟨st, d, x, y⟩ => ⟨st, d, hp d x, y⟩) fun _ _ x => x
theorem Op2.mono {X : Wd} {n m : Nat} {f : Value → Value → Sem Value} {d₁ d₂ : PV} {P P' : PV → Prop} (h : Op2 X n f d₁ d₂ P) (hm : n ≤ m) (hp : ∀ d, P d → P' d) : Op2 X m f d₁ d₂ P' := fun A E s V v₁ v₂ hA H h1 h2 =>
  wpAny_mono (h A E s V v₁ v₂ (hA.mono hm) H h1 h2) (fun v s' ⟨st, d, x, y⟩ => ⟨st, d, hp d x, y⟩) fun _ _ x => x

section
variable {Y : Act} {a : Vw} {M V : Rgn} {P : PV → Prop}

theorem rd_name {A : Around} {E : Value → Shared → Prop} {s : Shared} {Q : Value → Shared → Prop} {x : Str} {pos : Pos} {v : Value} (G : EnvOk Y ⟨a, M, V⟩ s) (h : Reads1 Y.env s.heap x v) (k : Q v s)
    (hd : (x == ("__debug__" : Str)) = false := by decide) (hc : (x == ("__classdict__" : Str)) = false := by decide) : wpAny Y.mo A (eval (.Name x pos) Y.env) Q E s := by
  refine wpAny_Name ?_ hd
  rcases h with ⟨hk, m, hn, hv⟩ | ⟨hk | hk, c, hl, hcell⟩
  · exact wpAny_loadName_local G.kind hk hn hv k
  · exact wpAny_loadName_cell G.kind hk hl hcell k
  · exact wpAny_loadName_free G.kind hk hl hcell k hc

theorem PE.name {x : Str} {pos : Pos} {d : PV} (hx : a.ρ x = some (.fz d)) (hp : P d)
    (hd : (x == ("__debug__" : Str)) = false := by decide) (hc : (x == ("__classdict__" : Str)) = false := by decide) : PE Y a (.Name x pos) P := fun M V A E s hA G => by
  obtain ⟨v, hr, hv⟩ := G.slots x _ hx
  exact rd_name G hr ⟨Step.refl _ _, d, hp, hv⟩ hd hc

/-- a name of the module, or a built-in one -/
def FnIs (Y : Act) (x : Str) (v : Value) : Prop :=
  Y.env.kindOf x = some .globalImplicit ∧ (nsIn Y.K mainGlobals x = some (some v) ∨ (nsIn Y.K mainGlobals x = some none ∧ bootBuiltins x = some v ∧ x ≠ "__name__"))
theorem rd_fn {A : Around} {E : Value → Shared → Prop} {s : Shared} {Q : Value → Shared → Prop} {x : Str} {pos : Pos} {v : Value} (G : EnvOk Y ⟨a, M, V⟩ s) (h : FnIs Y x v) (k : Q v s)
    (hd : (x == ("__debug__" : Str)) = false := by decide) : wpAny Y.mo A (eval (.Name x pos) Y.env) Q E s := by
  obtain ⟨hk, h⟩ := h
  obtain ⟨p, loose, mg, mb, T⟩ := Y.top
  refine Name_function_global G.kind hk ?_ hd
  rcases h with h | ⟨h, hb, hn⟩
  · exact loadGlobal_global (by rw [G.glob]; exact T.g.keeps G.keep) (mg_of Y.inK T.g h) k
  · exact loadGlobal_builtin (by rw [G.glob]; exact T.g.keeps G.keep) (mg_none_of Y.inK T.g h) (by rw [G.blt]; exact T.b.keeps G.keep) ((T.builtins x hn).trans hb) k

theorem PE.glob {x : Str} {pos : Pos} {d : PV} {v : Value} (h : FnIs Y x v) (hv : ∀ V h', (∀ b o, Y.b₀.get? b = some o → h'.get? b = some o) → (∀ x, V x → Y.b₀.get? x = none) → Val Y.P V h' d v) (hp : P d)
    (hd : (x == ("__debug__" : Str)) = false := by decide) : PE Y a (.Name x pos) P := fun M V A E s hA G =>
  rd_fn G h ⟨Step.refl _ _, d, hp, hv _ _ G.keep G.low⟩ hd

theorem PE.cint {i : Int} {k : Nat} {pos : Pos} (hp : P (.int i)) : PE Y a (.Constant (.int i) k pos) P := fun M V A E s hA G =>
  wpAny_Constant_int ⟨Step.toks, .int i, hp, val_int.mpr ⟨_, rfl⟩⟩
theorem PE.cstr {x : Str} {k : Nat} {pos : Pos} (hp : P (.str x)) : PE Y a (.Constant (.str x) k pos) P := fun M V A E s hA G =>
  Constant_str ⟨Step.toks, .str x, hp, val_str.mpr ⟨_, rfl⟩⟩
theorem PE.cbool {b : Bool} {k : Nat} {pos : Pos} (hp : P (.bool b)) : PE Y a (.Constant (.bool b) k pos) P := fun M V A E s hA G => by
  rw [eval_Constant]
  exact wpAny_pure ⟨Step.refl _ _, .bool b, hp, val_bool.mpr rfl⟩
theorem PE.cnone {k : Nat} {pos : Pos} (hp : P .none) : PE Y a (.Constant .none k pos) P := fun M V A E s hA G => by
  rw [eval_Constant]
  exact wpAny_pure ⟨Step.refl _ _, .none, hp, val_none.mpr rfl⟩

theorem PE.bin {l r : Expr} {op : Operator} {pos : Pos} (h : PE Y a l fun d₁ => PE Y a r fun d₂ => Op2 Y.toWd Y.n (binaryOp op) d₁ d₂ P) : PE Y a (.BinOp l op r pos) P := fun M V A E s hA G => by
  refine wpAny_BinOp (h.use hA G fun v₁ s₁ d₁ p₁ x₁ st₁ G₁ => p₁.use hA G₁ fun v₂ s₂ d₂ p₂ x₂ st₂ G₂ => ?_)
  exact res_after (st₁.trans st₂) (p₂ A E s₂ V v₁ v₂ hA G₂.hp (x₁.stepN st₂) x₂)
theorem PE.cmp {l r : Expr} {op : CmpOp} {pos : Pos} (h : PE Y a l fun d₁ => PE Y a r fun d₂ => Op2 Y.toWd Y.n (compareOp op) d₁ d₂ P) (hm : behindInMarks op r = false := by with_unfolding_all rfl) : PE Y a (.Compare l [op] [r] pos) P := fun M V A E s hA G => by
  refine wpAny_Compare1 (h.use hA G fun v₁ s₁ d₁ p₁ x₁ st₁ G₁ => p₁.use hA G₁ fun v₂ s₂ d₂ p₂ x₂ st₂ G₂ => ?_) hm
  exact res_after (st₁.trans st₂) (p₂ A E s₂ V v₁ v₂ hA G₂.hp (x₁.stepN st₂) x₂)
theorem PT.cmp {l r : Expr} {op : CmpOp} {pos : Pos} {R : Bool → Prop} (h : PE Y a l fun d₁ => PE Y a r fun d₂ => Op2 Y.toWd Y.n (compareOp op) d₁ d₂ fun d => ∃ b, d = .bool b ∧ R b) (hm : behindInMarks op r = false := by with_unfolding_all rfl) : PT Y a (.Compare l [op] [r] pos) R := fun M V A E s hA G => by
  refine wpAny_isTrue_Compare1 (h.use hA G fun v₁ s₁ d₁ p₁ x₁ st₁ G₁ => p₁.use hA G₁ fun v₂ s₂ d₂ p₂ x₂ st₂ G₂ => ?_) hm
  refine wpAny_mono (p₂ A E s₂ V v₁ v₂ hA G₂.hp (x₁.stepN st₂) x₂) (fun v s₃ q => ?_) fun _ _ x => x
  obtain ⟨st₃, d, ⟨b, rfl, hb⟩, hv⟩ := q
  have hv := val_bool.mp hv
  subst hv
  exact wpAny_truthy_bool ⟨(st₁.trans st₂).trans st₃, hb⟩

theorem PT.and_ {x y : Expr} {pos : Pos} {R : Bool → Prop} (h : PT Y a x fun b => (b = false → R false) ∧ (b = true → PT Y a y R)) : PT Y a (.BoolOp .And [x, y] pos) R := fun M V A E s hA G => by
  show wpAny _ A (allTrue .And [x, y] Y.env) _ _ _
  show wpAny _ A (isTrue x Y.env (eval x Y.env) >>= _) _ _ _
  refine wpAny_bind (h.use hA G fun b s₁ hb st₁ G₁ => ?_)
  cases b with
  | false => exact wpAny_pure ⟨st₁, hb.1 rfl⟩
  | true =>
    show wpAny _ A (isTrue y Y.env (eval y Y.env) >>= _) _ _ _
    refine wpAny_bind ((hb.2 rfl).use hA G₁ fun b s₂ hb st₂ G₂ => ?_)
    cases b <;> exact wpAny_pure ⟨st₁.trans st₂, hb⟩
theorem PT.or_ {x y : Expr} {pos : Pos} {R : Bool → Prop} (h : PT Y a x fun b => (b = true → R true) ∧ (b = false → PT Y a y R)) : PT Y a (.BoolOp .Or [x, y] pos) R := fun M V A E s hA G => by
  show wpAny _ A (allTrue .Or [x, y] Y.env) _ _ _
  show wpAny _ A (isTrue x Y.env (eval x Y.env) >>= _) _ _ _
  refine wpAny_bind (h.use hA G fun b s₁ hb st₁ G₁ => ?_)
  cases b with
  | true => exact wpAny_pure ⟨st₁, hb.1 rfl⟩
  | false =>
    show wpAny _ A (isTrue y Y.env (eval y Y.env) >>= _) _ _ _
    refine wpAny_bind ((hb.2 rfl).use hA G₁ fun b s₂ hb st₂ G₂ => ?_)
    cases b <;> exact wpAny_pure ⟨st₁.trans st₂, hb⟩
theorem PT.or3 {x y z : Expr} {pos : Pos} {R : Bool → Prop} (h : PT Y a x fun b => (b = true → R true) ∧ (b = false → PT Y a y fun b => (b = true → R true) ∧ (b = false → PT Y a z R))) : PT Y a (.BoolOp .Or [x, y, z] pos) R := fun M V A E s hA G => by
  show wpAny _ A (allTrue .Or [x, y, z] Y.env) _ _ _
  show wpAny _ A (isTrue x Y.env (eval x Y.env) >>= _) _ _ _
  refine wpAny_bind (h.use hA G fun b s₁ hb st₁ G₁ => ?_)
  cases b with
  | true => exact wpAny_pure ⟨st₁, hb.1 rfl⟩
  | false =>
    show wpAny _ A (isTrue y Y.env (eval y Y.env) >>= _) _ _ _
    refine wpAny_bind ((hb.2 rfl).use hA G₁ fun b s₂ hb st₂ G₂ => ?_)
    cases b with
    | true => exact wpAny_pure ⟨st₁.trans st₂, hb.1 rfl⟩
    | false =>
      show wpAny _ A (isTrue z Y.env (eval z Y.env) >>= _) _ _ _
      refine wpAny_bind ((hb.2 rfl).use hA G₂ fun b s₃ hb st₃ G₃ => ?_)
      cases b <;> exact wpAny_pure ⟨(st₁.trans st₂).trans st₃, hb⟩
theorem PE.ite {t x y : Expr} {pos : Pos} (h : PT Y a t fun b => (b = true → PE Y a x P) ∧ (b = false → PE Y a y P)) : PE Y a (.IfExp t x y pos) P := fun M V A E s hA G => by
  show wpAny _ A (isTrue t Y.env (eval t Y.env) >>= _) _ _ _
  refine wpAny_bind (h.use hA G fun b s₁ hb st₁ G₁ => ?_)
  cases b with
  | true => exact (hb.1 rfl).use hA G₁ fun v s₂ d p x st₂ G₂ => ⟨st₁.trans st₂, d, p, x⟩
  | false => exact (hb.2 rfl).use hA G₁ fun v s₂ d p x st₂ G₂ => ⟨st₁.trans st₂, d, p, x⟩
/-- the test of a name that holds a bool -/
theorem PT.name {x : Str} {pos : Pos} {b : Bool} {R : Bool → Prop} (hx : a.ρ x = some (.fz (.bool b))) (hp : R b)
    (hd : (x == ("__debug__" : Str)) = false := by decide) (hc : (x == ("__classdict__" : Str)) = false := by decide) : PT Y a (.Name x pos) R := fun M V A E s hA G => by
  refine isTrue_plain ?_
  refine (PE.name (P := fun d => d = .bool b) hx rfl hd hc).use hA G fun v s' d p x st G' => ?_
  subst p
  have hv := val_bool.mp x
  subst hv
  exact wpAny_truthy_bool ⟨st, hp⟩
/-- the test of any expression that gives a bool -/
theorem PT.plain {e : Expr} {R : Bool → Prop} (h : PE Y a e fun d => ∃ b, d = .bool b ∧ R b)
    (he : ∀ whole, isTrue e Y.env whole = (do let v ← whole; standAt e.pos; holding [v] (truthy v)) := by intro _; rfl) : PT Y a e R := fun M V A E s hA G => by
  refine isTrue_plain ?_ (he _)
  refine h.use hA G fun v s' d p x st G' => ?_
  obtain ⟨b, rfl, hb⟩ := p
  have hv := val_bool.mp x
  subst hv
  exact wpAny_truthy_bool ⟨st, hb⟩

/-- several expressions, one behind the other -/
def PEs (Y : Act) (a : Vw) : List Expr → (List PV → Prop) → Prop
  | [], P => P []
  | e :: r, P => PE Y a e fun d => PEs Y a r fun ds => P (d :: ds)
def noStar : List Expr → Bool
  | [] => true
  | .Starred .. :: _ => false
  | _ :: r => noStar r
theorem star_cons {e : Expr} {r : List Expr} {env : Env} {pos : Pos} (h : noStar (e :: r) = true) : backTo pos (starEach (e :: r) env) = (false, eval e env) :: backTo pos (starEach r env) ∧ noStar r = true := by
  cases e <;> first | exact ⟨rfl, h⟩ | cases h
theorem PEs.use : ∀ {es : List Expr} {R : List PV → Prop} {A : Around} {E : Value → Shared → Prop} {s : Shared} {pos : Pos} {Q : List Value → Shared → Prop}, PEs Y a es R → noStar es = true → AOk A Y.n → EnvOk Y ⟨a, M, V⟩ s →
    (∀ vs s' ds, R ds → Vals Y.P V s'.heap ds vs → Step None s s' → EnvOk Y ⟨a, M, V⟩ s' → Q vs s') → wpAny Y.mo A (spliced (backTo pos (starEach es Y.env))) Q E s
  | [], R, A, E, s, pos, Q, h, _, hA, G, k => spliced_nil (k [] s [] h (by simp) (Step.refl _ _) G)
  | e :: r, R, A, E, s, pos, Q, h, hn, hA, G, k => by
    obtain ⟨he, hn'⟩ := star_cons (env := Y.env) (pos := pos) hn
    rw [he]
    refine spliced_cons (PE.use h hA G fun v s₁ d p x st G₁ => PEs.use p hn' hA G₁ fun vs s₂ ds p₂ x₂ st₂ G₂ => ?_)
    exact k (v :: vs) s₂ (d :: ds) p₂ (by simpa using ⟨x.stepN st₂, x₂⟩) (st.trans st₂) G₂

theorem PE.list {es : List Expr} {pos : Pos} (h : PEs Y a es fun ds => ds.length ≤ 4096 ∧ P (.list ds)) (hn : noStar es = true := by rfl) : PE Y a (.List es pos) P := fun M V A E s hA G => by
  refine List_ (PEs.use h hn hA G fun vs s' ds p x st G' => ?_)
  have hl := x.length
  refine wpAny_newList ?_ (by rw [← hl]; exact Nat.le_trans p.1 (by decide))
  exact ⟨st.trans (Step.push _), .list ds, p.2, val_seq.mpr ⟨_, 0, _, rfl, G'.hp.fresh, Heap.get?_push_size _ rfl, (x.stepN (Step.push _ (t := s'.toks)) : Vals Y.P V (s'.heap.push _) ds vs)⟩⟩
theorem PE.tup {es : List Expr} {k : Nat} {pos : Pos} (h : PEs Y a es fun ds => ds.length ≤ 4096 ∧ P (.tup ds)) (hn : noStar es = true := by rfl) : PE Y a (.Tuple es k pos) P := fun M V A E s hA G => by
  refine Tuple_ (PEs.use h hn hA G fun vs s' ds p x st G' => ?_)
  have hl := x.length
  refine wpAny_newTuple ?_ (by rw [← hl]; exact Nat.le_trans p.1 (by decide))
  exact ⟨st.trans (Step.push _), .tup ds, p.2, val_seq.mpr ⟨_, 0, _, rfl, G'.hp.fresh, Heap.get?_push_size _ rfl, (x.stepN (Step.push _ (t := s'.toks)) : Vals Y.P V (s'.heap.push _) ds vs)⟩⟩
end
end Mine
namespace Mine
open PySem PySem.W PySem.Calls PyProof.Rows

/-- as Step, but the generators that G holds may turn -/
structure StepG (W : Rgn) (G : Nat → Prop) (s s' : Shared) : Prop where
  keep : ∀ a o, ¬ W a → s.heap.get? a = some o → s'.heap.get? a = some o
  os : s'.os = s.os
  gkeep : ∀ (i : Nat) (x : GenState), ¬ G i → s.gens[i]? = some x → s'.gens[i]? = some x
  gnew : ∀ (i : Nat) (x : GenState), s'.gens[i]? = some x → G i ∨ s.gens[i]? = some x ∨ x = .finished

theorem Step.g {W : Rgn} {s s' : Shared} (x : Step W s s') (G : Nat → Prop) : StepG W G s s' := ⟨x.keep, x.os, fun i y _ e => x.gkeep i y e, fun i y e => .inr (x.gnew i y e)⟩
theorem StepG.step {W : Rgn} {s s' : Shared} (x : StepG W (fun _ => False) s s') : Step W s s' := ⟨x.keep, x.os, fun i y e => x.gkeep i y (fun h => h) e, fun i y e => (x.gnew i y e).elim (fun h => h.elim) fun h => h⟩
theorem StepG.trans {W : Rgn} {G : Nat → Prop} {s₁ s₂ s₃ : Shared} (x : StepG W G s₁ s₂) (y : StepG W G s₂ s₃) : StepG W G s₁ s₃ :=
  ⟨fun a o h e => y.keep a o h (x.keep a o h e), y.os.trans x.os, fun i g n e => y.gkeep i g n (x.gkeep i g n e),
   fun i g e => (y.gnew i g e).elim .inl fun q => q.elim (fun e' => x.gnew i g e') fun q => .inr (.inr q)⟩
theorem StepG.mono {W W' : Rgn} {G : Nat → Prop} {s s' : Shared} (x : StepG W G s s') (h : ∀ a, W a → W' a) : StepG W' G s s' :=
  ⟨fun a o n e => x.keep a o (fun w => n (h a w)) e, x.os, x.gkeep, x.gnew⟩
theorem StepG.refl (W : Rgn) (G : Nat → Prop) (s : Shared) : StepG W G s s := (Step.refl W s).g G
/-- the generators of the loop were not there before it, and are at their end -/
theorem StepG.close {W : Rgn} {G : Nat → Prop} {s s' : Shared} (x : StepG W G s s') (h0 : ∀ i, G i → s.gens[i]? = none) (h1 : ∀ i, G i → s'.gens[i]? = some .finished) : Step W s s' :=
  ⟨x.keep, x.os, fun i y e => x.gkeep i y (fun g => by rw [h0 i g] at e; cases e) e, fun i y e => (x.gnew i y e).elim (fun g => by rw [h1 i g] at e; exact .inr (Option.some.inj e).symm) fun q => q⟩
theorem StepG.old {W W' : Rgn} {G : Nat → Prop} {s s' : Shared} (x : StepG W G s s') (h : ∀ a, W a → W' a ∨ s.heap.get? a = none) : StepG W' G s s' :=
  ⟨fun a o n e => x.keep a o (fun w => by rcases h a w with h | h; exact n h; rw [h] at e; cases e) e, x.os, x.gkeep, x.gnew⟩

inductive IK where
  | seq | enum | gen
  deriving DecidableEq

/-- an iterator that hands out l; what F holds may change meanwhile -/
structure Itr (X : Wd) (A₀ : Around) (F own : Rgn) (gn : Nat → Prop) (nm : IK) (it : Value) (l : List PV) (J : Nat → Shared → Prop) : Prop where
  next : ∀ (A : Around) (E : Value → Shared → Prop) (s : Shared) (Q : Option Value → Shared → Prop) (i : Nat) (d : PV) (V : Rgn), AOk A 4 → (nm = .gen → A = A₀) → l[i]? = some d → (∀ b o, X.b₀.get? b = some o → s.heap.get? b = some o) →
    (∀ x, V x → F x ∨ own x) → (∀ x, V x → ∃ o, s.heap.get? x = some o) → J i s →
    (∀ v s', StepG own gn s s' → Val X.P V s'.heap d v → (nm ≠ .enum → J (i + 1) s') →
      (∀ (elts : List Expr) (x1 : Nat) (pos : Pos) (E' : Value → Shared → Prop) (Q' : Unit → Shared → Prop), (∀ s'', StepG own gn s' s'' → Val X.P V s''.heap d v → J (i + 1) s'' → Q' () s'') → wpAny X.mo A (letOwnedTupleGo (.Tuple elts x1 pos) it v) Q' E' s') → Q (some v) s') → wpAny X.mo A (pyNext it) Q E s
  done : ∀ (A : Around) (E : Value → Shared → Prop) (s : Shared) (Q : Option Value → Shared → Prop), AOk A 4 → (nm = .gen → A = A₀) → (∀ b o, X.b₀.get? b = some o → s.heap.get? b = some o) → J l.length s →
    (∀ s', StepG own gn s s' → (∀ i, gn i → s'.gens[i]? = some .finished) → Q none s') → wpAny X.mo A (pyNext it) Q E s
  frame : ∀ (i : Nat) (s s' : Shared) (W : Rgn), (∀ a, W a → F a) → J i s → Step W s s' → J i s'
  out : ∀ a, own a → ¬ F a ∧ X.b₀.get? a = none
  nog : nm ≠ .gen → ∀ i, ¬ gn i
  self : ∀ (A : Around) (E : Value → Shared → Prop) (s : Shared) (Q : Value → Shared → Prop) (i : Nat), J i s → Q it s → wpAny X.mo A (pyIter it) Q E s
  here : ∀ (i : Nat) (s : Shared), J i s → ∀ a, own a → ∃ o, s.heap.get? a = some o

/-- an iterator whose own objects may grow while it turns -/
structure ItrD (X : Wd) (A₀ : Around) (F own₀ : Rgn) (gn : Nat → Prop) (nm : IK) (it : Value) (l : List PV) (J : Rgn → Nat → Shared → Prop) : Prop where
  next : ∀ (A : Around) (E : Value → Shared → Prop) (s : Shared) (Q : Option Value → Shared → Prop) (i : Nat) (d : PV) (V own : Rgn), AOk A 4 → (nm = .gen → A = A₀) → l[i]? = some d → (∀ b o, X.b₀.get? b = some o → s.heap.get? b = some o) →
    (∀ x, V x → F x ∨ own x) → (∀ x, V x → ∃ o, s.heap.get? x = some o) → J own i s →
    (∀ v s' own', (∀ b, own b → own' b) → (∀ b, own' b → own b ∨ s.heap.get? b = none) → StepG own gn s s' → Val X.P (fun b => V b ∨ own' b) s'.heap d v → (nm ≠ .enum → J own' (i + 1) s') →
      (∀ (elts : List Expr) (x1 : Nat) (pos : Pos) (E' : Value → Shared → Prop) (Q' : Unit → Shared → Prop), (∀ s'', StepG own' gn s' s'' → Val X.P (fun b => V b ∨ own' b) s''.heap d v → J own' (i + 1) s'' → Q' () s'') → wpAny X.mo A (letOwnedTupleGo (.Tuple elts x1 pos) it v) Q' E' s') → Q (some v) s') → wpAny X.mo A (pyNext it) Q E s
  done : ∀ (A : Around) (E : Value → Shared → Prop) (s : Shared) (Q : Option Value → Shared → Prop) (own : Rgn), AOk A 4 → (nm = .gen → A = A₀) → (∀ b o, X.b₀.get? b = some o → s.heap.get? b = some o) → J own l.length s →
    (∀ s', StepG own gn s s' → (∀ i, gn i → s'.gens[i]? = some .finished) → Q none s') → wpAny X.mo A (pyNext it) Q E s
  frame : ∀ (own : Rgn) (i : Nat) (s s' : Shared) (W : Rgn), (∀ a, W a → F a ∧ ¬ own a) → J own i s → Step W s s' → J own i s'
  nog : nm ≠ .gen → ∀ i, ¬ gn i
  self : ∀ (A : Around) (E : Value → Shared → Prop) (s : Shared) (Q : Value → Shared → Prop) (own : Rgn) (i : Nat), J own i s → Q it s → wpAny X.mo A (pyIter it) Q E s
  here : ∀ (own : Rgn) (i : Nat) (s : Shared), J own i s → ∀ a, own a → ∃ o, s.heap.get? a = some o
theorem Itr.dyn {X : Wd} {A₀ : Around} {F own : Rgn} {gn : Nat → Prop} {nm : IK} {it : Value} {l : List PV} {J : Nat → Shared → Prop} (x : Itr X A₀ F own gn nm it l J) : ItrD X A₀ F own gn nm it l fun o i s => o = own ∧ J i s where
  next := fun A E s Q i d V o hA hg hd hk hV hb ⟨e, hJ⟩ k => by
    subst e
    exact x.next A E s Q i d (fun b => V b ∨ o b) hA hg hd hk (fun b w => w.elim (hV b) .inr) (fun b w => w.elim (hb b) (x.here i s hJ b)) hJ fun v s' st hv h1 h2 => k v s' o (fun _ h => h) (fun _ h => .inl h) st hv (fun n => ⟨rfl, h1 n⟩) fun elts x1 pos E' Q' k' => h2 elts x1 pos E' Q' fun s'' st' hv' hJ' => k' s'' st' hv' ⟨rfl, hJ'⟩
  done := fun A E s Q o hA hg hk ⟨e, hJ⟩ k => by
    subst e
    exact x.done A E s Q hA hg hk hJ k
  frame := fun o i s s' W hW ⟨e, hJ⟩ st => ⟨e, x.frame i s s' W (fun a w => (hW a w).1) hJ st⟩
  nog := x.nog
  self := fun A E s Q o i ⟨_, hJ⟩ k => x.self A E s Q i hJ k
  here := fun o i s ⟨e, hJ⟩ => by subst e; exact x.here i s hJ

/-- an expression that is walked over -/
def IterE (Y : Act) (a : Vw) (nm : IK) (e : Expr) (R : List PV → Prop) : Prop :=
  ∀ (M V : Rgn) (A : Around) (E : Value → Shared → Prop) (s : Shared), AOk A Y.n → EnvOk Y ⟨a, M, V⟩ s →
    wpAny Y.mo A (eval e Y.env) (fun x s₁ => wpAny Y.mo A (pyIter x) (fun it s₂ => ∃ (l : List PV) (own : Rgn) (gn : Nat → Prop) (J : Rgn → Nat → Shared → Prop), R l ∧ ItrD Y.toWd A (fun b => V b ∨ s₂.heap.get? b = none) own gn nm it l J ∧ J own 0 s₂ ∧
      StepG None gn s s₂ ∧ (∀ b, own b → s.heap.get? b = none) ∧ (∀ i, gn i → s.gens[i]? = none)) E s₁) E s

section
variable {X : Wd} {F : Rgn} {A₀ : Around}
theorem Heap.IsList.of {h : Heap} {a : Addr} {vs : Array Value} {n : Nat} (e : h.get? a = some (seqO tList vs n)) : h.IsList a vs := ⟨_, e, rfl, n, rfl⟩
theorem Heap.IsTuple.of {h : Heap} {a : Addr} {vs : Array Value} {n : Nat} (e : h.get? a = some (seqO tTuple vs n)) : h.IsTuple a vs := ⟨_, e, rfl, n, rfl⟩

/-- a list's iterator -/
theorem Itr.list {b : Addr} {n : Nat} {vs : Array Value} {l : List PV} {it : Addr} (hF : ¬ F b) (hi : ¬ F it) (hne : b ≠ it) (hb : X.b₀.get? it = none) :
    Itr X A₀ F (fun x => x = it) (fun _ => False) .seq (.ref it) l fun i s => s.heap.IsListIter it b i ∧ s.heap.get? b = some (seqO tList vs n) ∧ Vals X.P (fun x => F x ∨ x = it) s.heap l vs.toList where
  next := fun A E s Q i d V hA _ hd hk hV _ ⟨h1, h2, h3⟩ k => by
    obtain ⟨v, hv, hx⟩ := h3.get hd
    have hv' : vs[i]? = some v := by rw [← Array.getElem?_toList]; exact hv
    refine wpAny_pyNext_list_item h1 (Heap.IsList.of h2) hv' fun h' h1' hs => ?_
    have st : Step (fun x => x = it) s { s with heap := h' } := Step.same (t := s.toks) hs rfl
    have hx' : Val X.P V h' d v := (hx.step st fun a q => .inr q).less fun a q => hV a q
    refine k v _ (st.g _) hx' (fun _ => ⟨h1', st.keep b _ hne h2, h3.step st fun a q => .inr q⟩) fun elts x1 pos E' Q' k' => ?_
    have k'' := k' _ (StepG.refl _ _ _) hx' ⟨h1', st.keep b _ hne h2, h3.step st fun a q => .inr q⟩
    cases v <;> first | exact wpAny_letOwnedTupleGo_listiter h1' k'' | exact wpAny_pure k''
  done := fun A E s Q hA _ hk ⟨h1, h2, h3⟩ k => by
    have hv' : vs[l.length]? = none := by have := h3.length; rw [Array.getElem?_eq_none]; simpa using Nat.le_of_eq this.symm
    exact wpAny_pyNext_list_end hA.handled h1 (Heap.IsList.of h2) hv' fun h' he => k _ (StepG.mk (fun a o n e => he a o n e) rfl (fun _ _ _ e => e) fun _ _ e => .inr (.inl e)) fun i q => q.elim
  frame := fun i s s' W hW ⟨h1, h2, h3⟩ st => by
    obtain ⟨o, ho, r⟩ := h1
    exact ⟨⟨o, st.keep it _ (fun w => hi (hW _ w)) ho, r⟩, st.keep b _ (fun w => hF (hW _ w)) h2, h3.step st fun a w => .inl (hW _ w)⟩
  out := fun a e => e ▸ ⟨hi, hb⟩
  nog := fun _ i q => q
  self := fun A E s Q i ⟨h1, _⟩ k => wpAny_pyIter_listiter h1 k
  here := fun i s ⟨h1, _⟩ a e => by obtain ⟨o, ho, _⟩ := h1; exact ⟨o, e ▸ ho⟩

theorem letOwned_plain {A : Around} {E : Value → Shared → Prop} {s : Shared} {Q : Unit → Shared → Prop} {elts : List Expr} {x1 : Nat} {pos : Pos} {r : Addr} {v : Value} {o : Obj} {T : String} (ho : s.heap.get? r = some o) (hc : o.cls = .type T)
    (hT : (["enumerate", "zip", "dict_itemiterator", "dict_reverseitemiterator", "odict_iterator", "itertools.zip_longest", "itertools.pairwise"] : List String).contains T = false) (k : Q () s) :
    wpAny X.mo A (letOwnedTupleGo (.Tuple elts x1 pos) (.ref r) v) Q E s := by
  cases v with
  | ref a =>
    unfold letOwnedTupleGo
    refine wpAny_bind (wpAny_load ho ?_)
    rw [hc]
    cases o.data <;> first | exact wpAny_pure k | skip
    rename_i vs
    dsimp only
    rw [if_neg (by rw [hT, Bool.false_and]; exact Bool.false_ne_true)]
    exact wpAny_pure k
  | _ => exact wpAny_pure k

/-- a tuple's iterator -/
theorem Itr.tuple {b : Addr} {n : Nat} {vs : Array Value} {l : List PV} {it : Addr} (hF : ¬ F b) (hi : ¬ F it) (hne : b ≠ it) (hb : X.b₀.get? it = none) :
    Itr X A₀ F (fun x => x = it) (fun _ => False) .seq (.ref it) l fun i s => s.heap.IsTupleIter it b i ∧ s.heap.get? b = some (seqO tTuple vs n) ∧ Vals X.P (fun x => F x ∨ x = it) s.heap l vs.toList where
  next := fun A E s Q i d V hA _ hd hk hV _ ⟨h1, h2, h3⟩ k => by
    obtain ⟨v, hv, hx⟩ := h3.get hd
    have hv' : vs[i]? = some v := by rw [← Array.getElem?_toList]; exact hv
    refine wpAny_pyNext_tuple_item h1 (Heap.IsTuple.of h2) hv' fun h' h1' hs => ?_
    have st : Step (fun x => x = it) s { s with heap := h' } := Step.same (t := s.toks) hs rfl
    have hx' : Val X.P V h' d v := (hx.step st fun a q => .inr q).less fun a q => hV a q
    refine k v _ (st.g _) hx' (fun _ => ⟨h1', st.keep b _ hne h2, h3.step st fun a q => .inr q⟩) fun elts x1 pos E' Q' k' => ?_
    have k'' := k' _ (StepG.refl _ _ _) hx' ⟨h1', st.keep b _ hne h2, h3.step st fun a q => .inr q⟩
    obtain ⟨o, ho, hc, _⟩ := h1'
    exact letOwned_plain ho hc (by decide) k''
  done := fun A E s Q hA _ hk ⟨h1, h2, h3⟩ k => by
    have hv' : vs[l.length]? = none := by have := h3.length; rw [Array.getElem?_eq_none]; simpa using Nat.le_of_eq this.symm
    exact wpAny_pyNext_tuple_end hA.handled h1 (Heap.IsTuple.of h2) hv' fun h' he => k _ (StepG.mk (fun a o n e => he a o n e) rfl (fun _ _ _ e => e) fun _ _ e => .inr (.inl e)) fun i q => q.elim
  frame := fun i s s' W hW ⟨h1, h2, h3⟩ st => by
    obtain ⟨o, ho, r⟩ := h1
    exact ⟨⟨o, st.keep it _ (fun w => hi (hW _ w)) ho, r⟩, st.keep b _ (fun w => hF (hW _ w)) h2, h3.step st fun a w => .inl (hW _ w)⟩
  out := fun a e => e ▸ ⟨hi, hb⟩
  nog := fun _ i q => q
  self := fun A E s Q i ⟨h1, _⟩ k => wpAny_pyIter_tupleiter h1 k
  here := fun i s ⟨h1, _⟩ a e => by obtain ⟨o, ho, _⟩ := h1; exact ⟨o, e ▸ ho⟩

def numsFrom (x : Int) : Nat → List PV
  | 0 => []
  | n + 1 => .int x :: numsFrom (x + 1) n
theorem numsFrom_length (x : Int) : ∀ n, (numsFrom x n).length = n
  | 0 => rfl
  | n + 1 => by simp [numsFrom, numsFrom_length (x + 1) n]
theorem numsFrom_get : ∀ (n : Nat) (x : Int) (i : Nat) {d : PV}, (numsFrom x n)[i]? = some d → d = .int (x + i) ∧ i < n
  | 0, x, i, d, e => by simp [numsFrom] at e
  | n + 1, x, 0, d, e => by simp [numsFrom] at e; subst e; exact ⟨by simp, by omega⟩
  | n + 1, x, i + 1, d, e => by
    simp only [numsFrom, List.getElem?_cons_succ] at e
    obtain ⟨h1, h2⟩ := numsFrom_get n (x + 1) i e
    exact ⟨by rw [h1]; congr 1; omega, by omega⟩

/-- a range's iterator -/
theorem Itr.range {x : Int} {n : Nat} {it : Addr} (hi : ¬ F it) (hb : X.b₀.get? it = none) :
    Itr X A₀ F (fun x => x = it) (fun _ => False) .seq (.ref it) (numsFrom x n) fun i s => IsRangeIter s.heap it (x + i) (n - i) 1 where
  next := fun A E s Q i d V hA _ hd hk hV _ h1 k => by
    obtain ⟨rfl, hlt⟩ := numsFrom_get n x i hd
    refine wpAny_pyNext_range_item h1 (by omega) fun h' h1' hs => ?_
    have st : Step (fun x => x = it) s { s with heap := h', toks := s.toks + 1 } := Step.same hs rfl
    have h1'' : IsRangeIter h' it (x + ((i + 1 : Nat) : Int)) ((n : Int) - ((i + 1 : Nat) : Int)) 1 := by
      have e1 : x + ((i + 1 : Nat) : Int) = x + i + 1 := by omega
      have e2 : (n : Int) - ((i + 1 : Nat) : Int) = n - i - 1 := by omega
      rw [e1, e2]; exact h1'
    refine k _ _ (st.g _) (val_int.mpr ⟨_, rfl⟩) (fun _ => h1'') fun elts x1 pos E' Q' k' => ?_
    exact letOwned_plain h1' rfl (by decide) (k' _ (StepG.refl _ _ _) (val_int.mpr ⟨_, rfl⟩) h1'')
  done := fun A E s Q hA _ hk h1 k => by
    rw [numsFrom_length] at h1
    exact wpAny_pyNext_range_end hA.handled h1 (by omega) fun h' he => k _ (StepG.mk (fun a o n e => he a o n e) rfl (fun _ _ _ e => e) fun _ _ e => .inr (.inl e)) fun i q => q.elim
  frame := fun i s s' W hW h1 st => st.keep it _ (fun w => hi (hW _ w)) h1
  out := fun a e => e ▸ ⟨hi, hb⟩
  nog := fun _ i q => q
  self := fun A E s Q i h1 k => wpAny_pyIter_rangeiter h1 k
  here := fun i s h1 a e => ⟨_, e ▸ h1⟩
end

section
variable {Y : Act} {a : Vw} {M V : Rgn}
theorem EnvOk.base_none {a : AS} {s : Shared} (G : EnvOk Y a s) {x : Addr} (e : s.heap.get? x = none) : Y.b₀.get? x = none := none_of_keep (fun o h => G.keep x o h) e

theorem IterE.seq {e : Expr} {R : List PV → Prop} (h : PE Y a e fun d => ∃ c l, d = .seq c l ∧ (c = tList ∨ c = tTuple) ∧ R l) : IterE Y a .seq e R := fun M V A E s hA G => by
  refine h.use hA G fun v s₁ d p x st G₁ => ?_
  obtain ⟨c, l, rfl, hc, hR⟩ := p
  obtain ⟨b, n, vs, rfl, nb, ho, hl⟩ := val_seq.mp x
  have hbn : s₁.heap.get? s₁.heap.objs.size = none := get?_size _
  have hb0 : Y.b₀.get? s₁.heap.objs.size = none := G₁.base_none hbn
  have hne : b ≠ s₁.heap.objs.size := fun q => by rw [q, hbn] at ho; cases ho
  have hs0 : s.heap.get? s₁.heap.objs.size = none := none_of_keep (fun o e => st.kp _ o e) hbn
  have hnV : ¬ V s₁.heap.objs.size := G₁.hp.fresh
  rcases hc with rfl | rfl
  · refine wpAny_pyIter_list (Heap.IsList.of ho) ?_
    have hit := Heap.get?_push_size s₁.heap (o := { cls := .type "list_iterator", data := .fields #[.ref b, .int 0 0] }) rfl
    refine ⟨l, _, _, _, hR, (Itr.list (b := b) (n := n) (vs := vs) (it := s₁.heap.objs.size) ?_ ?_ hne hb0).dyn, ⟨rfl, ⟨_, hit, rfl, rfl⟩, Heap.get?_push_of_some _ ho, ?_⟩, (st.trans (Step.push _ (t := s₁.toks))).g _, fun b' q => q ▸ hs0, fun i q => q.elim⟩
    · rintro (q | q)
      · exact nb q
      · rw [Heap.get?_push_of_some _ ho] at q; cases q
    · rintro (q | q)
      · exact hnV q
      · rw [hit] at q; cases q
    · refine (hl.grow fun x q => ?_).keeps fun x o _ e => Heap.get?_push_of_some _ e
      rcases q with (q | q) | q
      · exact .inl q
      · exact .inr (none_of_keep (fun o e => Heap.get?_push_of_some _ e) q)
      · exact .inr (q ▸ hbn)
  · refine wpAny_pyIter_tuple (Heap.IsTuple.of ho) ?_
    have hit := Heap.get?_push_size s₁.heap (o := { cls := .type "tuple_iterator", data := .fields #[.ref b, .int 0 0] }) rfl
    refine ⟨l, _, _, _, hR, (Itr.tuple (b := b) (n := n) (vs := vs) (it := s₁.heap.objs.size) ?_ ?_ hne hb0).dyn, ⟨rfl, ⟨_, hit, rfl, rfl⟩, Heap.get?_push_of_some _ ho, ?_⟩, (st.trans (Step.push _ (t := s₁.toks))).g _, fun b' q => q ▸ hs0, fun i q => q.elim⟩
    · rintro (q | q)
      · exact nb q
      · rw [Heap.get?_push_of_some _ ho] at q; cases q
    · rintro (q | q)
      · exact hnV q
      · rw [hit] at q; cases q
    · refine (hl.grow fun x q => ?_).keeps fun x o _ e => Heap.get?_push_of_some _ e
      rcases q with (q | q) | q
      · exact .inl q
      · exact .inr (none_of_keep (fun o e => Heap.get?_push_of_some _ e) q)
      · exact .inr (q ▸ hbn)
end
end Mine
namespace Mine
open PySem PySem.W PySem.Calls PyProof.Rows

def Callee (X : Wd) (f : Value) : Prop := keepIn X.K f = true ∨ (∃ T, f = .type T) ∨ ∃ id, f = .builtin id
theorem Callee.looks {X : Wd} {f : Value} (c : Callee X f) {M : Model} {h : Heap} (H : X.K.In h) : ∃ k, (k = Keeper.frame ∨ k = Keeper.machine ∨ k = Keeper.boundFrame) ∧ Looks M h (keeperOf f) k := by
  rcases c with c | ⟨T, rfl⟩ | ⟨T, rfl⟩
  · exact keeps_K c h H
  · exact ⟨.machine, .inr (.inl rfl), Looks.of_pure rfl⟩
  · exact ⟨.machine, .inr (.inl rfl), Looks.of_pure rfl⟩

theorem star_first {e : Expr} {r : List Expr} {env : Env} {pos : Pos} (h : noStar (e :: r) = true) : (backTo pos (starEach (e :: r) env)) = (false, eval e env) :: backTo pos (starEach r env) ∧ noStar r = true := star_cons h
theorem star_none {env : Env} {pos : Pos} : ∀ {es : List Expr}, noStar es = true → (backTo pos (starEach es env)).any (·.1) = false
  | [], _ => rfl
  | e :: r, h => by
    obtain ⟨he, hr⟩ := star_cons (env := env) (pos := pos) h
    rw [he]
    show (false || (backTo pos (starEach r env)).any (·.1)) = false
    rw [star_none hr]; rfl

section
variable {Y : Act} {a : Vw} {M V : Rgn} {P : PV → Prop}
theorem args_any {A : Around} {E : Value → Shared → Prop} {s : Shared} {f : Value} {es : List Expr} {pos : Pos} {R : List PV → Prop} {Q : Args → Shared → Prop} (h : PEs Y a es R) (hn : noStar es = true) (hA : AOk A Y.n) (G : EnvOk Y ⟨a, M, V⟩ s)
    (k : ∀ vs s' ds, R ds → Vals Y.P V s'.heap ds vs → Step None s s' → EnvOk Y ⟨a, M, V⟩ s' → Q ⟨vs, []⟩ s') : wpAny Y.mo A (evalArgs f true (backTo pos (starEach es Y.env)) []) Q E s := by
  cases es with
  | nil => exact evalArgs_nil3 (k [] s [] h (by simp) (Step.refl _ _) G)
  | cons e r =>
    have hu := PEs.use (pos := pos) (E := E) (Q := fun vs s' => Q ⟨vs, []⟩ s') h hn hA G k
    rw [(star_cons (env := Y.env) (pos := pos) hn).1] at hu ⊢
    exact evalArgs_plain hu

theorem call_any {A : Around} {E : Value → Shared → Prop} {s : Shared} {x : Str} {p pos : Pos} {es : List Expr} {f : Value} {R : List PV → Prop} {Q : Value → Shared → Prop} (hf : FnIs Y x f) (hc : Callee Y.toWd f) (h : PEs Y a es R) (hn : noStar es = true) (hA : AOk A Y.n) (G : EnvOk Y ⟨a, M, V⟩ s)
    (k : ∀ vs s' ds, R ds → Vals Y.P V s'.heap ds vs → Step None s s' → EnvOk Y ⟨a, M, V⟩ s' → wpAny Y.mo A (call f vs) Q E s') (hd : (x == ("__debug__" : Str)) = false := by decide) : wpAny Y.mo A (eval (.Call (.Name x p) es [] pos) Y.env) Q E s := by
  refine wpAny_Call_NameR (rd_fn G hf ?_ hd)
  refine callWith_of (P := fun h => Y.K.In h) (by rw [star_none hn]; rfl) (fun h hh => hc.looks hh) ?_
  exact args_any h hn hA G fun vs s' ds hr hv st G' => ⟨G'.hp.inK, k vs s' ds hr hv st G'⟩

theorem PE.call {x : Str} {p pos : Pos} {es : List Expr} {f : Value} (hf : FnIs Y x f) (hc : Callee Y.toWd f) (h : PEs Y a es fun ds => FC Y.toWd Y.n f ds P) (hn : noStar es = true := by rfl) (hd : (x == ("__debug__" : Str)) = false := by decide) :
    PE Y a (.Call (.Name x p) es [] pos) P := fun M V A E s hA G =>
  call_any hf hc h hn hA G (fun vs s' ds hr hv st G' => res_after st (hr A E s' V vs hA G'.hp hv)) hd

/-- what a call gives, as something to walk over -/
def FCI (X : Wd) (n : Nat) (nm : IK) (f : Value) (ds : List PV) (R : List PV → Prop) : Prop :=
  ∀ (A : Around) (E : Value → Shared → Prop) (s : Shared) (V : Rgn) (vs : List Value), AOk A n → Hp X V s → Vals X.P V s.heap ds vs →
    wpAny X.mo A (call f vs) (fun x s₁ => wpAny X.mo A (pyIter x) (fun it s₂ => ∃ (l : List PV) (own : Rgn) (gn : Nat → Prop) (J : Rgn → Nat → Shared → Prop), R l ∧ ItrD X A (fun b => V b ∨ s₂.heap.get? b = none) own gn nm it l J ∧ J own 0 s₂ ∧
      StepG None gn s s₂ ∧ (∀ b, own b → s.heap.get? b = none) ∧ (∀ i, gn i → s.gens[i]? = none)) E s₁) E s
theorem IterE.call {nm : IK} {R : List PV → Prop} {x : Str} {p pos : Pos} {es : List Expr} {f : Value} (hf : FnIs Y x f) (hc : Callee Y.toWd f) (h : PEs Y a es fun ds => FCI Y.toWd Y.n nm f ds R) (hn : noStar es = true := by rfl) (hd : (x == ("__debug__" : Str)) = false := by decide) :
    IterE Y a nm (.Call (.Name x p) es [] pos) R := fun M V A E s hA G =>
  call_any hf hc h hn hA G (fun vs s' ds hr hv st G' => wpAny_mono (hr A E s' V vs hA G'.hp hv) (fun x s₁ h => wpAny_mono h (fun it s₂ ⟨l, own, gn, J, h1, h2, h3, h4, h5, h6⟩ =>
    ⟨l, own, gn, J, h1, h2, h3, (st.g gn).trans h4, fun b q => none_of_keep (fun o => st.kp b o) (h5 b q), fun i q => by
      cases e : s.gens[i]? with
      | none => rfl
      | some x => have h6' := h6 i q; rw [st.gkeep i x e] at h6'; cases h6'⟩) fun _ _ z => z) fun _ _ z => z) hd
end

theorem fci_range {X : Wd} {n : Nat} {a b : Int} {R : List PV → Prop} (ha : -(2 ^ 62) ≤ a) (ha' : a < 2 ^ 62) (hb : -(2 ^ 62) ≤ b) (hb' : b < 2 ^ 62) (hR : R (numsFrom a (b - a).toNat)) : FCI X n .seq (.type "range") [.int a, .int b] R := fun A E s V vs hA H hv => by
  obtain ⟨v₁, r, rfl, h1, hv⟩ := vals_cons.mp hv
  obtain ⟨v₂, r, rfl, h2, hv⟩ := vals_cons.mp hv
  have := vals_nil.mp hv
  subst this
  obtain ⟨t, rfl⟩ := val_int.mp h1
  obtain ⟨u, rfl⟩ := val_int.mp h2
  refine call_range_2 (wpAny_pyIter_range (IsRange.new ..) (small_one ha ha' hb hb') ?_)
  have hsz : Builtin.Range.rangeSize a b 1 = ((b - a).toNat : Int) := by rw [rangeSize_one]; split <;> omega
  rw [hsz]
  have z : (s.heap.push { cls := .type "range", data := .fields #[.int a t, .int b u, .int 1 s.toks] }).objs.size = s.heap.objs.size + 1 := Heap.size_push ..
  refine ⟨_, fun x => x = _, fun _ => False, _, hR, (Itr.range ?_ ?_).dyn, ⟨rfl, ?_⟩, ((Step.push _ (t := s.toks + 1)).trans (Step.push _ (t := s.toks + 1))).g _, ?_, fun i q => q.elim⟩
  · rintro (q | q)
    · obtain ⟨o, e⟩ := H.bnd _ q
      have q' := Heap.lt_size e
      rw [z] at q'
      exact Nat.lt_irrefl _ (Nat.lt_of_succ_lt q')
    · rw [Heap.get?_push_size _ rfl] at q; cases q
  · exact none_of_keep (H.keep _) (get?_none_of_le (by rw [z]; omega))
  · show IsRangeIter _ _ (a + ((0 : Nat) : Int)) (((b - a).toNat : Int) - ((0 : Nat) : Int)) 1
    have e1 : a + ((0 : Nat) : Int) = a := by simp
    have e2 : ((b - a).toNat : Int) - ((0 : Nat) : Int) = ((b - a).toNat : Int) := by simp
    rw [e1, e2]
    exact Heap.get?_push_size _ rfl
  · rintro x rfl
    exact get?_none_of_le (by rw [z]; omega)

theorem fci_range1 {X : Wd} {n : Nat} {b : Int} {R : List PV → Prop} (hb : -(2 ^ 62) ≤ b) (hb' : b < 2 ^ 62) (hR : R (numsFrom 0 b.toNat)) : FCI X n .seq (.type "range") [.int b] R := fun A E s V vs hA H hv => by
  obtain ⟨v₂, r, rfl, h2, hv⟩ := vals_cons.mp hv
  have := vals_nil.mp hv
  subst this
  obtain ⟨u, rfl⟩ := val_int.mp h2
  refine call_range_1 (wpAny_pyIter_range (IsRange.new ..) (small_one (by decide) (by decide) hb hb') ?_)
  have hsz : Builtin.Range.rangeSize 0 b 1 = (b.toNat : Int) := by rw [rangeSize_one]; split <;> omega
  rw [hsz]
  have z : (s.heap.push { cls := .type "range", data := .fields #[.int 0 s.toks, .int b u, .int 1 (s.toks + 1)] }).objs.size = s.heap.objs.size + 1 := Heap.size_push ..
  refine ⟨_, fun x => x = _, fun _ => False, _, hR, (Itr.range ?_ ?_).dyn, ⟨rfl, ?_⟩, ((Step.push _ (t := s.toks + 1 + 1)).trans (Step.push _ (t := s.toks + 1 + 1))).g _, ?_, fun i q => q.elim⟩
  · rintro (q | q)
    · obtain ⟨o, e⟩ := H.bnd _ q
      have q' := Heap.lt_size e
      rw [z] at q'
      exact Nat.lt_irrefl _ (Nat.lt_of_succ_lt q')
    · rw [Heap.get?_push_size _ rfl] at q; cases q
  · exact none_of_keep (H.keep _) (get?_none_of_le (by rw [z]; omega))
  · show IsRangeIter _ _ (0 + ((0 : Nat) : Int)) ((b.toNat : Int) - ((0 : Nat) : Int)) 1
    have e2 : (b.toNat : Int) - ((0 : Nat) : Int) = (b.toNat : Int) := by simp
    rw [e2]
    exact Heap.get?_push_size _ rfl
  · rintro x rfl
    exact get?_none_of_le (by rw [z]; omega)
end Mine
namespace Mine
open PySem PySem.W PySem.Calls PyProof.Rows

/-- a walker over the sequence at b, seen from within another walker -/
structure Core (X : Wd) (it b : Addr) (l : List PV) (T : Nat → Heap → Prop) (O : Heap → Prop) (Vs : List Value) : Prop where
  item : ∀ (A : Around) (E : Value → Shared → Prop) (s : Shared) (Q : Value → Shared → Prop) (i : Nat) (x : Value), T i s.heap → O s.heap → Vs[i]? = some x →
    (∀ h', T (i + 1) h' → Heap.SameBut it s.heap h' → Q x { s with heap := h' }) → wpAny X.mo A (Builtin.SmallTypes.nextOf (.ref it)) Q E s
  fin : ∀ (A : Around) (E : Value → Shared → Prop) (s : Shared) (Q : Value → Shared → Prop), A.handled = none → T Vs.length s.heap → O s.heap →
    (∀ h' e, Heap.ExtBut it s.heap h' → (∃ o, h'.get? e = some o ∧ o.cls = .type "StopIteration") → E (.ref e) { s with heap := h' }) → wpAny X.mo A (Builtin.SmallTypes.nextOf (.ref it)) Q E s
  hereT : ∀ i h, T i h → h.get? it ≠ none
  keepT : ∀ i h h', T i h → (∀ o, h.get? it = some o → h'.get? it = some o) → T i h'
  keepO : ∀ h h', O h → (∀ o, h.get? b = some o → h'.get? b = some o) → O h'

theorem core_list {X : Wd} {it b : Addr} {l : List PV} {vs : Array Value} {n : Nat} : Core X it b l (fun i h => h.IsListIter it b i) (fun h => h.get? b = some (seqO tList vs n)) vs.toList where
  item := fun A E s Q i x hT hO hx k => wpAny_nextOf_list_item hT (Heap.IsList.of hO) (by rw [← Array.getElem?_toList]; exact hx) k
  fin := fun A E s Q hA hT hO k => wpAny_nextOf_list_end hA hT (Heap.IsList.of hO) (by rw [Array.getElem?_eq_none]; simp) k
  hereT := fun i h ⟨o, ho, _⟩ q => by rw [ho] at q; cases q
  keepT := fun i h h' ⟨o, ho, r⟩ k => ⟨o, k _ ho, r⟩
  keepO := fun h h' ho k => k _ ho

theorem core_tuple {X : Wd} {it b : Addr} {l : List PV} {vs : Array Value} {n : Nat} : Core X it b l (fun i h => h.IsTupleIter it b i) (fun h => h.get? b = some (seqO tTuple vs n)) vs.toList where
  item := fun A E s Q i x hT hO hx k => by
    have hx' : vs[i]? = some x := by rw [← Array.getElem?_toList]; exact hx
    obtain ⟨o, ho, hc, hd⟩ := id hT
    unfold Builtin.SmallTypes.nextOf
    refine wpAny_bind (wpAny_callSpecial?_slot (name := Str.ofString "__next__") hT.typeIs F.slot_tuple_iterator_next
      (wpAny_call_entry F.slot_tuple_iterator_next hT.typeIs F.entry_tuple_iterator_next ?_ (F.args_tuple_iterator_next_1 _)))
    show wpAny _ _ (field (.ref it) 0 >>= _) _ _ s
    refine wpAny_bind (wpAny_field ho hd (x := .ref b) rfl ?_)
    show wpAny _ _ (if (Value.ref b == Value.none) = true then _ else _) _ _ s
    rw [if_neg (show ¬ ((Value.ref b == Value.none) = true) from Bool.false_ne_true)]
    show wpAny _ _ (field (.ref it) 1 >>= _) _ _ s
    refine wpAny_bind (wpAny_field ho hd (x := .int i 0) rfl ?_)
    show wpAny _ _ (seqItems? (.ref b) >>= _) _ _ s
    refine wpAny_bind (wpAny_seqItems hO rfl ?_)
    simp only [Int.toNat_natCast, hx']
    refine wpAny_bind (wpAny_setField ho hd (by simp) (wpAny_pure ⟨x, rfl, wpAny_pure (k _ ?_ (Heap.SameBut.update ..))⟩))
    exact ⟨_, Heap.get?_update_self _ ho (Obj.isFreed_of_fields (Obj.data_mapFields hd _)), (Obj.cls_mapFields ..).trans hc, by
      rw [Obj.data_mapFields hd]; simp [rawInt]⟩
  fin := fun A E s Q hA hT hO k => by
    have hx' : vs[vs.toList.length]? = none := by rw [Array.getElem?_eq_none]; simp
    obtain ⟨o, ho, hc, hd⟩ := id hT
    unfold Builtin.SmallTypes.nextOf
    refine wpAny_bind (wpAny_callSpecial?_slot (name := Str.ofString "__next__") hT.typeIs F.slot_tuple_iterator_next
      (wpAny_call_entry F.slot_tuple_iterator_next hT.typeIs F.entry_tuple_iterator_next ?_ (F.args_tuple_iterator_next_1 _)))
    show wpAny _ _ (field (.ref it) 0 >>= _) _ _ s
    refine wpAny_bind (wpAny_field ho hd (x := .ref b) rfl ?_)
    show wpAny _ _ (if (Value.ref b == Value.none) = true then _ else _) _ _ s
    rw [if_neg (show ¬ ((Value.ref b == Value.none) = true) from Bool.false_ne_true)]
    show wpAny _ _ (field (.ref it) 1 >>= _) _ _ s
    refine wpAny_bind (wpAny_field ho hd (x := .int vs.toList.length 0) rfl ?_)
    show wpAny _ _ (seqItems? (.ref b) >>= _) _ _ s
    refine wpAny_bind (wpAny_seqItems hO rfl ?_)
    simp only [Int.toNat_natCast, hx']
    refine wpAny_bind (wpAny_rule (wpAny_bind (wpAny_setField ho hd (by simp) ?_)))
    show wpAny _ _ (newExc (.type "StopIteration") [] >>= _) _ _ _
    refine wpAny_bind ?_
    simp only [newExc, newTuple]
    refine wpAny_bind (wpAny_newObj_type ?_ (by size_fits))
    refine wpAny_bind (m := firstArgMember _ _) (wpAny_of_eq (a := Value.none) (by first | rfl | (simp only [firstArgMember]; rfl)) ?_)
    refine wpAny_newObj_type ?_ (by size_fits)
    simp only [raiseNew]
    refine wpAny_bind (wpAny_handled ?_)
    first | rw [show A.in1.handled = none from hA] | rw [hA]
    refine wpAny_bind (wpAny_pure (wpAny_throw ?_))
    exact k _ _ (((Heap.SameBut.update ..).extBut.push _).push _) ⟨_, Heap.get?_push_size _ rfl, rfl⟩
  hereT := fun i h ⟨o, ho, _⟩ q => by rw [ho] at q; cases q
  keepT := fun i h h' ⟨o, ho, r⟩ k => ⟨o, k _ ho, r⟩
  keepO := fun h h' ho k => k _ ho

def enumPV : Nat → List PV → List PV
  | _, [] => []
  | i, d :: r => .tup [.int i, d] :: enumPV (i + 1) r
theorem enumPV_length : ∀ (l : List PV) (i : Nat), (enumPV i l).length = l.length
  | [], _ => rfl
  | d :: r, i => by simp [enumPV, enumPV_length r]
theorem enumPV_get : ∀ (l : List PV) (i k : Nat), (enumPV i l)[k]? = (l[k]?).map fun d => .tup [.int ((i + k : Nat) : Int), d]
  | [], _, _ => by simp [enumPV]
  | d :: r, i, 0 => by simp [enumPV]
  | d :: r, i, k + 1 => by
    simp only [enumPV, List.getElem?_cons_succ]
    rw [enumPV_get r]
    cases r[k]? with
    | none => rfl
    | some d => simp only [Option.map_some]; have : i + 1 + k = i + (k + 1) := by omega
                rw [this]

section
variable {X : Wd} {A : Around} {E : Value → Shared → Prop} {s : Shared}
/-- enumerate's own step, over any walker -/
theorem enum_item {e it b : Addr} {l : List PV} {T : Nat → Heap → Prop} {O : Heap → Prop} {Vs : List Value} {i : Nat} {x old : Value} {Q : Option Value → Shared → Prop} (c : Core X it b l T O Vs)
    (he : IsEnum s.heap e it i old) (hT : T i s.heap) (hO : O s.heap) (hx : Vs[i]? = some x) (hne : e ≠ it) (hbe : b ≠ e) (hbi : b ≠ it)
    (hQ : ∀ h' a, s.heap.get? a = none → IsEnumOut h' e it ((i : Int) + 1) x a → T (i + 1) h' → O h' →
      h'.get? a = some (seqO tTuple #[.int i s.toks, x] 0) → (∀ b o, b ≠ e → b ≠ it → s.heap.get? b = some o → h'.get? b = some o) → Q (some (.ref a)) { s with heap := h', toks := s.toks + 1 }) :
    wpAny X.mo A (pyNext (.ref e)) Q E s := by
  have hty : s.TypeIs (.ref e) "enumerate" := ⟨_, he, rfl⟩
  obtain ⟨hp, g, d, tk, os⟩ := s
  unfold pyNext
  refine wpAny_bind (wpAny_attempt (wpAny_callSpecial?_slot (name := Str.ofString "__next__") hty F.slot_enumerate_next
    (wpAny_call_entry F.slot_enumerate_next hty F.entry_enumerate_next ?_ (F.args_enumerate_next_1 _))))
  show wpAny _ _ (field (.ref e) 2 >>= _) _ _ _
  refine wpAny_bind (wpAny_field he rfl (x := .ref it) rfl ?_)
  refine wpAny_bind (c.item _ _ _ _ i x hT hO hx fun h₁ t₁ s₁ => ?_)
  replace s₁ : Heap.SameBut it hp h₁ := s₁
  replace hO : O hp := hO
  have e₁ : IsEnum h₁ e it i old := (s₁.2 e hne).trans he
  have k₁ : ∀ b o, b ≠ e → b ≠ it → hp.get? b = some o → h₁.get? b = some o := fun b o _ n q => (s₁.2 b n).trans q
  have z₁ := s₁.1
  clear s₁
  show wpAny _ _ (field (.ref e) 3 >>= _) _ _ ⟨h₁, g, d, tk, os⟩
  refine wpAny_bind (wpAny_field e₁ rfl (x := rawInt i) rfl ?_)
  show wpAny _ _ (field (.ref e) 4 >>= _) _ _ ⟨h₁, g, d, tk, os⟩
  refine wpAny_bind (wpAny_field e₁ rfl (x := .none) rfl ?_)
  show wpAny _ _ (mkInt i >>= _) _ _ ⟨h₁, g, d, tk, os⟩
  refine wpAny_bind (wpAny_mkInt ?_)
  show wpAny _ _ (setField (.ref e) 3 (rawInt ((i : Int) + 1)) >>= _) _ _ ⟨h₁, g, d, tk + 1, os⟩
  refine wpAny_bind (wpAny_setField_rec e₁ (by simp) fun h₂ e₂ s₂ => ?_)
  replace s₂ : Heap.SameBut e h₁ h₂ := s₂
  replace e₂ : IsEnum h₂ e it ((i : Int) + 1) old := e₂
  show wpAny _ _ (setField (.ref e) 4 .none >>= _) _ _ ⟨h₂, g, d, tk + 1, os⟩
  refine wpAny_bind (wpAny_setField_rec e₂ (by simp) fun h₃ e₃ s₃ => ?_)
  replace s₃ : Heap.SameBut e h₂ h₃ := s₃
  replace e₃ : IsEnum h₃ e it ((i : Int) + 1) old := e₃
  have k₃ : ∀ b, b ≠ e → h₃.get? b = h₁.get? b := fun b n => (s₃.2 b n).trans (s₂.2 b n)
  have z₃ : h₃.objs.size = h₁.objs.size := s₃.1.trans s₂.1
  show wpAny _ _ (newTuple [.int i tk, x] >>= _) _ _ ⟨h₃, g, d, tk + 1, os⟩
  clear s₂ s₃ e₂ h₂
  refine wpAny_bind (wpAny_newTuple ?_)
  have hnew : h₃.get? h₃.objs.size = none := get?_size _
  have hge : h₃.objs.size ≠ e := fun q => by rw [q, e₃] at hnew; cases hnew
  have e₄ : IsEnum (h₃.push { cls := .type "tuple", data := .seq #[.int i tk, x] }) e it ((i : Int) + 1) old := Heap.get?_push_of_some _ e₃
  have n₄ : (h₃.push { cls := .type "tuple", data := .seq #[.int i tk, x] }).get? h₃.objs.size = some (seqO tTuple #[.int i tk, x] 0) := Heap.get?_push_size _ rfl
  have k₄ : ∀ b o, b ≠ e → h₁.get? b = some o → (h₃.push { cls := .type "tuple", data := .seq #[.int i tk, x] }).get? b = some o := fun b o n q => Heap.get?_push_of_some _ ((k₃ b n).trans q)
  have hs0 : hp.get? h₃.objs.size = none := get?_none_of_le (by rw [z₃, z₁]; exact Nat.le_refl _)
  show wpAny _ _ (Builtin.SmallTypes.ownedTupleIsFree (.ref e) >>= _) _ _ ⟨h₃.push { cls := .type "tuple", data := .seq #[.int i tk, x] }, g, d, tk + 1, os⟩
  generalize h₃.push { cls := .type "tuple", data := .seq #[.int i tk, x] } = h₄ at e₄ n₄ k₄ ⊢
  refine wpAny_bind ?_
  unfold Builtin.SmallTypes.ownedTupleIsFree
  refine wpAny_bind (wpAny_field e₄ rfl (x := .none) rfl (wpAny_pure ?_))
  simp only [if_true]
  refine wpAny_bind (wpAny_rule ?_)
  refine wpAny_bind (wpAny_field e₄ rfl (x := old) rfl ?_)
  refine wpAny_bind (wpAny_setField_rec e₄ (by simp) fun h₅ e₅ s₅ => ?_)
  replace s₅ : Heap.SameBut e h₄ h₅ := s₅
  replace e₅ : IsEnum h₅ e it ((i : Int) + 1) x := e₅
  show wpAny _ _ (Builtin.SmallTypes.ownedTupleHandOut (.ref e) (.ref h₃.objs.size) >>= _) _ _ ⟨h₅, g, d, tk + 1, os⟩
  refine wpAny_bind ?_
  unfold Builtin.SmallTypes.ownedTupleHandOut
  refine wpAny_bind (wpAny_setField_rec e₅ (by simp) fun h₆ e₆ s₆ => ?_)
  replace s₆ : Heap.SameBut e h₅ h₆ := s₆
  replace e₆ : IsEnumOut h₆ e it ((i : Int) + 1) x h₃.objs.size := e₆
  refine wpAny_setField_rec e₆ (by simp) fun h₇ e₇ s₇ => ?_
  replace s₇ : Heap.SameBut e h₆ h₇ := s₇
  replace e₇ : IsEnumOut h₇ e it ((i : Int) + 1) x h₃.objs.size := e₇
  have k₇ : ∀ b, b ≠ e → h₇.get? b = h₄.get? b := fun b n => ((s₇.2 b n).trans (s₆.2 b n)).trans (s₅.2 b n)
  have k₇' : ∀ b o, b ≠ e → h₁.get? b = some o → h₇.get? b = some o := fun b o n q => (k₇ b n).trans (k₄ b o n q)
  refine wpAny_bind (wpAny_letGo (wpAny_pure ⟨_, rfl, ?_⟩))
  refine wpAny_pure (hQ h₇ _ hs0 e₇ (c.keepT _ _ _ t₁ fun o q => k₇' it o (Ne.symm hne) q) ?_ ((k₇ _ hge).trans n₄) fun b o n m q => k₇' b o n (k₁ b o n m q))
  exact c.keepO _ _ hO fun o q => k₇' b o hbe (k₁ b o hbe hbi q)

theorem enum_end {e it b : Addr} {l : List PV} {T : Nat → Heap → Prop} {O : Heap → Prop} {Vs : List Value} {i : Nat} {old : Value} {Q : Option Value → Shared → Prop} (c : Core X it b l T O Vs) (hA : A.handled = none)
    (he : IsEnum s.heap e it i old) (hT : T Vs.length s.heap) (hO : O s.heap) (hQ : ∀ h', Heap.ExtBut it s.heap h' → Q none { s with heap := h' }) :
    wpAny X.mo A (pyNext (.ref e)) Q E s := by
  have hty : s.TypeIs (.ref e) "enumerate" := ⟨_, he, rfl⟩
  unfold pyNext
  refine wpAny_bind (wpAny_attempt (wpAny_callSpecial?_slot (name := Str.ofString "__next__") hty F.slot_enumerate_next
    (wpAny_call_entry F.slot_enumerate_next hty F.entry_enumerate_next ?_ (F.args_enumerate_next_1 _))))
  show wpAny _ _ (field (.ref e) 2 >>= _) _ _ _
  refine wpAny_bind (wpAny_field he rfl (x := .ref it) rfl ?_)
  refine wpAny_bind (c.fin _ _ _ _ hA hT hO fun h' x e' hx' => ?_)
  obtain ⟨o, ho, hc⟩ := hx'
  refine wpAny_bind (wpAny_isInstance (T := "StopIteration") (b := true) ⟨o, ho, hc⟩ isSubtype_stop ?_)
  exact wpAny_pure (hQ _ e')
end

/-- enumerate's iterator -/
theorem Itr.enum {X : Wd} {A₀ : Around} {F : Rgn} {e it b : Addr} {l : List PV} {T : Nat → Heap → Prop} {O : Heap → Prop} {Vs : List Value} (c : Core X it b l T O Vs)
    (hF : ¬ F b) (hi : ¬ F it) (hei : ¬ F e) (hne : e ≠ it) (hbe : b ≠ e) (hbi : b ≠ it) (h0 : X.b₀.get? it = none) (h1 : X.b₀.get? e = none) :
    Itr X A₀ F (fun x => x = it ∨ x = e) (fun _ => False) .enum (.ref e) (enumPV 0 l) fun i s => (∃ old, IsEnum s.heap e it (i : Int) old) ∧ T i s.heap ∧ O s.heap ∧ Vals X.P (fun x => F x ∨ x = it ∨ x = e) s.heap l Vs where
  next := fun A E s Q i d V hA _ hd hk hV hb ⟨⟨old, he⟩, hT, hO, hv⟩ k => by
    rw [enumPV_get] at hd
    cases hl : l[i]? with
    | none => rw [hl] at hd; cases hd
    | some d₀ =>
      rw [hl] at hd
      have hd' : d = .tup [.int (i : Int), d₀] := by simpa using hd.symm
      subst hd'
      obtain ⟨x, hx, hxv⟩ := hv.get hl
      refine enum_item c he hT hO hx hne hbe hbi fun h' a ha he' hT' hO' hn hk' => ?_
      have st : Step (fun x => x = it ∨ x = e) s { s with heap := h', toks := s.toks + 1 } := Step.heap fun b o n q => hk' b o (fun w => n (.inr w)) (fun w => n (.inl w)) q
      have ex := c
      have hv' : Vals X.P (fun x => F x ∨ x = it ∨ x = e) h' l Vs := hv.step st fun a q => .inr q
      have hxv' : Val X.P V h' d₀ x := (hxv.step st fun a q => .inr q).less fun a q => hV a q
      have hva : ¬ V a := fun q => by obtain ⟨o, eo⟩ := hb a q; rw [ha] at eo; cases eo
      have hxv2 : Val X.P (fun q => V q ∨ q = it ∨ q = e) h' d₀ x := (hxv.step st fun a q => .inr q).less fun a q => q.elim (hV a) .inr
      have hva2 : ¬ (V a ∨ a = it ∨ a = e) := by
        rintro (q | q | q)
        · exact hva q
        · exact c.hereT _ _ hT (q ▸ ha)
        · rw [q] at ha; cases he.symm.trans ha
      have hval2 : Val X.P (fun q => V q ∨ q = it ∨ q = e) h' (.tup [.int (i : Int), d₀]) (.ref a) := val_seq.mpr ⟨a, 0, _, rfl, hva2, hn, by simp only [vals_cons', vals_nil, and_true]; exact ⟨val_int.mpr ⟨_, rfl⟩, hxv2⟩⟩
      have hval : Val X.P V h' (.tup [.int (i : Int), d₀]) (.ref a) := val_seq.mpr ⟨a, 0, _, rfl, hva, hn, by simp only [vals_cons', vals_nil, and_true]; exact ⟨val_int.mpr ⟨_, rfl⟩, hxv'⟩⟩
      refine k _ _ (st.g _) hval (fun q => absurd rfl q) fun elts x1 pos E' Q' k' => ?_
      refine wpAny_letOwnedTupleGo_enum he' fun h'' he'' hs'' => ?_
      have st2 : Step (fun x => x = it ∨ x = e) { s with heap := h', toks := s.toks + 1 } { s with heap := h'', toks := s.toks + 1 } := Step.same hs'' (.inr rfl)
      exact k' _ (st2.g _) ((hval2.step st2 fun a q => .inr q).less fun a q => .inl q) ⟨⟨x, by simpa using he''⟩, c.keepT _ _ _ hT' (fun o q => (hs''.2 it (Ne.symm hne)).trans q), c.keepO _ _ hO' (fun o q => (hs''.2 b hbe).trans q), hv'.step st2 fun a q => .inr q⟩
  done := fun A E s Q hA _ hk ⟨⟨old, he⟩, hT, hO, hv⟩ k => by
    rw [enumPV_length] at he hT
    rw [hv.length] at hT
    refine enum_end c hA.handled he hT hO fun h' e' => k _ (StepG.mk (fun a o n q => e' a o (fun w => n (.inl w)) q) rfl (fun _ _ _ e => e) fun _ _ e => .inr (.inl e)) fun i q => q.elim
  frame := fun i s s' W hW ⟨⟨old, he⟩, hT, hO, hv⟩ st =>
    ⟨⟨old, st.keep e _ (fun w => hei (hW _ w)) he⟩, c.keepT _ _ _ hT (fun o q => st.keep it _ (fun w => hi (hW _ w)) q), c.keepO _ _ hO (fun o q => st.keep b _ (fun w => hF (hW _ w)) q), hv.step st fun a w => .inl (hW _ w)⟩
  out := fun a q => by rcases q with rfl | rfl; exact ⟨hi, h0⟩; exact ⟨hei, h1⟩
  nog := fun _ i q => q
  self := fun A E s Q i ⟨⟨old, he⟩, _⟩ k => wpAny_pyIter_enum he k
  here := fun i s ⟨⟨old, he⟩, hT, _⟩ a q => by
    rcases q with rfl | rfl
    · cases e : s.heap.get? a with
      | none => exact absurd e (c.hereT _ _ hT)
      | some o => exact ⟨o, rfl⟩
    · exact ⟨_, he⟩

theorem meets_enum_tuple (l : Addr) (items : Array Value) (n : Nat) :
    Meets (Builtin.«enumerate.__new__» ⟨[.type "enumerate", .ref l], []⟩) (fun _ R s => s.heap.get? l = some (seqO tTuple items n) ∧
      R (.ok (.ret (.ref (s.heap.push { cls := .type "tuple_iterator", data := .fields #[.ref l, .int 0 0] }).objs.size)))
        { s with heap := (s.heap.push { cls := .type "tuple_iterator", data := .fields #[.ref l, .int 0 0] }).push { cls := .type "enumerate", data := .fields #[.none, .bool false, .ref s.heap.objs.size, rawInt 0, .none, .none] } }) :=
  .of_wp fun prog w A R s h => by
    obtain ⟨hp, g, d, tk, os⟩ := s; obtain ⟨hl, h⟩ := h
    have hsub := sub_enumerate
    have hL : Heap.IsTuple (Shared.heap ⟨hp, g, d, tk, os⟩) l items := ⟨_, hl, rfl, n, rfl⟩
    wp_walk using AutoSeq1.wpAny_loadPart' hl
    refine wpAny_stack_any fun st => wpAny_pure ?_
    split
    · rename_i c _ _ _ _ _
      cases (c == Value.type "enumerate")
      · wp_walk using AutoSeq1.wpAny_loadPart' hl, wpAny_pyIter_tuple hL
        exact ⟨_, rfl, h⟩
      · wp_walk using AutoSeq1.wpAny_loadPart' hl, wpAny_pyIter_tuple hL
        exact ⟨_, rfl, h⟩
    · wp_walk using AutoSeq1.wpAny_loadPart' hl, wpAny_pyIter_tuple hL
      exact ⟨_, rfl, h⟩

section
variable {prog : Program} {w : World} {A : Around} {E : Value → Shared → Prop} {s : Shared}
theorem call_enum_tuple {l : Addr} {items : Array Value} {n : Nat} {Q : Value → Shared → Prop} (hl : s.heap.get? l = some (seqO tTuple items n))
    (h : ∀ h', IsEnum h' (s.heap.objs.size + 1) s.heap.objs.size 0 .none → h'.IsTupleIter s.heap.objs.size l 0 → h'.objs.size = s.heap.objs.size + 2 →
      (∀ b o, s.heap.get? b = some o → h'.get? b = some o) → Q (.ref (s.heap.objs.size + 1)) { s with heap := h' }) :
    wpAny (model prog w) A (call (.type "enumerate") [.ref l]) Q E s := by
  refine callType_new F.called_enumerate (by decide) (F.typeCall_enumerate_1 _) (F.newCall_enumerate_1 _) (fun obj => F.args_object_init_2 obj _) F.entry_enumerate_new
    (meets_enum_tuple l items n) ⟨hl, ?_⟩
  have hz : (s.heap.push { cls := .type "tuple_iterator", data := .fields #[.ref l, .int 0 0] }).objs.size = s.heap.objs.size + 1 := Heap.size_push ..
  show _ ∧ _
  rw [hz]
  have he : IsEnum ((s.heap.push { cls := .type "tuple_iterator", data := .fields #[.ref l, .int 0 0] }).push
      { cls := .type "enumerate", data := .fields #[.none, .bool false, .ref s.heap.objs.size, rawInt 0, .none, .none] }) (s.heap.objs.size + 1) s.heap.objs.size 0 .none := by
    have := Heap.get?_push_size (s.heap.push { cls := .type "tuple_iterator", data := .fields #[.ref l, .int 0 0] })
      (o := { cls := .type "enumerate", data := .fields #[.none, .bool false, .ref s.heap.objs.size, rawInt 0, .none, .none] }) rfl
    rw [hz] at this; exact this
  exact ⟨⟨_, he, rfl⟩, h _ he ⟨_, Heap.get?_push_of_some _ (Heap.get?_push_size _ rfl), rfl, rfl⟩ (by rw [Heap.size_push, hz]) fun b o x => Heap.get?_push_of_some _ (Heap.get?_push_of_some _ x)⟩
end

theorem fci_enum {X : Wd} {n : Nat} {c : Value} {l : List PV} {R : List PV → Prop} (hc : c = tList ∨ c = tTuple) (hR : R (enumPV 0 l)) : FCI X n .enum (.type "enumerate") [.seq c l] R := fun A E s V vs hA H hv => by
  obtain ⟨v, r, rfl, h1, hv⟩ := vals_cons.mp hv
  have := vals_nil.mp hv
  subst this
  obtain ⟨b, m, ws, rfl, nb, ho, hl⟩ := val_seq.mp h1
  have hn0 : s.heap.get? s.heap.objs.size = none := get?_size _
  have hn1 : s.heap.get? (s.heap.objs.size + 1) = none := get?_none_of_le (Nat.le_succ _)
  have hb0 : b ≠ s.heap.objs.size := fun q => by rw [q, hn0] at ho; cases ho
  have hb1 : b ≠ s.heap.objs.size + 1 := fun q => by rw [q, hn1] at ho; cases ho
  have hv0 : ¬ V s.heap.objs.size := H.fresh
  have hv1 : ¬ V (s.heap.objs.size + 1) := fun q => by obtain ⟨o, e⟩ := H.bnd _ q; rw [hn1] at e; cases e
  rcases hc with rfl | rfl
  · refine call_enumerate_1 ho fun h' he hi hz hk => ?_
    refine wpAny_pyIter_enum he ?_
    have st : Step None s { s with heap := h' } := Step.heap fun b o _ e => hk b o e
    obtain ⟨oi, hoi, ri⟩ := id hi
    refine ⟨_, _, _, _, hR, (Itr.enum (e := s.heap.objs.size + 1) (it := s.heap.objs.size) (b := b) core_list ?_ ?_ ?_ (Nat.succ_ne_self _) hb1 hb0 (none_of_keep (H.keep _) hn0) (none_of_keep (H.keep _) hn1)).dyn, ⟨rfl, ⟨_, he⟩, hi, hk _ _ ho, ?_⟩, st.g _, ?_, fun i q => q.elim⟩
    · rintro (q | q)
      · exact nb q
      · cases q.symm.trans (hk _ _ ho)
    · rintro (q | q)
      · exact hv0 q
      · cases q.symm.trans hoi
    · rintro (q | q)
      · exact hv1 q
      · cases q.symm.trans he
    · refine (hl.grow fun x q => ?_).keeps fun x o _ e => hk x o e
      rcases q with (q | q) | q | q
      · exact .inl q
      · exact .inr (none_of_keep (hk x) q)
      · exact .inr (q ▸ hn0)
      · exact .inr (q ▸ hn1)
    · rintro x (rfl | rfl)
      · exact hn0
      · exact hn1
  · refine call_enum_tuple ho fun h' he hi hz hk => ?_
    refine wpAny_pyIter_enum he ?_
    have st : Step None s { s with heap := h' } := Step.heap fun b o _ e => hk b o e
    obtain ⟨oi, hoi, ri⟩ := id hi
    refine ⟨_, _, _, _, hR, (Itr.enum (e := s.heap.objs.size + 1) (it := s.heap.objs.size) (b := b) core_tuple ?_ ?_ ?_ (Nat.succ_ne_self _) hb1 hb0 (none_of_keep (H.keep _) hn0) (none_of_keep (H.keep _) hn1)).dyn, ⟨rfl, ⟨_, he⟩, hi, hk _ _ ho, ?_⟩, st.g _, ?_, fun i q => q.elim⟩
    · rintro (q | q)
      · exact nb q
      · cases q.symm.trans (hk _ _ ho)
    · rintro (q | q)
      · exact hv0 q
      · cases q.symm.trans hoi
    · rintro (q | q)
      · exact hv1 q
      · cases q.symm.trans he
    · refine (hl.grow fun x q => ?_).keeps fun x o _ e => hk x o e
      rcases q with (q | q) | q | q
      · exact .inl q
      · exact .inr (none_of_keep (hk x) q)
      · exact .inr (q ▸ hn0)
      · exact .inr (q ▸ hn1)
    · rintro x (rfl | rfl)
      · exact hn0
      · exact hn1
end Mine
namespace Mine
open PySem PySem.W PySem.Calls PyProof.Rows

def Vw.set (a : Vw) (x : Str) (sl : Slot) : Vw := { a with ρ := fun y => if y = x then some sl else a.ρ y }
def AS.set (a : AS) (x : Str) (sl : Slot) : AS := ⟨a.toVw.set x sl, a.M, a.V⟩
@[simp] theorem AS.set_M (a : AS) (x : Str) (sl : Slot) : (a.set x sl).M = a.M := rfl
@[simp] theorem AS.set_V (a : AS) (x : Str) (sl : Slot) : (a.set x sl).V = a.V := rfl
@[simp] theorem AS.set_S (a : AS) (x : Str) (sl : Slot) : (a.set x sl).S = a.S := rfl
@[simp] theorem AS.set_I (a : AS) (x : Str) (sl : Slot) : (a.set x sl).I = a.I := rfl
theorem Vw.set_ρ (a : Vw) (x y : Str) (sl : Slot) : (a.set x sl).ρ y = if y = x then some sl else a.ρ y := rfl

def Storable (Y : Act) (x : Str) : Prop := Y.env.kindOf x = some .local ∨ (Y.env.kindOf x = some .cell ∧ ∃ c, Y.env.cells.lookup x = some c ∧ Y.O c)

section
variable {Y : Act} {a : AS} {q : Vw} {M V : Rgn} {s s' : Shared}
theorem SlotOk.stepO {h h' : Heap} {sl : Slot} {v : Value} {W : Rgn} (x : SlotOk Y a h sl v) (st : ∀ b o, ¬ W b → h.get? b = some o → h'.get? b = some o) (hw : ∀ b, W b → a.V b) (ho : ∀ b, W b → own Y.env b) : SlotOk Y a h' sl v := by
  cases sl with
  | fz d => exact Val.keeps (d := d) x fun b o n e => st b o (fun w => n (hw b w)) e
  | mt d => obtain ⟨r, e, a1, a2, a3, a4, t⟩ := x; exact ⟨r, e, a1, a2, a3, a4, t.at (fun b o n e => ⟨n, st b o (fun w => n (hw b w)) e⟩) fun o e => st r o (fun w => a2 (ho r w)) e⟩

theorem SlotOk.ext {a a' : AS} {h : Heap} {sl : Slot} {v : Value} (x : SlotOk Y a h sl v) (hM : a'.M = a.M) (hV : a'.V = a.V) (hS : a'.S = a.S) : SlotOk Y a' h sl v := by
  obtain ⟨⟨S, ρ, I⟩, M, V⟩ := a
  obtain ⟨⟨S', ρ', I'⟩, M', V'⟩ := a'
  simp only at hM hV hS
  subst hM hV hS
  cases sl with
  | fz d => exact x
  | mt d => exact x

/-- a store is alone with its value -/
def Alone (Y : Act) (a : AS) (h : Heap) (x : Str) : Slot → Value → Prop
  | .fz _, _ => True
  | .mt _, v => ∀ y d, y ≠ x → a.ρ y = some (.mt d) → ¬ Reads1 Y.env h y v

theorem EnvOk.put {x : Str} {sl : Slot} {v : Value} (G : EnvOk Y a s) (st : ∀ b o, ¬ Y.O b → s.heap.get? b = some o → s'.heap.get? b = some o)
    (ns' : ∃ m, s'.heap.Ns Y.env.locals m) (cell' : ∀ n c, Y.env.cells.lookup n = some c → ∃ v, s'.heap.IsCell c v)
    (R1 : Reads1 Y.env s'.heap x v) (R2 : ∀ y u, y ≠ x → Reads1 Y.env s.heap y u → Reads1 Y.env s'.heap y u) (hs : SlotOk Y a s.heap sl v) (hd : Alone Y a s.heap x sl v) : EnvOk Y (a.set x sl) s' where
  kind := G.kind
  glob := G.glob
  blt := G.blt
  keep := fun b o e => st b o (fun w => by rw [G.low b (G.mv b (G.om b (G.oo b w)))] at e; cases e) (G.keep b o e)
  bnd := fun b hb => by
    by_cases w : Y.O b
    · rcases G.oo b w with rfl | ⟨n, e⟩
      · obtain ⟨m, o, _, _, ho, _⟩ := ns'; exact ⟨o, ho⟩
      · obtain ⟨u, o, ho, _⟩ := cell' n b e; exact ⟨o, ho⟩
    · obtain ⟨o, e⟩ := G.bnd b hb
      exact ⟨o, st b o w e⟩
  mv := G.mv
  uv := G.uv
  om := G.om
  ou := G.ou
  oo := G.oo
  lo := G.lo
  low := G.low
  ns := ns'
  cell := fun n c e => ⟨(G.cell n c e).1, cell' n c e⟩
  apart := G.apart
  slots := fun y sl' e => by
    rw [AS.set, Vw.set_ρ] at e
    split at e
    · rename_i q
      cases e
      subst q
      exact ⟨v, R1, (hs.stepO st (fun b w => G.mv b (G.om b (G.oo b w))) fun b w => G.oo b w).ext rfl rfl rfl⟩
    · rename_i q
      obtain ⟨u, r, hu⟩ := G.slots y sl' e
      exact ⟨u, R2 y u q r, (hu.stepO st (fun b w => G.mv b (G.om b (G.oo b w))) fun b w => G.oo b w).ext rfl rfl rfl⟩
  dist := fun y z d e u hn hy hz ry rz => by
    rw [AS.set, Vw.set_ρ] at hy hz
    split at hy <;> split at hz
    · rename_i q q'; exact hn (q.trans q'.symm)
    · rename_i q q'
      cases hy
      subst q
      have := R1.uniq ry
      subst this
      obtain ⟨u', r', _⟩ := G.slots z _ hz
      have := (R2 z u' q' r').uniq rz
      subst this
      exact hd z e q' hz r'
    · rename_i q q'
      cases hz
      subst q'
      have := R1.uniq rz
      subst this
      obtain ⟨u', r', _⟩ := G.slots y _ hy
      have := (R2 y u' q r').uniq ry
      subst this
      exact hd y d q hy r'
    · rename_i q q'
      obtain ⟨u', r', _⟩ := G.slots y _ hy
      obtain ⟨u'', r'', _⟩ := G.slots z _ hz
      have e1 := (R2 y u' q r').uniq ry
      have e2 := (R2 z u'' q' r'').uniq rz
      subst e1 e2
      exact G.dist y z d e _ hn hy hz r' r''
  sm := G.sm
  os := G.os
  inv := G.stab _ _ _ _ G.inv (fun b o q e => st b o (fun w => G.os b q (G.oo b w)) e) fun b o n e => ⟨n, st b o (fun w => n (G.mv b (G.om b (G.oo b w)))) e⟩
  stab := G.stab

theorem store_full {A : Around} {E : Value → Shared → Prop} {x : Str} {sl : Slot} {v : Value} {Q : Unit → Shared → Prop} (G : EnvOk Y a s) (hx : Storable Y x) (hs : SlotOk Y a s.heap sl v) (hd : Alone Y a s.heap x sl v)
    (k : ∀ s', EnvOk Y (a.set x sl) s' → Step Y.O s s' → Reads1 Y.env s'.heap x v → (∀ y u, y ≠ x → Reads1 Y.env s.heap y u → Reads1 Y.env s'.heap y u) → Q () s') : wpAny Y.mo A (storeName Y.env x v) Q E s := by
  rcases hx with hk | ⟨hk, c, hc, hO⟩
  · obtain ⟨m, hm⟩ := G.ns
    refine wpAny_storeName_local hk hm (fun h' hn' hs' => ?_) (by rw [G.kind]; rfl)
    have st : Step Y.O s { s with heap := h', toks := s.toks + 1 } := Step.same hs' G.lo
    have R1 : Reads1 Y.env h' x v := .inl ⟨hk, _, hn', by simp⟩
    have R2 : ∀ y u, y ≠ x → Reads1 Y.env s.heap y u → Reads1 Y.env h' y u := fun y u hy r => by
      rcases r with ⟨k1, m1, n1, e1⟩ | ⟨k1, c1, l1, o1, ho1, d1⟩
      · rw [Ns.uniq n1 hm] at e1
        exact .inl ⟨k1, _, hn', by simp [hy, e1]⟩
      · exact .inr ⟨k1, c1, l1, o1, (hs'.2 c1 (G.cell _ _ l1).1).trans ho1, d1⟩
    refine k _ (G.put (s' := { s with heap := h', toks := s.toks + 1 }) st.keep ⟨_, hn'⟩ (fun n c e => ?_) R1 R2 hs hd) st R1 R2
    obtain ⟨h1, u, o, ho, r⟩ := G.cell n c e
    exact ⟨u, o, (hs'.2 c h1).trans ho, r⟩
  · obtain ⟨hcl, v₀, hv₀⟩ := G.cell x c hc
    refine wpAny_storeName_cell G.kind hk hc hv₀ fun h' hc' hs' => ?_
    have st : Step Y.O s { s with heap := h' } := Step.same (t := s.toks) hs' hO
    have hns : ∃ m, h'.Ns Y.env.locals m := by
      obtain ⟨m, o, es, ep, ho, r⟩ := G.ns
      exact ⟨m, o, es, ep, (hs'.2 _ (Ne.symm hcl)).trans ho, r⟩
    have R1 : Reads1 Y.env h' x v := .inr ⟨.inl hk, c, hc, hc'⟩
    have R2 : ∀ y u, y ≠ x → Reads1 Y.env s.heap y u → Reads1 Y.env h' y u := fun y u hy r => by
      rcases r with ⟨k1, m1, ⟨o1, es1, ep1, ho1, d1⟩, e1⟩ | ⟨k1, c1, l1, o1, ho1, d1⟩
      · exact .inl ⟨k1, m1, ⟨o1, es1, ep1, (hs'.2 _ (Ne.symm hcl)).trans ho1, d1⟩, e1⟩
      · refine .inr ⟨k1, c1, l1, o1, (hs'.2 c1 fun q => ?_).trans ho1, d1⟩
        subst q
        exact hy (G.apart _ _ _ l1 hc)
    refine k _ (G.put (s' := { s with heap := h' }) st.keep hns (fun n c' e => ?_) R1 R2 hs hd) st R1 R2
    by_cases q : c' = c
    · exact ⟨_, q ▸ hc'⟩
    · obtain ⟨h1, u, o, ho, r⟩ := G.cell n c' e
      exact ⟨u, o, (hs'.2 c' q).trans ho, r⟩
theorem store_any {A : Around} {E : Value → Shared → Prop} {x : Str} {sl : Slot} {v : Value} {Q : Unit → Shared → Prop} (G : EnvOk Y a s) (hx : Storable Y x) (hs : SlotOk Y a s.heap sl v) (hd : Alone Y a s.heap x sl v)
    (k : ∀ s', EnvOk Y (a.set x sl) s' → Step Y.O s s' → Q () s') : wpAny Y.mo A (storeName Y.env x v) Q E s :=
  store_full G hx hs hd fun s' a b _ _ => k s' a b

/-- binding a target -/
def PA (Y : Act) (q : Vw) (t : Expr) (d : PV) (q' : Vw) : Prop :=
  ∀ (M V : Rgn) (A : Around) (E : Value → Shared → Prop) (s : Shared) (v : Value) (Q : Unit → Shared → Prop), A.handled = none → EnvOk Y ⟨q, M, V⟩ s → Val Y.P V s.heap d v →
    (∀ s', EnvOk Y ⟨q', M, V⟩ s' → Step Y.O s s' → Q () s') → wpAny Y.mo A (assign t Y.env v) Q E s

theorem PA.name {x : Str} {pos : Pos} {d : PV} (hx : Storable Y x) : PA Y q (.Name x pos) d (q.set x (.fz d)) :=
  fun M V A E s v Q hA G hv k => wpAny_assign_Name (store_any (sl := .fz d) G hx hv trivial k)

def PAs (Y : Act) (q : Vw) : List Expr → List PV → Vw → Prop
  | [], [], q' => q' = q
  | t :: ts, d :: ds, q' => ∃ q₁, PA Y q t d q₁ ∧ PAs Y q₁ ts ds q'
  | _, _, _ => False

theorem tstar_cons {e : Expr} {r : List Expr} {env : Env} (h : noStar (e :: r) = true) : assignEach (e :: r) env = (false, assign e env) :: assignEach r env ∧ noStar r = true := by
  cases e <;> first | exact ⟨rfl, h⟩ | cases h
theorem tstar_none {env : Env} : ∀ {es : List Expr}, noStar es = true → (assignEach es env).findIdx? (·.1) = none ∧ (assignEach es env).length = es.length
  | [], _ => ⟨rfl, rfl⟩
  | e :: r, h => by
    obtain ⟨he, hr⟩ := tstar_cons (env := env) h
    obtain ⟨h1, h2⟩ := tstar_none (env := env) hr
    rw [he]
    exact ⟨by rw [List.findIdx?_cons]; simp [h1], by simp [h2]⟩

theorem PAs.go : ∀ {ts : List Expr} {ds : List PV} {q q' : Vw} {A : Around} {E : Value → Shared → Prop} {s : Shared} {vs : List Value} {Q : Unit → Shared → Prop}, PAs Y q ts ds q' → noStar ts = true → A.handled = none → EnvOk Y ⟨q, M, V⟩ s → Vals Y.P V s.heap ds vs →
    (∀ s', EnvOk Y ⟨q', M, V⟩ s' → Step Y.O s s' → Q () s') → wpAny Y.mo A (assignInOrder ((assignEach ts Y.env).map (·.2)) vs) Q E s
  | [], [], q, q', A, E, s, vs, Q, h, _, hA, G, hv, k => by
    have : q' = q := h
    subst this
    have := vals_nil.mp hv
    subst this
    exact wpAny_pure (k s G (Step.refl _ _))
  | t :: ts, d :: ds, q, q', A, E, s, vs, Q, h, hn, hA, G, hv, k => by
    obtain ⟨q₁, p, hr⟩ := h
    obtain ⟨v, r, rfl, h1, h2⟩ := vals_cons.mp hv
    obtain ⟨he, hn'⟩ := tstar_cons (env := Y.env) hn
    rw [he]
    show wpAny Y.mo A (assignInOrder (assign t Y.env :: ((assignEach ts Y.env).map (·.2))) (v :: r)) Q E s
    unfold assignInOrder
    refine wpAny_bind (wpAny_holding (p M V A E s v _ hA G h1 fun s' G' st => ?_))
    exact PAs.go hr hn' hA G' (h2.step st fun b w => G.mv b (G.om b (G.oo b w))) fun s'' G'' st' => k s'' G'' (st.trans st')
  | [], _ :: _, _, _, A, E, s, vs, Q, h, _, hA, G, hv, k => h.elim
  | _ :: _, [], _, _, A, E, s, vs, Q, h, _, hA, G, hv, k => h.elim

theorem PA.tup {ts : List Expr} {x1} {pos : Pos} {ds : List PV} {q' : Vw} (h : PAs Y q ts ds q') (hn : noStar ts = true := by rfl) (hl : ts.length = ds.length := by rfl) : PA Y q (.Tuple ts x1 pos) (.tup ds) q' :=
  fun M V A E s v Q hA G hv k => by
    obtain ⟨r, n, vs, rfl, nb, ho, hvs⟩ := val_seq.mp hv
    obtain ⟨h1, h2⟩ := tstar_none (env := Y.env) hn
    refine wpAny_assign_Tuple hA (Heap.IsTuple.of ho) (by rw [h2, hl, hvs.length]; simp) h1 fun h' he => ?_
    have st : Step None s { s with heap := h' } := Step.heap (t := s.toks) fun b o _ e => he b o (fun q => by rw [q, get?_size] at e; cases e) e
    exact h.go hn hA (G.stepN st) (hvs.stepN st) fun s' G' st' => k s' G' ((st.all _).trans st')

/-- a statement that changes names alone -/
theorem own_step {s' : Shared} (G : EnvOk Y a s) (st : Step Y.O s s') : Step a.M s s' := st.mono fun b w => G.om b (G.oo b w)
theorem own_step' {s₁ : Shared} (G : EnvOk Y a s) (st : Step Y.O s₁ s') : Step a.M s₁ s' := st.mono fun b w => G.om b (G.oo b w)
theorem own_gr {q' : Vw} {s₁ : Shared} (G : EnvOk Y ⟨q, M, V⟩ s) (st₁ : Step None s s₁) (st : Step Y.O s₁ s') : Gr ⟨q, M, V⟩ s ⟨q', M, V⟩ s' :=
  ⟨(st₁.all _).trans (own_step' G st), fun x q => .inl q, fun x q => .inl q, fun x q _ => q⟩

theorem PS1.assign {x : Str} {p pos : Pos} {e : Expr} {Φ : AF → Vw → Prop} (hx : Storable Y x) (h : PE Y q e fun d => Φ .next (q.set x (.fz d))) (hs : swapsWith e (some (.Name x p)) pos.line Y.env = pure false) : PS1 Y q (.Assign [.Name x p] e pos) Φ := fun M V A E s hA G => by
  refine wpAny_Assign_Name (h.use hA G fun v s₁ d hp hv st₁ G₁ => ?_) hs
  refine store_any (sl := .fz d) G₁ hx hv trivial fun s₂ G₂ st₂ => ?_
  exact ⟨.next, _, hp, rfl, G₂, own_gr G st₁ st₂⟩
theorem PS1.assignT {ts : List Expr} {x1} {tpos pos : Pos} {e : Expr} {Φ : AF → Vw → Prop} (h : PE Y q e fun d => ∃ q', PA Y q (.Tuple ts x1 tpos) d q' ∧ Φ .next q')
    (hs : swapsWithSole [.Tuple ts x1 tpos] e pos.line Y.env = pure false) (hw : swappedStores [.Tuple ts x1 tpos] e Y.env = pure none) : PS1 Y q (.Assign [.Tuple ts x1 tpos] e pos) Φ := fun M V A E s hA G => by
  refine Assign_Tuple (h.use hA G fun v s₁ d hp hv st₁ G₁ => ?_) hs hw
  obtain ⟨q', p, hΦ⟩ := hp
  refine p M V A E s₁ v _ hA.handled G₁ hv fun s₂ G₂ st₂ => ?_
  exact ⟨.next, ⟨q', M, V⟩, hΦ, rfl, G₂, own_gr G st₁ st₂⟩

theorem PS1.ret {e : Expr} {pos : Pos} {Φ : AF → Vw → Prop} (h : PE Y q e fun d => Φ (.ret d) q) : PS1 Y q (.Return (some e) pos) Φ := fun M V A E s hA G => by
  refine wpAny_Return_some (h.use hA G fun v s₁ d hp hv st₁ G₁ => ?_)
  exact ⟨.ret d, _, hp, ⟨v, rfl, hv⟩, G₁, Gr.stepN st₁⟩
theorem PS1.brk {pos : Pos} {Φ : AF → Vw → Prop} (h : Φ .brk q) : PS1 Y q (.Break pos) Φ := fun M V A E s hA G =>
  wpAny_Break ⟨.brk, _, h, rfl, G, Gr.refl _ _⟩
theorem PS1.if_ {t : Expr} {b o : List Stmt} {pos : Pos} {Φ : AF → Vw → Prop} (h : PT Y q t fun r => (r = true → PS Y q b Φ) ∧ (r = false → PS Y q o Φ)) : PS1 Y q (.If t b o pos) Φ := fun M V A E s hA G => by
  refine wpAny_If (h.use hA G fun r s₁ hr st₁ G₁ => ?_)
  cases r with
  | true => exact wpAny_mono (hr.1 rfl M V A E s₁ hA G₁) (fun f s' p => p.after (Gr.stepN st₁) G) fun _ _ x => x
  | false => exact wpAny_mono (hr.2 rfl M V A E s₁ hA G₁) (fun f s' p => p.after (Gr.stepN st₁) G) fun _ _ x => x
/-- a value that is dropped -/
theorem PS1.expr {e : Expr} {pos : Pos} {Φ : AF → Vw → Prop} (h : PE Y q e fun d => Φ .next q) (hi : interactive Y.env = false) (hs : swapsWith e none pos.line Y.env = pure false) : PS1 Y q (.Expr e pos) Φ := fun M V A E s hA G =>
  wpAny_Expr_any (h.use hA G fun v s₁ d hp hv st₁ G₁ => ⟨.next, _, hp, rfl, G₁, Gr.stepN st₁⟩) hi hs

/-- the while loop, with a measure -/
theorem PS1.while_ {t : Expr} {b : List Stmt} {pos : Pos} {Φ : AF → Vw → Prop} (Inv : Nat → Vw → Prop) (n₀ : Nat) (h0 : Inv n₀ q)
    (turn : ∀ n q', Inv n q' → PT Y q' t fun r => (r = false → Φ .next q') ∧ (r = true → PS Y q' b fun f q'' => match f with
      | .next | .cont => ∃ m, m < n ∧ Inv m q''
      | .brk => Φ .next q''
      | .ret d => Φ (.ret d) q'')) : PS1 Y q (.While t b [] pos) Φ := fun M V A E s hA G => by
  refine wpAny_While (codeAny_whileLoop (fun n s' => ∃ a', Inv n a'.toVw ∧ EnvOk Y a' s' ∧ Gr ⟨q, M, V⟩ s a' s') ?_ n₀ ⟨_, h0, G, Gr.refl _ _⟩)
  rintro n s' ⟨a', hI, G', g⟩
  refine (turn n _ hI).use hA G' fun r s₁ hr st₁ G₁ => ?_
  have g₁ : Gr ⟨q, M, V⟩ s a' s₁ := g.trans (Gr.stepN st₁) G
  cases r with
  | false => exact wpAny_execs_nil ⟨.next, a', hr.1 rfl, rfl, G₁, g₁⟩
  | true =>
    refine wpAny_mono (hr.2 rfl a'.M a'.V A _ s₁ hA G₁) (fun f s₂ p => ?_) fun _ _ x => x
    obtain ⟨af, a'', hΦ, hf, G₂, g₂⟩ := p
    have g₃ := g₁.trans g₂ G
    cases af with
    | next => cases hf; obtain ⟨m, hm, hI'⟩ := hΦ; exact ⟨m, hm, a'', hI', G₂, g₃⟩
    | cont => cases hf; obtain ⟨m, hm, hI'⟩ := hΦ; exact ⟨m, hm, a'', hI', G₂, g₃⟩
    | brk => cases hf; exact ⟨.next, a'', hΦ, rfl, G₂, g₃⟩
    | ret d => obtain ⟨v, rfl, hv⟩ := hf; exact ⟨.ret d, a'', hΦ, ⟨v, rfl, hv⟩, G₂, g₃⟩
end
end Mine
namespace Mine
open PySem PySem.W PySem.Calls PyProof.Rows

section
variable {Y : Act} {a a' : AS} {q : Vw} {M V W : Rgn} {s s' : Shared} {A : Around} {E : Value → Shared → Prop}

/-- new objects are taken into the region that no datum stands on -/
theorem EnvOk.cover (G : EnvOk Y ⟨q, M, V⟩ s) (hn : ∀ b, W b → s.heap.get? b = none) (st : ∀ b o, s.heap.get? b = some o → s'.heap.get? b = some o) (hb : ∀ b, W b → ∃ o, s'.heap.get? b = some o) :
    EnvOk Y ⟨q, M, fun b => V b ∨ W b⟩ s' where
  kind := G.kind
  glob := G.glob
  blt := G.blt
  keep := fun b o e => st b o (G.keep b o e)
  bnd := fun x hx => hx.elim (fun h => let ⟨o, e⟩ := G.bnd x h; ⟨o, st x o e⟩) (hb x)
  mv := fun x h => .inl (G.mv x h)
  uv := fun x h => .inl (G.uv x h)
  om := G.om
  ou := G.ou
  oo := G.oo
  lo := G.lo
  low := fun x h => h.elim (G.low x) fun h => none_of_keep (fun o => G.keep x o) (hn x h)
  ns := let ⟨m, h⟩ := G.ns; ⟨m, h.keeps st⟩
  cell := fun n c e => let ⟨h1, v, h2⟩ := G.cell n c e; ⟨h1, v, h2.keeps st⟩
  apart := G.apart
  slots := fun x sl e => by
    obtain ⟨v, r, h⟩ := G.slots x sl e
    refine ⟨v, r.keeps fun b o _ q => st b o q, ?_⟩
    cases sl with
    | fz d => exact (Val.grow (d := d) h fun b w => w.imp id (hn b)).keeps fun b o _ e => st b o e
    | mt d =>
      obtain ⟨r, e, a1, a2, a3, a4, t⟩ := h
      refine ⟨r, e, a1, a2, a3, a4, Top.at (V := V) (fun b o n e => ⟨fun w => ?_, st b o e⟩) t fun o e => st r o e⟩
      rcases w with w | w
      · exact n w
      · rw [hn b w] at e; cases e
  dist := fun x y d e v hn hx hy h1 h2 => by
    obtain ⟨v1, r1, _⟩ := G.slots x _ hx
    obtain ⟨v2, r2, _⟩ := G.slots y _ hy
    have e1 := (r1.keeps fun b o _ q => st b o q : Reads1 Y.env s'.heap x v1).uniq h1
    have e2 := (r2.keeps fun b o _ q => st b o q : Reads1 Y.env s'.heap y v2).uniq h2
    subst e1 e2
    exact G.dist x y d e _ hn hx hy r1 r2
  sm := G.sm
  os := G.os
  inv := G.stab _ _ _ _ G.inv (fun b o _ e => st b o e) fun b o n e => ⟨fun w => w.elim n fun w => (by rw [hn b w] at e; cases e), st b o e⟩
  stab := G.stab

/-- both at once: some turn, some are new -/
theorem EnvOk.coverW {C : Rgn} (G : EnvOk Y ⟨q, M, V⟩ s) (hn : ∀ b, W b → s.heap.get? b = none) (st : ∀ b o, ¬ C b → s.heap.get? b = some o → s'.heap.get? b = some o) (hC : ∀ b, C b → V b) (hCM : ∀ b, M b → ¬ C b)
    (hb : ∀ b, (W b ∨ C b) → ∃ o, s'.heap.get? b = some o) : EnvOk Y ⟨q, M, fun b => V b ∨ W b⟩ s' := by
  have G' : EnvOk Y ⟨q, M, V⟩ s' := G.stepW C st hC (fun b c m => hCM b m c) fun b c => hb b (.inr c)
  exact {
    kind := G.kind
    glob := G.glob
    blt := G.blt
    keep := G'.keep
    bnd := fun x hx => hx.elim (G'.bnd x) fun w => hb x (.inl w)
    mv := fun x h => .inl (G.mv x h)
    uv := fun x h => .inl (G.uv x h)
    om := G.om
    ou := G.ou
    oo := G.oo
    lo := G.lo
    low := fun x h => h.elim (G.low x) fun h => none_of_keep (fun o => G.keep x o) (hn x h)
    ns := G'.ns
    cell := G'.cell
    apart := G.apart
    slots := fun x sl e => by
      obtain ⟨v, r, h⟩ := G.slots x sl e
      refine ⟨v, r.keeps fun b o w q => st b o (hCM b (G.om b w)) q, ?_⟩
      cases sl with
      | fz d => exact (Val.grow (d := d) h fun b w => w.imp id (hn b)).keeps fun b o n e => st b o (fun c => n (.inl (hC b c))) e
      | mt d =>
        obtain ⟨r, e, a1, a2, a3, a4, t⟩ := h
        refine ⟨r, e, a1, a2, a3, a4, Top.at (V := V) (fun b o n e => ⟨fun w => ?_, st b o (fun c => n (hC b c)) e⟩) t fun o e => st r o (hCM r a1) e⟩
        rcases w with w | w
        · exact n w
        · rw [hn b w] at e; cases e
    dist := G'.dist
    sm := G.sm
    os := G.os
    inv := G.stab _ _ _ _ G.inv (fun b o w e => st b o (hCM b (G.sm b w)) e) fun b o n e => ⟨fun w => w.elim n fun w => (by rw [hn b w] at e; cases e), st b o (fun c => n (hC b c)) e⟩
    stab := G.stab }

/-- and set free again, while they turn -/
theorem EnvOk.leave (G : EnvOk Y ⟨q, M, V⟩ s) (st : ∀ b o, ¬ W b → s.heap.get? b = some o → s'.heap.get? b = some o) (hw : ∀ b, W b → V b) (hm : ∀ b, M b → ¬ W b) (hu : ∀ b, Y.U b → ¬ W b) : EnvOk Y ⟨q, M, fun b => V b ∧ ¬ W b⟩ s' where
  kind := G.kind
  glob := G.glob
  blt := G.blt
  keep := fun b o e => st b o (fun w => by rw [G.low b (hw b w)] at e; cases e) (G.keep b o e)
  bnd := fun x hx => let ⟨o, e⟩ := G.bnd x hx.1; ⟨o, st x o hx.2 e⟩
  mv := fun x h => ⟨G.mv x h, hm x h⟩
  uv := fun x h => ⟨G.uv x h, hu x h⟩
  om := G.om
  ou := G.ou
  oo := G.oo
  lo := G.lo
  low := fun x h => G.low x h.1
  ns := by
    obtain ⟨m, o, es, ep, ho, r⟩ := G.ns
    exact ⟨m, o, es, ep, st _ _ (hm _ (G.om _ (.inl rfl))) ho, r⟩
  cell := fun n c e => by
    obtain ⟨h1, v, o, ho, r⟩ := G.cell n c e
    exact ⟨h1, v, o, st _ _ (hm _ (G.om _ (.inr ⟨n, e⟩))) ho, r⟩
  apart := G.apart
  slots := fun x sl e => by
    obtain ⟨v, r, h⟩ := G.slots x sl e
    refine ⟨v, r.keeps fun b o q e => st b o (hm _ (G.om _ q)) e, ?_⟩
    cases sl with
    | fz d => exact Val.less (d := d) (V := V) (Val.keeps (d := d) h fun b o n e => st b o (fun w => n (hw b w)) e) fun b w => w.1
    | mt d =>
      obtain ⟨r, e, a1, a2, a3, a4, t⟩ := h
      exact ⟨r, e, a1, a2, a3, a4, Top.at (V := V) (fun b o n e => ⟨fun w => n w.1, st b o (fun w => n (hw b w)) e⟩) t fun o e => st r o (hm r a1) e⟩
  dist := fun x y d e v hn hx hy h1 h2 => by
    obtain ⟨v1, r1, _⟩ := G.slots x _ hx
    obtain ⟨v2, r2, _⟩ := G.slots y _ hy
    have hk : ∀ b o, own Y.env b → s.heap.get? b = some o → s'.heap.get? b = some o := fun b o q e => st b o (hm _ (G.om _ q)) e
    have e1 := (r1.keeps hk : Reads1 Y.env s'.heap x v1).uniq h1
    have e2 := (r2.keeps hk : Reads1 Y.env s'.heap y v2).uniq h2
    subst e1 e2
    exact G.dist x y d e _ hn hx hy r1 r2
  sm := G.sm
  os := G.os
  inv := G.stab _ _ _ _ G.inv (fun b o q e => st b o (hm b (G.sm b q)) e) fun b o n e => ⟨fun w => n w.1, st b o (fun w => n (hw b w)) e⟩
  stab := G.stab

theorem FlowOk.less {P : Params} {V V' : Rgn} {h : Heap} {af : AF} {f : Flow} (x : FlowOk P V h af f) (hv : ∀ b, V' b → V b) : FlowOk P V' h af f := by
  cases af with
  | ret d => obtain ⟨v, e, hd⟩ := x; exact ⟨v, e, hd.less hv⟩
  | _ => exact x

theorem StepG.transO {W W' : Rgn} {G : Nat → Prop} {s₁ s₂ s₃ : Shared} (x : StepG W G s₁ s₂) (y : StepG W' G s₂ s₃) (h : ∀ b, W' b → W b ∨ s₁.heap.get? b = none) : StepG W G s₁ s₃ :=
  ⟨fun b o n e => y.keep b o (fun w => (h b w).elim n fun q => by rw [q] at e; cases e) (x.keep b o n e), y.os.trans x.os, fun i g n e => y.gkeep i g n (x.gkeep i g n e),
   fun i g e => (y.gnew i g e).elim .inl fun q => q.elim (fun e' => x.gnew i g e') fun q => .inr (.inr q)⟩
theorem StepG.none_or {W : Rgn} {G : Nat → Prop} {s₁ s₂ : Shared} (x : StepG W G s₁ s₂) {b : Addr} (e : s₂.heap.get? b = none) : W b ∨ s₁.heap.get? b = none := by
  by_cases h : W b
  · exact .inl h
  · exact .inr (none_of_keep (fun o => x.keep b o h) e)

def TOk (nm : IK) (t : Expr) : Prop := (nm ≠ .enum ∧ ∃ x p, t = .Name x p) ∨ ∃ elts k p, t = .Tuple elts k p

/-- a turn of an iterator, and what it lets go -/
theorem ItrD.turn {X : Wd} {A₀ : Around} {F own₀ own : Rgn} {gn : Nat → Prop} {nm : IK} {it : Value} {l : List PV} {J : Rgn → Nat → Shared → Prop} (it_ : ItrD X A₀ F own₀ gn nm it l J) {t : Expr} (ht : TOk nm t) {Q : Value → Shared → Prop} {R : Option Value → Shared → Prop} {E' : Value → Shared → Prop} {i : Nat} {d : PV} (hA : AOk A 4) (hg : nm = .gen → A = A₀) (hd : l[i]? = some d) (hk : ∀ b o, X.b₀.get? b = some o → s.heap.get? b = some o)
    (hV : ∀ x, V x → F x ∨ own x) (hb : ∀ x, V x → ∃ o, s.heap.get? x = some o) (hJ : J own i s)
    (k : ∀ v s' own', (∀ b, own b → own' b) → (∀ b, own' b → own b ∨ s.heap.get? b = none) → StepG own gn s s' → Val X.P (fun b => V b ∨ own' b) s'.heap d v → J own' (i + 1) s' → Q v s')
    (hR : ∀ v s', wpAny X.mo A (letOwnedTupleGo t it v) (fun _ s'' => Q v s'') E' s' → R (some v) s') : wpAny X.mo A (pyNext it) R E s := by
  refine it_.next A E s R i d V own hA hg hd hk hV hb hJ fun v s' own' h1 h2 st hv hJ' hl => hR v s' ?_
  rcases ht with ⟨hn, x, p, rfl⟩ | ⟨elts, kk, p, rfl⟩
  · exact wpAny_pure (k v s' own' h1 h2 st hv (hJ' hn))
  · exact hl elts kk p E' _ fun s'' st' hv' hJ'' => k v s'' own' h1 h2 (st.transO st' h2) hv' hJ''

/-- the for loop -/
theorem PS1.for_ {t iter : Expr} {b : List Stmt} {pos : Pos} {Φ : AF → Vw → Prop} {nm : IK} {R : List PV → Prop} (h : IterE Y q nm iter R) (ht : TOk nm t)
    (turn : ∀ l, R l → ∃ Inv : Nat → Vw → Prop, Inv 0 q ∧ (∀ i q' d, l[i]? = some d → Inv i q' → ∃ q'', PA Y q' t d q'' ∧ PS Y q'' b fun f q₃ => match f with
        | .next | .cont => Inv (i + 1) q₃
        | .brk => nm ≠ .gen ∧ Φ .next q₃
        | .ret d => nm ≠ .gen ∧ Φ (.ret d) q₃) ∧ (∀ q', Inv l.length q' → Φ .next q'))
    (hs : ∀ x, foldedSetIterable iter Y.env x = pure x := by intro _; rfl) : PS1 Y q (.For t iter b [] pos) Φ := fun M V A E s hA G => by
  refine wpAny_For (wpAny_mono (h M V A E s hA G) (fun x s₁ h₁ => wpAny_mono h₁ (fun it s₂ h₂ => ?_) fun _ _ x => x) fun _ _ x => x) hs
  obtain ⟨l, own', gn, J, hR, itr, hJ0, st₀, hown, hgn⟩ := h₂
  obtain ⟨Inv, hI0, hturn, hdone⟩ := turn l hR
  have nn : ∀ b, s₂.heap.get? b = none → s.heap.get? b = none := fun b => none_of_keep fun o => st₀.keep b o fun h => h
  have hA4 := hA.mono Y.hn
  have G₂ : EnvOk Y ⟨q, M, fun b => V b ∨ own' b⟩ s₂ := G.cover hown (fun b o e => st₀.keep b o (fun h => h) e) (itr.here own' 0 s₂ hJ0)
  have hvo : ∀ b, V b → ¬ own' b := fun b w o => by obtain ⟨ob, e⟩ := G.bnd b w; rw [hown b o] at e; cases e
  have hvn : ∀ b, V b → s₂.heap.get? b ≠ none := fun b w e => by
    obtain ⟨o, e'⟩ := G.bnd b w
    rw [st₀.keep b o (fun h => h) e'] at e; cases e
  have hUv : ∀ b, Y.U b → V b := fun b u => G.uv b u
  refine codeAny_forLoop_any (fun n s' => ∃ i a' o, n = l.length + 1 - i ∧ i ≤ l.length ∧ Inv i a'.toVw ∧ EnvOk Y a' s' ∧ J o i s' ∧ StepG (fun b => M b ∨ own' b) gn s₂ s' ∧
    (∀ b, a'.M b → M b ∨ s₂.heap.get? b = none) ∧ (∀ b, a'.V b → (V b ∨ own' b) ∨ s₂.heap.get? b = none) ∧ (∀ b, V b → ¬ M b → a'.V b) ∧ (∀ b, o b → a'.V b) ∧
    (∀ b, a'.M b → ¬ o b) ∧ (∀ b, o b → (M b ∨ own' b) ∨ s₂.heap.get? b = none) ∧ (∀ b, own' b → o b) ∧ (∀ b, Y.U b → ¬ o b)) ?_ (l.length + 1)
    ⟨0, ⟨q, M, fun b => V b ∨ own' b⟩, own', rfl, Nat.zero_le _, hI0, G₂, hJ0, StepG.refl _ _ _, fun b h => .inl h, fun b h => .inl h, fun b h _ => .inl h, fun b h => .inr h, fun b m o => hvo b (G.mv b m) o, fun b h => .inl (.inr h), fun b h => h, fun b u => hvo b (hUv b u)⟩
  rintro n s' ⟨i, a', o, rfl, hi, hI, G', hJ, st, hm, hv, hk, how, hmo, ho1, ho2, hUo⟩
  have hMF : ∀ b, a'.M b → V b ∨ s₂.heap.get? b = none := fun b w => (hm b w).imp (G.mv b) id
  have fin : ∀ {a₃ : AS} {s₃ s₄ : Shared} {af : AF} {f : Flow} {o' : Rgn}, (∀ b, o' b → (M b ∨ own' b) ∨ s₂.heap.get? b = none) → (∀ b, own' b → o' b) → (∀ b, Y.U b → ¬ o' b) → EnvOk Y a₃ s₃ → (∀ b o, ¬ o' b → s₃.heap.get? b = some o → s₄.heap.get? b = some o) → Φ af a₃.toVw → FlowOk Y.P a₃.V s₄.heap af f → (∀ b, o' b → a₃.V b) → (∀ b, a₃.M b → ¬ o' b) →
      Step (fun b => M b ∨ own' b) s s₄ → (∀ b, a₃.M b → M b ∨ s₂.heap.get? b = none) → (∀ b, a₃.V b → (V b ∨ own' b) ∨ s₂.heap.get? b = none) → (∀ b, V b → ¬ M b → a₃.V b) → Post Y Φ ⟨q, M, V⟩ s f s₄ := fun {a₃ s₃ s₄ af f o'} h1 h2 h3 G₃ hst hΦ hf ho hmo st hm hv hk =>
    ⟨af, ⟨a₃.toVw, a₃.M, fun b => a₃.V b ∧ ¬ o' b⟩, hΦ, hf.less fun b w => w.1, G₃.leave (M := a₃.M) (V := a₃.V) (q := a₃.toVw) hst ho hmo h3,
      st.old fun b w => w.imp id (hown b), fun b w => (hm b w).imp id (nn b), fun b w => by
        rcases hv b w.1 with (w' | w') | w'
        · exact .inl w'
        · exact absurd (h2 b w') w.2
        · exact .inr (nn b w'), fun b w m => ⟨hk b w m, fun w' => (h1 b w').elim (fun w' => w'.elim m (hvo b w)) (hvn b w)⟩⟩
  have stO : ∀ {o' : Rgn} {s₃ s₄ : Shared}, (∀ b, o' b → (M b ∨ own' b) ∨ s₂.heap.get? b = none) → StepG (fun b => M b ∨ own' b) gn s₂ s₃ → StepG o' gn s₃ s₄ → StepG (fun b => M b ∨ own' b) gn s₂ s₄ := fun h1 x y => x.transO y h1
  by_cases hlt : i < l.length
  · have hd : l[i]? = some l[i] := List.getElem?_eq_getElem hlt
    obtain ⟨q'', hPA, hPS⟩ := hturn i a'.toVw _ hd hI
    refine itr.turn ht (V := a'.V) hA4 (fun _ => rfl) hd G'.keep (fun b w => ?_) G'.bnd hJ (fun v s'' o' hoo hof st' hval hJ' => ?_) (fun v s'' x => x)
    · rcases hv b w with (w | w) | w
      · exact .inl (.inl w)
      · exact .inr (ho2 b w)
      · exact .inl (.inr w)
    have hnew : ∀ b, (o' b ∧ s'.heap.get? b = none) → s'.heap.get? b = none := fun b w => w.2
    have hoe : ∀ b, a'.V b ∨ (o' b ∧ s'.heap.get? b = none) ↔ a'.V b ∨ o' b := fun b => ⟨fun w => w.imp id (·.1), fun w => w.elim .inl fun w => (hof b w).elim (fun w => .inl (how b w)) fun e => .inr ⟨w, e⟩⟩
    have G'' : EnvOk Y ⟨a'.toVw, a'.M, fun b => a'.V b ∨ (o' b ∧ s'.heap.get? b = none)⟩ s'' := EnvOk.coverW (W := fun b => o' b ∧ s'.heap.get? b = none) (C := o) (q := a'.toVw) (M := a'.M) (V := a'.V) G' hnew st'.keep how hmo fun b w => itr.here _ _ _ hJ' b (w.elim (·.1) (hoo b))
    have hVe : (fun b => a'.V b ∨ (o' b ∧ s'.heap.get? b = none)) = fun b => a'.V b ∨ o' b := funext fun b => propext (hoe b)
    rw [hVe] at G''
    have hmo' : ∀ b, a'.M b → ¬ o' b := fun b m w => (hof b w).elim (hmo b m) fun e => by
      obtain ⟨ob, e'⟩ := G'.bnd b (G'.mv b m); rw [e] at e'; cases e'
    have ho1' : ∀ b, o' b → (M b ∨ own' b) ∨ s₂.heap.get? b = none := fun b w => (hof b w).elim (ho1 b) st.none_or
    have ho2' : ∀ b, own' b → o' b := fun b w => hoo b (ho2 b w)
    have hUo' : ∀ b, Y.U b → ¬ o' b := fun b u w => (hof b w).elim (hUo b u) fun e => by
      obtain ⟨ob, e'⟩ := G'.bnd b (G'.uv b u); rw [e] at e'; cases e'
    refine hPA a'.M (fun b => a'.V b ∨ o' b) A _ s'' v _ hA.handled G'' hval fun s₃ G₃ st₃ => ?_
    refine wpAny_mono (hPS a'.M (fun b => a'.V b ∨ o' b) A _ s₃ hA G₃) (fun f s₄ p => ?_) fun _ _ x => x
    obtain ⟨af, a₄, hΦ, hf, G₄, g⟩ := p
    have hOM : ∀ b, Y.O b → a'.M b := fun b w => G'.om b (G'.oo b w)
    have hJ₃ : J o' (i + 1) s₃ := itr.frame _ _ _ _ _ (fun b w => ⟨hMF b (hOM b w), hmo' b (hOM b w)⟩) hJ' st₃
    have hJ₄ : J o' (i + 1) s₄ := itr.frame _ _ _ _ _ (fun b w => ⟨hMF b w, hmo' b w⟩) hJ₃ g.st
    have st2 : StepG (fun b => M b ∨ own' b) gn s₂ s'' := stO ho1 st st'
    have st3 : StepG (fun b => M b ∨ own' b) gn s₂ s₃ := st2.transO (st₃.g gn) fun b w => (hm b (hOM b w)).imp .inl id
    have st4 : StepG (fun b => M b ∨ own' b) gn s₂ s₄ := st3.transO (g.st.g gn) fun b w => (hm b w).imp .inl id
    have none3 : ∀ b, s₃.heap.get? b = none → M b ∨ s₂.heap.get? b = none := fun b e => by
      rcases st3.none_or e with (h | h) | h
      · exact .inl h
      · obtain ⟨ob, e'⟩ := itr.here _ _ _ hJ₃ b (ho2' b h)
        rw [e] at e'; cases e'
      · exact .inr h
    have hm4 : ∀ b, a₄.M b → M b ∨ s₂.heap.get? b = none := fun b w => (g.m b w).elim (hm b) (none3 b)
    have hv4 : ∀ b, a₄.V b → (V b ∨ own' b) ∨ s₂.heap.get? b = none := fun b w => (g.v b w).elim (fun w => w.elim (hv b) fun w => (ho1' b w).imp (fun w => w.imp (G.mv b) id) id) fun e => (none3 b e).imp (fun h => .inl (G.mv b h)) id
    have hk4 : ∀ b, V b → ¬ M b → a₄.V b := fun b w n => g.k b (.inl (hk b w n)) fun m => (hm b m).elim n (hvn b w)
    have how4 : ∀ b, o' b → a₄.V b := fun b w => g.k b (.inr w) fun m => hmo' b m w
    have hmo4 : ∀ b, a₄.M b → ¬ o' b := fun b w w' => (g.m b w).elim (fun m => hmo' b m w') fun e => by
      obtain ⟨ob, e'⟩ := itr.here _ _ _ hJ₃ b w'; rw [e] at e'; cases e'
    have stop : nm ≠ .gen → Step (fun b => M b ∨ own' b) s s₄ := fun ng =>
      ((st₀.mono fun _ h => h.elim).trans st4).close (fun i h => absurd h (itr.nog ng i)) (fun i h => absurd h (itr.nog ng i))
    cases af with
    | next => cases hf; exact ⟨_, by omega, i + 1, a₄, o', rfl, hlt, hΦ, G₄, hJ₄, st4, hm4, hv4, hk4, how4, hmo4, ho1', ho2', hUo'⟩
    | cont => cases hf; exact ⟨_, by omega, i + 1, a₄, o', rfl, hlt, hΦ, G₄, hJ₄, st4, hm4, hv4, hk4, how4, hmo4, ho1', ho2', hUo'⟩
    | brk => cases hf; exact fin (af := .next) ho1' ho2' hUo' G₄ (fun b o _ e => e) hΦ.2 rfl how4 hmo4 (stop hΦ.1) hm4 hv4 hk4
    | ret d => obtain ⟨v, rfl, hv'⟩ := hf; exact fin (af := .ret d) ho1' ho2' hUo' G₄ (fun b o _ e => e) hΦ.2 ⟨v, rfl, hv'⟩ how4 hmo4 (stop hΦ.1) hm4 hv4 hk4
  · have hi' : i = l.length := Nat.le_antisymm hi (Nat.not_lt.mp hlt)
    subst hi'
    refine itr.done A _ s' _ _ hA4 (fun _ => rfl) G'.keep hJ fun s'' st' hg => wpAny_execs_nil ?_
    refine fin (af := .next) ho1 ho2 hUo G' st'.keep (hdone _ hI) rfl how hmo ?_ hm hv hk
    exact ((st₀.mono fun _ h => h.elim).trans (stO ho1 st st')).close hgn hg
end
end Mine
namespace Mine
open PySem PySem.W PySem.Calls PyProof.Rows

/-- keys that a dict can look up -/
structure DKey (X : Wd) (n : Nat) (ok : PV → Prop) : Prop where
  hash : ∀ (A : Around) (E : Value → Shared → Prop) (s : Shared) (V : Rgn) (k : PV) (v : Value) (Q : Int → Shared → Prop), AOk A n → Hp X V s → ok k → Val X.P V s.heap k v →
    (∀ tk, Q (hashPV X.P k) { s with toks := tk }) → wpAny X.mo A (pyHash v) Q E s
  find : ∀ (A : Around) (E : Value → Shared → Prop) (s : Shared) (V : Rgn) (k : PV) (v : Value) (d : Addr) (es : Array DictEntry) (ep : Nat) (ks : List PV) (Q : Option Nat → Shared → Prop), AOk A n → Hp X V s → ok k → (∀ x ∈ ks, ok x) →
    Val X.P V s.heap k v → s.heap.get? d = some (dictO es ep) → Vals X.P V s.heap ks (es.toList.map (·.key)) → es.toList.map (·.hash) = ks.map (hashPV X.P) → ks.Nodup →
    (∀ i, ks[i]? = some k → Q (some i) s) → (k ∉ ks → Q none s) → wpAny X.mo A (dictFind d v (hashPV X.P k)) Q E s

def DPut (ks ds : List PV) (k dv : PV) (ks' ds' : List PV) : Prop :=
  (∃ i, ks[i]? = some k ∧ ks' = ks ∧ ds' = ds.set i dv) ∨ (k ∉ ks ∧ ks' = ks ++ [k] ∧ ds' = ds ++ [dv])

theorem Vals.set {P : Params} {V : Rgn} {h : Heap} : ∀ {l : List PV} {vs : List Value} {i : Nat} {d : PV} {v : Value}, Vals P V h l vs → Val P V h d v → Vals P V h (l.set i d) (vs.set i v)
  | [], vs, i, d, v, x, y => by have := vals_nil.mp x; subst this; simp
  | _ :: l, vs, 0, d, v, x, y => by obtain ⟨u, r, rfl, a, b⟩ := vals_cons.mp x; simp only [List.set_cons_zero, vals_cons']; exact ⟨y, b⟩
  | _ :: l, vs, i + 1, d, v, x, y => by obtain ⟨u, r, rfl, a, b⟩ := vals_cons.mp x; simp only [List.set_cons_succ, vals_cons']; exact ⟨a, Vals.set b y⟩

section
variable {X : Wd} {n : Nat} {ok : PV → Prop} {A : Around} {E : Value → Shared → Prop} {s : Shared} {V : Rgn} {ks ds : List PV} {k : PV} {kv : Value} {r : Addr}

theorem dict_get (D : DKey X n ok) {Q : Option Value → Shared → Prop} {es : Array DictEntry} {ep : Nat} (hA : AOk A n) (H : Hp X V s) (hk : ok k) (hks : ∀ x ∈ ks, ok x) (hv : Val X.P V s.heap k kv)
    (ho : s.heap.get? r = some (dictO es ep)) (h1 : Vals X.P V s.heap ks (es.toList.map (·.key))) (h3 : es.toList.map (·.hash) = ks.map (hashPV X.P)) (hn : ks.Nodup)
    (hs : ∀ (i : Nat) (tk : Nat), ks[i]? = some k → Q ((es[i]?).map (fun (e : DictEntry) => e.val)) { s with toks := tk }) (hm : ∀ tk, k ∉ ks → Q none { s with toks := tk }) : wpAny X.mo A (dictGet r kv) Q E s := by
  unfold dictGet
  try with_reducible refine wpAny_holding ?_
  refine wpAny_bind (D.hash A E s V k kv _ hA H hk hv fun tk => ?_)
  have st : Step None s { s with toks := tk } := Step.toks
  refine wpAny_bind (D.find A E { s with toks := tk } V k kv r es ep ks _ hA (H.stepN st) hk hks (hv.stepN st) ho h1 h3 hn (fun i hi => ?_) fun hi => ?_)
  · exact wpAny_bind (wpAny_dictEntries (s := { s with toks := tk }) ho rfl (wpAny_pure (hs i tk hi)))
  · exact wpAny_pure (hm tk hi)

theorem dict_item (D : DKey X n ok) {Q : Value → Shared → Prop} {i : Nat} {d : PV} (hA : AOk A (n + 1)) (H : Hp X V s) (hk : ok k) (hks : ∀ x ∈ ks, ok x) (hn : ks.Nodup) (hv : Val X.P V s.heap k kv)
    (ht : Top X.P V s.heap (.dict ks ds) r) (hi : ks[i]? = some k) (hd : ds[i]? = some d) (hQ : ∀ tk v, Val X.P V s.heap d v → Q v { s with toks := tk }) : wpAny X.mo A (getItem (.ref r) kv) Q E s := by
  obtain ⟨ep, es, ho, h1, h2, h3⟩ := ht
  have hT : s.TypeIs (.ref r) "dict" := ⟨_, ho, rfl⟩
  unfold getItem
  try with_reducible refine wpAny_holding ?_
  refine wpAny_bind (wpAny_sequenceKey hT (by decide) ?_)
  refine wpAny_bind (wpAny_callSpecial?_slot (name := Str.ofString "__getitem__") hT slot_dict_getitem
    (wpAny_call_entry slot_dict_getitem hT entry_dict_getitem ?_ (args_dict_getitem _ _)))
  show wpAny _ _ (dictGet r kv >>= _) _ _ s
  refine wpAny_bind (dict_get D hA.in1 H hk hks hv ho h1 h3 hn (fun j tk hj => ?_) fun tk hno => absurd (List.mem_of_getElem? hi) hno)
  have hji : j = i := by
    have hjl : j < ks.length := (List.getElem?_eq_some_iff.mp hj).1
    exact (List.getElem?_inj hjl hn).mp (hj.trans hi.symm)
  subst hji
  obtain ⟨v, hv', hx⟩ := h2.get hd
  rw [List.getElem?_map, Array.getElem?_toList] at hv'
  rw [hv']
  exact wpAny_pure ⟨v, rfl, wpAny_pure (hQ tk v hx)⟩

theorem dict_in (D : DKey X n ok) {Q : Value → Shared → Prop} (hA : AOk A (n + 1)) (H : Hp X V s) (hk : ok k) (hks : ∀ x ∈ ks, ok x) (hn : ks.Nodup) (hv : Val X.P V s.heap k kv)
    (ht : Top X.P V s.heap (.dict ks ds) r) (hr : (r == sysModules) = false) (hQ : ∀ tk b, (b = true ↔ k ∈ ks) → Q (.bool b) { s with toks := tk }) : wpAny X.mo A (compareOp .In kv (.ref r)) Q E s := by
  obtain ⟨ep, es, ho, h1, h2, h3⟩ := ht
  have hT : s.TypeIs (.ref r) "dict" := ⟨_, ho, rfl⟩
  show wpAny _ _ (do return .bool (← contains (.ref r) kv)) Q E s
  refine wpAny_bind ?_
  unfold contains
  try with_reducible refine wpAny_holding ?_
  refine wpAny_bind (wpAny_specialOf hT slot_dict_contains.lookup ?_)
  show wpAny _ _ (if (some (Value.builtin "dict.__contains__") == some Value.none) = true then _ else _) _ E s
  rw [if_neg (by rw [beq_builtin_none]; exact Bool.false_ne_true)]
  refine wpAny_bind (wpAny_callSpecialUnlessNone?_slot (name := Str.ofString "__contains__") hT slot_dict_contains
    (wpAny_call_entry slot_dict_contains hT entry_dict_contains ?_ (args_dict_contains _ _)))
  show wpAny _ _ (dictGet r kv >>= _) _ _ s
  refine wpAny_bind (dict_get D hA.in1 H hk hks hv ho h1 h3 hn (fun j tk hj => ?_) fun tk hno => ?_)
  · have hl := h1.length
    have hjl : j < ks.length := (List.getElem?_eq_some_iff.mp hj).1
    have hje : j < es.size := by simp at hl; omega
    rw [Array.getElem?_eq_getElem hje]
    show wpAny _ _ (ret (.bool true)) _ _ _
    exact wpAny_pure ⟨_, rfl, wpAny_truthy_bool (wpAny_pure (hQ tk true ⟨fun _ => List.mem_of_getElem? hj, fun _ => rfl⟩))⟩
  · show wpAny _ _ (Builtin.Dict.pendingKey? r kv >>= _) _ _ _
    exact wpAny_bind (wpAny_pendingKey_other hr (wpAny_pure ⟨_, rfl, wpAny_truthy_bool (wpAny_pure (hQ tk false ⟨fun q => (nomatch q), fun q => absurd q hno⟩))⟩))

theorem dict_put (D : DKey X n ok) {Q : Unit → Shared → Prop} {dv : PV} {v : Value} (hA : AOk A n) (H : Hp X V s) (hk : ok k) (hks : ∀ x ∈ ks, ok x) (hn : ks.Nodup) (hv : Val X.P V s.heap k kv) (hd : Val X.P V s.heap dv v)
    (ht : Top X.P V s.heap (.dict ks ds) r) (hr : V r) (hz : ks.length ≤ 4096)
    (hQ : ∀ tk h' ks' ds', DPut ks ds k dv ks' ds' → Heap.SameBut r s.heap h' → Top X.P V h' (.dict ks' ds') r → Q () { s with heap := h', toks := tk }) : wpAny X.mo A (dictSet r kv v) Q E s := by
  obtain ⟨ep, es, ho, h1, h2, h3⟩ := ht
  have hl := h1.length
  have hl' : es.size = ks.length := by simpa using hl.symm
  unfold dictSet
  try with_reducible refine wpAny_holding ?_
  refine wpAny_bind (D.hash A E s V k kv _ hA H hk hv fun tk => ?_)
  have st : Step None s { s with toks := tk } := Step.toks
  unfold dictSetHashed
  try with_reducible refine wpAny_holding ?_
  have keep : ∀ {h'}, Heap.SameBut r s.heap h' → ∀ b o, ¬ V b → s.heap.get? b = some o → h'.get? b = some o := fun hs b o nb e => (hs.2 b fun q => nb (q ▸ hr)).trans e
  refine wpAny_bind (D.find A E { s with toks := tk } V k kv r es ep ks _ hA (H.stepN st) hk hks (hv.stepN st) ho h1 h3 hn (fun i hi => ?_) fun hi => ?_)
  · have hu := Heap.get?_update_self (h := s.heap) (a := r) (Obj.mapDict fun es => es.modify i fun e => { e with val := v }) ho rfl
    have hs : Heap.SameBut r s.heap (s.heap.update r (Obj.mapDict fun es => es.modify i fun e => { e with val := v })) := Heap.SameBut.update ..
    refine wpAny_bind (wpAny_rule (wpAny_bind (wpAny_updateDict (s := { s with toks := tk }) ho rfl (wpAny_point (hQ tk _ ks (ds.set i dv) (.inl ⟨i, hi, rfl, rfl⟩) hs ⟨ep, _, hu, ?_, ?_, ?_⟩)))))
    · have : (es.modify i fun e => { e with val := v }).toList.map (·.key) = es.toList.map (·.key) := by
        apply List.ext_getElem? ; intro j
        simp only [List.getElem?_map, Array.getElem?_toList, Array.getElem?_modify]
        split <;> cases es[j]? <;> rfl
      rw [this]
      exact h1.keeps (keep hs)
    · have : (es.modify i fun e => { e with val := v }).toList.map (·.val) = (es.toList.map (·.val)).set i v := by
        apply List.ext_getElem? ; intro j
        simp only [List.getElem?_map, Array.getElem?_toList, Array.getElem?_modify, List.getElem?_set]
        by_cases q : i = j
        · subst q
          have hi' : i < es.size := by rw [hl']; exact (List.getElem?_eq_some_iff.mp hi).1
          simp [hi']
        · simp [q]
      rw [this]
      exact (h2.set hd).keeps (keep hs)
    · have : (es.modify i fun e => { e with val := v }).toList.map (·.hash) = es.toList.map (·.hash) := by
        apply List.ext_getElem? ; intro j
        simp only [List.getElem?_map, Array.getElem?_toList, Array.getElem?_modify]
        split <;> cases es[j]? <;> rfl
      rw [this]; exact h3
  · have hu := Heap.get?_update_self (h := s.heap) (a := r) (Obj.mapDictKeys fun es => es.push ⟨hashPV X.P k, kv, v⟩) ho rfl
    have hs : Heap.SameBut r s.heap (s.heap.update r (Obj.mapDictKeys fun es => es.push ⟨hashPV X.P k, kv, v⟩)) := Heap.SameBut.update ..
    refine wpAny_bind (wpAny_rule (wpAny_updateDictKeys (hz := by rw [hl']; exact Nat.le_trans hz (by decide)) (s := { s with toks := tk }) ho rfl (hQ tk _ (ks ++ [k]) (ds ++ [dv]) (.inr ⟨hi, rfl, rfl⟩) hs ⟨ep + 1, _, hu, ?_, ?_, ?_⟩)))
    · rw [Array.toList_push, List.map_append]; exact (h1.snoc hv).keeps (keep hs)
    · rw [Array.toList_push, List.map_append]; exact (h2.snoc hd).keeps (keep hs)
    · rw [Array.toList_push, List.map_append, List.map_append, h3]; rfl

theorem dict_setItem (D : DKey X n ok) {Q : Unit → Shared → Prop} {dv : PV} {v : Value} (hA : AOk A (n + 1)) (H : Hp X V s) (hk : ok k) (hks : ∀ x ∈ ks, ok x) (hn : ks.Nodup) (hv : Val X.P V s.heap k kv) (hd : Val X.P V s.heap dv v)
    (ht : Top X.P V s.heap (.dict ks ds) r) (hr : V r) (hz : ks.length ≤ 4096)
    (hQ : ∀ tk h' ks' ds', DPut ks ds k dv ks' ds' → Heap.SameBut r s.heap h' → Top X.P V h' (.dict ks' ds') r → Q () { s with heap := h', toks := tk }) : wpAny X.mo A (setItem (.ref r) kv v) Q E s := by
  have hT : s.TypeIs (.ref r) "dict" := by obtain ⟨ep, es, ho, _⟩ := ht; exact ⟨_, ho, rfl⟩
  unfold setItem
  try with_reducible refine wpAny_holding ?_
  refine wpAny_bind (wpAny_sequenceKey hT (by decide) ?_)
  refine wpAny_bind (wpAny_callSpecial?_slot (name := Str.ofString "__setitem__") hT slot_dict_setitem
    (wpAny_call_entry slot_dict_setitem hT entry_dict_setitem ?_ (args_dict_setitem _ _ _)))
  show wpAny _ _ (Builtin.Dict.notOrdered "__setitem__" ⟨[.ref r, kv, v], []⟩ >>= _) _ _ s
  refine wpAny_bind (wpAny_notOrdered_dict hT ?_)
  show wpAny _ _ (dictSet r kv v >>= _) _ _ s
  exact wpAny_bind (dict_put D hA.in1 H hk hks hn hv hd ht hr hz fun tk h' ks' ds' hp hs ht' => wpAny_pure ⟨.none, rfl, wpAny_pure (hQ tk h' ks' ds' hp hs ht')⟩)
end

def isStrPV (d : PV) : Prop := ∃ x, d = .str x

/-- strs as keys -/
theorem dkey_str (X : Wd) (n : Nat) : DKey X n isStrPV where
  hash := fun A E s V k v Q hA H hk hv hQ => by
    obtain ⟨x, rfl⟩ := hk
    obtain ⟨t, rfl⟩ := val_str.mp hv
    exact wpAny_pyHash_str (hQ _)
  find := fun A E s V k v d es ep ks Q hA H hk hks hv ho h1 h3 hn hs hm => by
    obtain ⟨x, rfl⟩ := hk
    obtain ⟨t, rfl⟩ := val_str.mp hv
    have at_ : ∀ (j : Nat) (e : DictEntry), es[j]? = some e → ∃ y u, ks[j]? = some (.str y) ∧ e.key = .str y u ∧ e.hash = hashPV X.P (.str y) := fun j e hj => by
      have hj' : (es.toList.map (·.key))[j]? = some e.key := by rw [List.getElem?_map, Array.getElem?_toList, hj]; rfl
      obtain ⟨y, hy, hyv⟩ := h1.get' hj'
      obtain ⟨z, rfl⟩ := hks _ (List.mem_of_getElem? hy)
      obtain ⟨u, hu⟩ := val_str.mp hyv
      have hh : (es.toList.map (·.hash))[j]? = some e.hash := by rw [List.getElem?_map, Array.getElem?_toList, hj]; rfl
      rw [h3, List.getElem?_map, hy] at hh
      exact ⟨z, u, hy, hu, (Option.some.inj hh).symm⟩
    refine wpAny_dictFind_of (knd := strKind X.prog X.w) (k := x) (by show Value.isStrOf x (.str x t) = true; simp [Value.isStrOf]) ho rfl (fun e he => ?_) ?_
    · obtain ⟨j, hj, rfl⟩ := Array.mem_iff_getElem.mp he
      obtain ⟨y, u, _, hu, hh⟩ := at_ j _ (Array.getElem?_eq_getElem hj)
      exact ⟨y, by rw [hu]; show Value.isStrOf y (.str y u) = true; simp [Value.isStrOf], hh⟩
    · cases hf : es.findIdx? fun e => (strKind X.prog X.w).is x e.key with
      | none =>
        refine hm fun hin => ?_
        obtain ⟨j, hj⟩ := List.mem_iff_getElem?.mp hin
        obtain ⟨v', hv', _⟩ := h1.get hj
        rw [List.getElem?_map, Array.getElem?_toList] at hv'
        cases he : es[j]? with
        | none => rw [he] at hv'; cases hv'
        | some e =>
          obtain ⟨y, u, hy, hu, _⟩ := at_ j e he
          rw [hj] at hy
          cases hy
          have := Array.findIdx?_eq_none_iff.mp hf e (Array.mem_of_getElem? he)
          rw [hu] at this
          have t' : Value.isStrOf x (.str x u) = false := this
          simp [Value.isStrOf] at t'
      | some i =>
        obtain ⟨hi, hp, _⟩ := Array.findIdx?_eq_some_iff_getElem.mp hf
        obtain ⟨y, u, hy, hu, _⟩ := at_ i _ (Array.getElem?_eq_getElem hi)
        rw [hu] at hp
        have hp' : Value.isStrOf x (.str y u) = true := hp
        have : x = y := by have := hp'; simp [Value.isStrOf] at this; exact this.symm
        subst this
        exact hs i hy
end Mine
namespace Mine
open PySem PySem.W PySem.Calls PyProof.Rows

section
variable {Y : Act} {a : AS} {q : Vw} {M V W : Rgn} {s s' : Shared} {A : Around} {E : Value → Shared → Prop}

/-- a thing that grows is changed -/
theorem EnvOk.mtSet {x : Str} {d d' : PV} {r : Addr} (G : EnvOk Y ⟨q, M, V⟩ s) (hx : q.ρ x = some (.mt d)) (hr : Reads1 Y.env s.heap x (.ref r)) (st : ∀ b o, b ≠ r → s.heap.get? b = some o → s'.heap.get? b = some o)
    (ht : Top Y.P V s'.heap d' r) : EnvOk Y ⟨q.set x (.mt d'), M, V⟩ s' := by
  obtain ⟨u, hu, r', rfl, hM, ho, hU, hS, _⟩ := G.slots x _ hx
  have := hu.uniq hr
  cases this
  have hV := G.mv _ hM
  have no : ∀ b, own Y.env b → b ≠ r := fun b w e => ho (e ▸ w)
  have hk : ∀ b o, own Y.env b → s.heap.get? b = some o → s'.heap.get? b = some o := fun b o w e => st b o (no b w) e
  exact {
    kind := G.kind
    glob := G.glob
    blt := G.blt
    keep := fun b o e => st b o (fun w => by rw [w, G.low r hV] at e; cases e) (G.keep b o e)
    bnd := fun b hb => by
      by_cases w : b = r
      · have := ht.lt
        subst w
        cases d' <;> simp only [Top] at ht
        · obtain ⟨n, vs, e, _⟩ := ht; exact ⟨_, e⟩
        · obtain ⟨n, vs, e, _⟩ := ht; exact ⟨_, e⟩
      · obtain ⟨o, e⟩ := G.bnd b hb
        exact ⟨o, st b o w e⟩
    mv := G.mv
    uv := G.uv
    om := G.om
    ou := G.ou
    oo := G.oo
    lo := G.lo
    low := G.low
    ns := by
      obtain ⟨m, o, es, ep, ho, r⟩ := G.ns
      exact ⟨m, o, es, ep, hk _ _ (.inl rfl) ho, r⟩
    cell := fun n c e => by
      obtain ⟨h1, v, o, ho, r⟩ := G.cell n c e
      exact ⟨h1, v, o, hk _ _ (.inr ⟨n, e⟩) ho, r⟩
    apart := G.apart
    slots := fun y sl e => by
      rw [Vw.set_ρ] at e
      split at e
      · rename_i w
        cases e
        subst w
        exact ⟨_, hr.keeps hk, r, rfl, hM, ho, hU, hS, ht⟩
      · rename_i w
        obtain ⟨v, rv, h⟩ := G.slots y sl e
        refine ⟨v, rv.keeps hk, ?_⟩
        cases sl with
        | fz d => exact Val.keeps (d := d) (V := V) h fun b o n e => st b o (fun q => n (q ▸ hV)) e
        | mt d₂ =>
          obtain ⟨r₂, e₂, a1, a2, a3, a4, t⟩ := h
          have hne : r₂ ≠ r := fun q => by
            subst q
            subst e₂
            exact G.dist y x d₂ d _ w e hx rv hr
          exact ⟨r₂, e₂, a1, a2, a3, a4, Top.at (V := V) (fun b o n e => ⟨n, st b o (fun q => n (q ▸ hV)) e⟩) t fun o e => st r₂ o hne e⟩
    dist := fun y z e₁ e₂ v hn hy hz h1 h2 => by
      have old : ∀ y e, (q.set x (.mt d')).ρ y = some (.mt e) → ∃ e', q.ρ y = some (.mt e') := fun y e h => by
        rw [Vw.set_ρ] at h
        split at h
        · rename_i w; exact ⟨d, w ▸ hx⟩
        · exact ⟨e, h⟩
      obtain ⟨e₁', hy'⟩ := old y e₁ hy
      obtain ⟨e₂', hz'⟩ := old z e₂ hz
      obtain ⟨v1, r1, _⟩ := G.slots y _ hy'
      obtain ⟨v2, r2, _⟩ := G.slots z _ hz'
      have u1 := (r1.keeps hk : Reads1 Y.env s'.heap y v1).uniq h1
      have u2 := (r2.keeps hk : Reads1 Y.env s'.heap z v2).uniq h2
      subst u1 u2
      exact G.dist y z e₁' e₂' _ hn hy' hz' r1 r2
    sm := G.sm
    os := G.os
    inv := G.stab _ _ _ _ G.inv (fun b o w e => st b o (fun q => hS (q ▸ w)) e) fun b o n e => ⟨n, st b o (fun q => n (q ▸ hV)) e⟩
    stab := G.stab }

/-- what grew stays as it is from here on -/
theorem EnvOk.freeze {x : Str} {d : PV} (G : EnvOk Y ⟨q, M, V⟩ s) (hx : q.ρ x = some (.mt d)) : ∃ r, M r ∧ EnvOk Y ⟨q.set x (.fz d), fun b => M b ∧ b ≠ r, fun b => V b ∧ b ≠ r⟩ s := by
  obtain ⟨u, hu, r, rfl, hM, ho, hU, hS, ht⟩ := G.slots x _ hx
  refine ⟨r, hM, ?_⟩
  exact {
    kind := G.kind
    glob := G.glob
    blt := G.blt
    keep := G.keep
    bnd := fun b hb => G.bnd b hb.1
    mv := fun b hb => ⟨G.mv b hb.1, hb.2⟩
    uv := fun b hb => ⟨G.uv b hb, fun e => hU (e ▸ hb)⟩
    om := fun b hb => ⟨G.om b hb, fun e => ho (e ▸ hb)⟩
    ou := G.ou
    oo := G.oo
    lo := G.lo
    low := fun b hb => G.low b hb.1
    ns := G.ns
    cell := G.cell
    apart := G.apart
    slots := fun y sl e => by
      rw [Vw.set_ρ] at e
      split at e
      · rename_i w
        cases e
        subst w
        exact ⟨_, hu, Top.val (V := fun b => V b ∧ b ≠ r) (Top.at (V := V) (fun b o n e => ⟨fun w => n w.1, e⟩) ht fun o e => e) (fun w => w.2 rfl) (G.hp.nosys (G.mv _ hM))⟩
      · rename_i w
        obtain ⟨v, rv, h⟩ := G.slots y sl e
        refine ⟨v, rv, ?_⟩
        cases sl with
        | fz d => exact Val.less (d := d) (V := V) h fun b w => w.1
        | mt d₂ =>
          obtain ⟨r₂, e₂, a1, a2, a3, a4, t⟩ := h
          have hne : r₂ ≠ r := fun q => by
            subst q
            subst e₂
            exact G.dist y x d₂ d _ w e hx rv hu
          exact ⟨r₂, e₂, ⟨a1, hne⟩, a2, a3, a4, Top.at (V := V) (fun b o n e => ⟨fun w => n w.1, e⟩) t fun o e => e⟩
    dist := fun y z e₁ e₂ v hn hy hz h1 h2 => by
      rw [Vw.set_ρ] at hy hz
      split at hy
      · cases hy
      · split at hz
        · cases hz
        · exact G.dist y z e₁ e₂ v hn hy hz h1 h2
    sm := fun b hb => ⟨G.sm b hb, fun e => hS (e ▸ hb)⟩
    os := G.os
    inv := G.stab _ _ _ _ G.inv (fun b o _ e => e) fun b o n e => ⟨fun w => n w.1, e⟩
    stab := G.stab }

/-- freezing, as a step of a proof -/
theorem PS.freeze {sts : List Stmt} {Φ : AF → Vw → Prop} {x : Str} {d : PV} (hx : q.ρ x = some (.mt d)) (h : PS Y (q.set x (.fz d)) sts Φ) : PS Y q sts Φ := fun M V A E s hA G => by
  obtain ⟨r, hr, G'⟩ := G.freeze hx
  refine wpAny_mono (h _ _ A E s hA G') (fun f s' p => ?_) fun _ _ x => x
  obtain ⟨af, a', hΦ, hf, G'', g⟩ := p
  exact ⟨af, a', hΦ, hf, G'', g.st.mono fun b w => w.1, fun b w => (g.m b w).imp (fun w => w.1) id, fun b w => (g.v b w).imp (fun w => w.1) id, fun b w n => g.k b ⟨w, fun e => n (e ▸ hr)⟩ fun w' => n w'.1⟩

theorem seq_append {X : Wd} {r : Addr} {vs : Array Value} {n : Nat} {v : Value} {Q : Value → Shared → Prop} (ho : s.heap.get? r = some (seqO tList vs n)) (hz : vs.size ≤ 4096)
    (hQ : ∀ h' n', h'.get? r = some (seqO tList (vs.push v) n') → Heap.SameBut r s.heap h' → Q .none { s with heap := h' }) : wpAny X.mo A (call (.builtin "list.append") [.ref r, v]) Q E s := by
  refine wpAny_call_entry slot_list_append (Heap.IsList.of ho).typeIs entry_list_append ?_ (args_list_append _ _)
  show wpAny _ _ (updateSeq r (·.push v) >>= fun _ => ret .none) _ _ s
  refine wpAny_bind ?_
  exact wpAny_updateSeq ho rfl (wpAny_pure ⟨.none, rfl, hQ _ _ (Heap.get?_update_self _ ho rfl) (Heap.SameBut.update ..)⟩) (Nat.le_trans hz (by decide))

/-- x.append(e) -/
theorem PS1.append {x : Str} {px apos cpos pos : Pos} {e : Expr} {l : List PV} {Φ : AF → Vw → Prop} (hx : q.ρ x = some (.mt (.list l))) (hz : l.length ≤ 4096)
    (h : PE Y q e fun d => Φ .next (q.set x (.mt (.list (l ++ [d])))))
    (hbase : attributeBase (.Name x px) "append" Y.env (eval (.Name x px) Y.env) = eval (.Name x px) Y.env)
    (hfew : ((backTo cpos (starEach [e] Y.env)).all (fun x => !x.1) && (backToKw cpos (keywordEach [] Y.env)).all (fun x => x.1.isSome)
      && decide (([e] : List Expr).length + ([] : List Keyword).length + (if ([] : List Keyword).isEmpty then 0 else 1) < 30)) = true)
    (hline : (apos.endLine == cpos.line) = true) (htrees : backTo cpos (starEach [e] Y.env) = [(false, eval e Y.env)])
    (hi : interactive Y.env = false)
    (hd : (x == ("__debug__" : Str)) = false := by decide) (hc : (x == ("__classdict__" : Str)) = false := by decide) :
    PS1 Y q (.Expr (.Call (.Attribute (.Name x px) "append" apos) [e] [] cpos) pos) Φ := fun M V A E s hA G => by
  refine wpAny_Expr_any (wpAny_Call_append hbase hfew hline htrees ?_) hi rfl
  obtain ⟨u, hu, r, rfl, hM, ho, hU, hS, ht⟩ := G.slots x _ hx
  refine rd_name G hu ?_ hd hc
  obtain ⟨n, vs, hob, hvs⟩ := ht
  refine ⟨r, vs, rfl, ⟨_, n, hob, rfl, rfl, rfl⟩, ?_⟩
  refine h.use hA G fun v s₁ d hp hv st₁ G₁ => ?_
  have hob₁ := st₁.kp _ _ hob
  have hl := hvs.length
  refine seq_append hob₁ (by simp at hl; omega) fun h' n' ho' hs' => ?_
  have hV := G.mv _ hM
  have keep : ∀ b o, ¬ V b → s₁.heap.get? b = some o → h'.get? b = some o := fun b o nb e => (hs'.2 b fun w => nb (w ▸ hV)).trans e
  have hu₁ : Reads1 Y.env s₁.heap x (.ref r) := hu.keeps fun b o _ e => st₁.kp b o e
  refine ⟨.next, ⟨_, M, V⟩, hp, rfl, G₁.mtSet (s' := { s₁ with heap := h' }) hx hu₁ (fun b o nb e => (hs'.2 b nb).trans e) ⟨n', _, ho', ?_⟩, (st₁.all _).trans (Step.same (t := s₁.toks) hs' hM), fun b w => .inl w, fun b w => .inl w, fun b w _ => w⟩
  rw [Array.toList_push]
  exact (Vals.snoc (hvs.stepN st₁) hv).keeps keep
end
end Mine
namespace Mine
open PySem PySem.W PySem.Calls PyProof.Rows

section
variable {M : Model} {A : Around} {E : Value → Shared → Prop} {s : Shared} {env : Env}
theorem letTemp {prog : Program} {w : World} {base : Expr} {o r : Value} {Q : Unit → Shared → Prop} (h : Q () s) : wpAny (model prog w) A (letTemporaryGo base o r) Q E s := by
  unfold letTemporaryGo
  split
  · exact wpAny_pure h
  · exact wpAny_bind (wpAny_holding (wpAny_runValue (codeAny_builtin entry_let_go (show wpAny _ _ (ret .none) _ _ s from wpAny_pure (wpAny_pure h)))))
  · exact wpAny_pure h

/-- o[i], over a type of the machine -/
theorem subs_any {prog : Program} {w : World} {value slice : Expr} {pos : Pos} {Q : Value → Shared → Prop}
    (h : wpAny (model prog w) A (eval value env) (fun o s₁ => wpAny (model prog w) A (eval slice env) (fun i s₂ => (∃ T id, typeLookup (.type T) "__getitem__" = pure (some (.builtin id)) ∧ s₂.TypeIs o T) ∧ wpAny (model prog w) A (getItem o i) Q E s₂) E s₁) E s) :
    wpAny (model prog w) A (eval (.Subscript value slice pos) env) Q E s := by
  refine Subscript_ (wpAny_mono h (fun o s₁ h₁ => wpAny_mono h₁ (fun i s₂ h₂ => ?_) fun _ _ x => x) fun _ _ x => x)
  obtain ⟨⟨T, id, hl, hT⟩, hg⟩ := h₂
  unfold subscriptTail
  refine wpAny_bind ?_
  rw [getitemInPython_of_ne hT.not_modules]
  refine wpAny_bind (wpAny_specialOf hT hl ?_)
  refine wpAny_pure (wpAny_bind ?_)
  have fin : ∀ vs, wpAny (model prog w) A (operate vs (getItem o i)) (fun r s₃ => wpAny (model prog w) A (letTemporaryGo value o r >>= fun _ => pure r) Q E s₃) E s₂ := fun vs =>
    wpAny_operating (wpAny_mono hg (fun r s₃ h₃ => wpAny_bind (letTemp (wpAny_pure h₃))) fun _ _ x => x)
  unfold subscripted
  split
  · exact fin _
  · rename_i q; cases q
  · exact fin _
end

def cut {α : Type} (l : List α) (lo hi : Option Nat) : List α := (l.take (hi.getD l.length)).drop (lo.getD 0)

theorem list_cut {α : Type} (l : List α) (a b : Nat) : (l.drop (min a l.length)).take (min b l.length - min a l.length) = (l.take b).drop a := by
  rw [List.drop_take]
  by_cases h : a ≤ l.length
  · rw [Nat.min_eq_left h]
    apply List.take_eq_take_iff.mpr
    rw [List.length_drop]
    omega
  · have h' : l.length ≤ a := by omega
    rw [Nat.min_eq_right h', List.drop_of_length_le (Nat.le_refl _), List.drop_of_length_le h']
    simp

theorem slicePick_cut (items : Array Value) (lo hi : Option Nat) : (slicePick items (lo.map fun (n : Nat) => (n : Int)) (hi.map fun (n : Nat) => (n : Int)) none).toList = cut items.toList lo hi := by
  have e : sliceBounds (lo.map fun (n : Nat) => (n : Int)) (hi.map fun (n : Nat) => (n : Int)) none items.size = (((min (lo.getD 0) items.size : Nat) : Int), ((min (hi.getD items.size) items.size : Nat) : Int), 1) := by
    unfold sliceBounds
    cases lo <;> cases hi <;> simp <;> omega
  unfold slicePick
  rw [e]
  simp only [sliceRange_one, pick_run]
  have := list_cut items.toList (lo.getD 0) (hi.getD items.size)
  simpa [cut] using this

theorem slice_parts {prog : Program} {w : World} {A : Around} {E : Value → Shared → Prop} {s : Shared} {sl : Addr} {vl vu : Value} {lo hi : Option Nat} {n : Nat} {Q : Int × Int × Nat → Shared → Prop} (hs : s.heap.IsSliceOf sl vl vu .none) (pl : IsPart vl (lo.map fun (n : Nat) => (n : Int))) (pu : IsPart vu (hi.map fun (n : Nat) => (n : Int)))
    (h : Q (((min (lo.getD 0) n : Nat) : Int), 1, min (hi.getD n) n - min (lo.getD 0) n) s) : wpAny (model prog w) A (Builtin.Slice.sliceApplied (.ref sl) (pure (n : Int))) Q E s := by
  obtain ⟨os, hos, hcs, hds⟩ := id hs
  unfold Builtin.Slice.sliceApplied Builtin.Slice.sliceFields
  refine wpAny_bind (wpAny_bind (wpAny_field hos hds (x := vl) rfl (wpAny_bind (wpAny_field hos hds (x := vu) rfl (wpAny_bind (wpAny_field hos hds (x := .none) rfl (wpAny_pure ?_)))))))
  refine wpAny_bind (slicePart_none ?_)
  show wpAny _ _ (if ((1 : Int) == 0) = true then _ else _) _ _ s
  rw [if_neg (by decide)]
  have part : ∀ {v : Value} {k : Option Nat} {Q' : Option Int → Shared → Prop}, IsPart v (k.map fun (n : Nat) => (n : Int)) → Q' (k.map fun (n : Nat) => (n : Int)) s → wpAny (model prog w) A (Builtin.Slice.slicePartIndex v) Q' E s := by
    intro v k Q' hp hq
    cases k with
    | none => cases hp; exact slicePart_none hq
    | some i => cases hp; exact slicePart_int hq
  refine wpAny_bind (part pl (wpAny_bind (part pu (wpAny_bind (wpAny_pure ?_)))))
  have e : Builtin.Slice.sliceAdjust (lo.map fun (n : Nat) => (n : Int)) (hi.map fun (n : Nat) => (n : Int)) 1 (n : Int) = (((min (lo.getD 0) n : Nat) : Int), ((min (hi.getD n) n : Nat) : Int)) := by
    unfold Builtin.Slice.sliceAdjust
    cases lo <;> cases hi <;> simp <;> omega
  have e2 : Builtin.Slice.slicePlaces (((min (lo.getD 0) n : Nat) : Int)) (((min (hi.getD n) n : Nat) : Int)) 1 = min (hi.getD n) n - min (lo.getD 0) n := by
    unfold Builtin.Slice.slicePlaces
    have h1 : (1 : Int) > 0 := by omega
    simp only [h1, if_true, Int.ediv_one]
    split <;> omega
  show wpAny _ _ (match Builtin.Slice.sliceAdjust (lo.map fun (n : Nat) => (n : Int)) (hi.map fun (n : Nat) => (n : Int)) 1 (n : Int) with | (lo, hi) => pure (lo, (1 : Int), Builtin.Slice.slicePlaces lo hi 1)) _ _ s
  rw [e]
  show wpAny _ _ (pure _) _ _ s
  rw [e2]
  exact wpAny_pure h

theorem tuple_pick (xs : Array Value) (a k : Nat) : (((List.range k).filterMap fun (i : Nat) => xs[((a : Int) + (i : Int) * 1).toNat]?).toArray) = ((xs.toList.drop a).take k).toArray := by
  have e : (fun (i : Nat) => xs[((a : Int) + (i : Int) * 1).toNat]?) = fun i => xs[a + i]? := by
    funext i
    have : ((a : Int) + (i : Int) * 1).toNat = a + i := by omega
    rw [this]
  rw [e]
  have := pick_run xs a k
  rw [List.filterMap_map] at this
  have e2 : ((fun x => xs[x]?) ∘ fun x => a + x) = fun k => xs[a + k]? := rfl
  rw [e2] at this
  rw [this]

theorem tuple_slice {prog : Program} {w : World} {A : Around} {E : Value → Shared → Prop} {s : Shared} {t sl : Addr} {items : Array Value} {m : Nat} {vl vu : Value} {lo hi : Option Nat} {Q : Value → Shared → Prop} (ho : s.heap.get? t = some (seqO tTuple items m)) (hs : s.heap.IsSliceOf sl vl vu .none)
    (pl : IsPart vl (lo.map fun (n : Nat) => (n : Int))) (pu : IsPart vu (hi.map fun (n : Nat) => (n : Int))) (hz : items.size ≤ 4096)
    (h1 : cut items.toList lo hi = items.toList → Q (.ref t) s) (h2 : ∀ xs : Array Value, xs.toList = cut items.toList lo hi → Q (.ref s.heap.objs.size) { s with heap := s.heap.push (seqO tTuple xs 0) }) :
    wpAny (model prog w) A (getItem (.ref t) (.ref sl)) Q E s := by
  have ht : IsTup s.heap t items := ⟨_, ho, rfl, m, rfl⟩
  obtain ⟨os, hos, hcs, hds⟩ := id hs
  have hTs : s.TypeIs (.ref sl) "slice" := ⟨os, hos, hcs⟩
  unfold getItem
  try with_reducible refine wpAny_holding ?_
  refine wpAny_bind (wpAny_sequenceKey ht.typeIs (by decide) ?_)
  refine wpAny_bind (wpAny_callSpecial?_slot (name := Str.ofString "__getitem__") ht.typeIs slot_tuple_getitem
    (wpAny_call_entry slot_tuple_getitem ht.typeIs entry_tuple_getitem ?_ (args_tuple_getitem _ _)))
  show wpAny _ _ (Builtin.Tuple.tupleItemsOf (.ref t) >>= _) _ _ s
  refine wpAny_bind (tupleItemsOf_ ht ?_)
  refine wpAny_bind (wpAny_typeOf hTs ?_)
  rw [if_pos (by decide)]
  refine wpAny_bind (slice_parts hs pl pu ?_)
  have hc := list_cut items.toList (lo.getD 0) (hi.getD items.size)
  have hcut : cut items.toList lo hi = (items.toList.drop (min (lo.getD 0) items.size)).take (min (hi.getD items.size) items.size - min (lo.getD 0) items.size) := by
    simpa [cut] using hc.symm
  have tail : wpAny (model prog w) A.in1 (do ret (← Builtin.Tuple.tupleExact (((List.range (min (hi.getD items.size) items.size - min (lo.getD 0) items.size)).filterMap fun (k : Nat) => items[(((min (lo.getD 0) items.size : Nat) : Int) + (k : Int) * 1).toNat]?).toArray)))
      (fun fin s' => ∃ v, fin = .done (.ret v) ∧ wpAny (model prog w) A (pure v) Q E s') E s := by
    rw [tuple_pick]
    refine wpAny_bind (m := Builtin.Tuple.tupleExact _) (wpAny_newObj_type (wpAny_pure ⟨_, rfl, wpAny_pure (h2 _ (by simp [hcut]))⟩) ?_)
    show ((items.toList.drop (min (lo.getD 0) items.size)).take (min (hi.getD items.size) items.size - min (lo.getD 0) items.size)).toArray.size ≤ sizeLine
    have : ((items.toList.drop (min (lo.getD 0) items.size)).take (min (hi.getD items.size) items.size - min (lo.getD 0) items.size)).toArray.size ≤ 4096 := by
      simp; omega
    exact Nat.le_trans this (by decide)
  dsimp only
  split
  · rename_i hw
    simp only [Bool.and_eq_true, beq_iff_eq] at hw
    have hwhole : cut items.toList lo hi = items.toList := by
      rw [hcut, show min (lo.getD 0) items.size = 0 by omega, List.drop_zero, List.take_of_length_le (by simp; omega)]
    refine wpAny_bind ?_
    unfold Builtin.Tuple.tupleIsExact
    refine wpAny_bind (wpAny_typeOf ht.typeIs (wpAny_pure ?_))
    rw [if_pos (by decide)]
    first | exact wpAny_bind (wpAny_rule (wpAny_bind (wpAny_pure (wpAny_pure ⟨_, rfl, wpAny_pure (h1 hwhole)⟩)))) | exact wpAny_bind (wpAny_rule (wpAny_pure ⟨_, rfl, wpAny_pure (h1 hwhole)⟩)) | trace_state
  · exact tail
end Mine
namespace Mine
open PySem PySem.W PySem.Calls PyProof.Rows

section
variable {X : Wd} {n : Nat} {P : PV → Prop}
theorem op_add {a b : Int} (h : P (.int (a + b))) : Op2 X n (binaryOp .Add) (.int a) (.int b) P := fun A E s V v₁ v₂ hA H h1 h2 => by
  obtain ⟨t, rfl⟩ := val_int.mp h1
  obtain ⟨u, rfl⟩ := val_int.mp h2
  exact add_int ⟨Step.toks, _, h, val_int.mpr ⟨_, rfl⟩⟩
theorem op_sub {a b : Int} (h : P (.int (a - b))) : Op2 X n (binaryOp .Sub) (.int a) (.int b) P := fun A E s V v₁ v₂ hA H h1 h2 => by
  obtain ⟨t, rfl⟩ := val_int.mp h1
  obtain ⟨u, rfl⟩ := val_int.mp h2
  exact sub_int ⟨Step.toks, _, h, val_int.mpr ⟨_, rfl⟩⟩
theorem op_mod {a b : Int} (hb : b ≠ 0) (h : P (.int (a.fmod b))) : Op2 X n (binaryOp .Mod) (.int a) (.int b) P := fun A E s V v₁ v₂ hA H h1 h2 => by
  obtain ⟨t, rfl⟩ := val_int.mp h1
  obtain ⟨u, rfl⟩ := val_int.mp h2
  exact mod_int hb ⟨Step.toks, _, h, val_int.mpr ⟨_, rfl⟩⟩
theorem op_lt {a b : Int} (h : P (.bool (decide (a < b)))) : Op2 X n (compareOp .Lt) (.int a) (.int b) P := fun A E s V v₁ v₂ hA H h1 h2 => by
  obtain ⟨t, rfl⟩ := val_int.mp h1
  obtain ⟨u, rfl⟩ := val_int.mp h2
  exact lt_int ⟨Step.refl _ _, _, h, val_bool.mpr rfl⟩
theorem op_eq {a b : Int} (h : P (.bool (a == b))) : Op2 X n (compareOp .Eq) (.int a) (.int b) P := fun A E s V v₁ v₂ hA H h1 h2 => by
  obtain ⟨t, rfl⟩ := val_int.mp h1
  obtain ⟨u, rfl⟩ := val_int.mp h2
  exact eq_int ⟨Step.refl _ _, _, h, val_bool.mpr rfl⟩
theorem op_ne {a b : Int} (h : P (.bool (a != b))) : Op2 X n (compareOp .NotEq) (.int a) (.int b) P := fun A E s V v₁ v₂ hA H h1 h2 => by
  obtain ⟨t, rfl⟩ := val_int.mp h1
  obtain ⟨u, rfl⟩ := val_int.mp h2
  exact ne_int ⟨Step.refl _ _, _, h, val_bool.mpr rfl⟩
theorem op_eq_str {a b : Str} (h : P (.bool (a == b))) : Op2 X n (compareOp .Eq) (.str a) (.str b) P := fun A E s V v₁ v₂ hA H h1 h2 => by
  obtain ⟨t, rfl⟩ := val_str.mp h1
  obtain ⟨u, rfl⟩ := val_str.mp h2
  exact SeqAt.RcAt.str_str a t b u X.prog X.w E _ ⟨Step.refl _ _, _, h, val_bool.mpr rfl⟩
end

def Atom : PV → Prop
  | .none | .bool _ | .int _ | .str _ => True
  | _ => False
def Flat : PV → Prop
  | .seq c l => (∀ C, c ≠ .ref C) ∧ ∀ x ∈ l, Atom x
  | .row _ l => ∀ x ∈ l, Atom x
  | d => Atom d
theorem Atom.inj {P : Params} {V : Rgn} {h : Heap} : ∀ {d₁ d₂ : PV} {v : Value}, Atom d₁ → Atom d₂ → Val P V h d₁ v → Val P V h d₂ v → d₁ = d₂ := by
  intro d₁ d₂ v a1 a2 h1 h2
  cases d₁ <;> simp only [Atom] at a1 <;> cases d₂ <;> simp only [Atom] at a2 <;> simp only [val_none, val_bool, val_int, val_str] at h1 h2
  all_goals first
    | rfl
    | (obtain ⟨t, h1⟩ := h1; obtain ⟨u, h2⟩ := h2; rw [h1] at h2; cases h2 <;> rfl)
    | (obtain ⟨t, h1⟩ := h1; rw [h1] at h2; cases h2 <;> rfl)
    | (obtain ⟨t, h2⟩ := h2; rw [h2] at h1; cases h1 <;> rfl)
    | (rw [h1] at h2; cases h2 <;> rfl)
theorem Atoms.inj {P : Params} {V : Rgn} {h : Heap} : ∀ {l₁ l₂ : List PV} {vs : List Value}, (∀ x ∈ l₁, Atom x) → (∀ x ∈ l₂, Atom x) → Vals P V h l₁ vs → Vals P V h l₂ vs → l₁ = l₂
  | [], [], _, _, _, _, _ => rfl
  | [], _ :: _, _, _, _, h1, h2 => by have := vals_nil.mp h1; subst this; obtain ⟨_, _, e, _⟩ := vals_cons.mp h2; cases e
  | _ :: _, [], _, _, _, h1, h2 => by have := vals_nil.mp h2; subst this; obtain ⟨_, _, e, _⟩ := vals_cons.mp h1; cases e
  | d₁ :: l₁, d₂ :: l₂, vs, a1, a2, h1, h2 => by
    obtain ⟨v, r, rfl, x1, y1⟩ := vals_cons.mp h1
    obtain ⟨x2, y2⟩ := vals_cons'.mp h2
    rw [Atom.inj (a1 _ (by simp)) (a2 _ (by simp)) x1 x2, Atoms.inj (fun x hx => a1 x (by simp [hx])) (fun x hx => a2 x (by simp [hx])) y1 y2]
theorem Flat.inj {P : Params} {V : Rgn} {h : Heap} {d₁ d₂ : PV} {v : Value} (a1 : Flat d₁) (a2 : Flat d₂) (h1 : Val P V h d₁ v) (h2 : Val P V h d₂ v) : d₁ = d₂ := by
  have atomref : ∀ {d : PV} {r : Addr}, Atom d → ¬ Val P V h d (.ref r) := fun {d r} ha hv => by
    cases d <;> simp only [Atom] at ha <;> rw [Val] at hv <;> first | (obtain ⟨t, e⟩ := hv; cases e) | cases hv
  cases d₁ <;> cases d₂ <;> simp only [Flat] at a1 a2
  case seq.seq c₁ l₁ c₂ l₂ =>
    obtain ⟨r, n, vs, rfl, _, ho, hv⟩ := val_seq.mp h1
    obtain ⟨r', n', vs', e, _, ho', hv'⟩ := val_seq.mp h2
    cases e
    rw [ho] at ho'
    cases ho'
    rw [Atoms.inj a1.2 a2.2 hv hv']
  case row.row c₁ l₁ c₂ l₂ =>
    obtain ⟨r, n, od, vs, rfl, _, ho, hv⟩ := val_row.mp h1
    obtain ⟨r', n', od', vs', e, _, ho', hv'⟩ := val_row.mp h2
    cases e
    rw [ho] at ho'
    cases ho'
    rw [Atoms.inj a1 a2 hv hv']
  case seq.row c₁ l₁ c₂ l₂ =>
    obtain ⟨r, n, vs, rfl, _, ho, hv⟩ := val_seq.mp h1
    obtain ⟨r', n', od', vs', e, _, ho', hv'⟩ := val_row.mp h2
    cases e
    rw [ho] at ho'
    injection ho' with ho'
    injection ho' with hc
    exact absurd hc (a1.1 _)
  case row.seq c₁ l₁ c₂ l₂ =>
    obtain ⟨r, n, od, vs, rfl, _, ho, hv⟩ := val_row.mp h1
    obtain ⟨r', n', vs', e, _, ho', hv'⟩ := val_seq.mp h2
    cases e
    rw [ho] at ho'
    injection ho' with ho'
    injection ho' with hc
    exact absurd hc.symm (a2.1 _)
  all_goals first
    | exact Atom.inj a1 a2 h1 h2
    | (obtain ⟨r, n, vs, rfl, _⟩ := val_seq.mp h1; exact absurd h2 (atomref a2))
    | (obtain ⟨r, n, vs, rfl, _⟩ := val_seq.mp h2; exact absurd h1 (atomref a1))
    | (obtain ⟨r, n, od, vs, rfl, _⟩ := val_row.mp h1; exact absurd h2 (atomref a2))
    | (obtain ⟨r, n, od, vs, rfl, _⟩ := val_row.mp h2; exact absurd h1 (atomref a1))
    | exact a1.elim
    | exact a2.elim

/-- what == says of two data -/
def EqOk (X : Wd) (n : Nat) (d₁ d₂ : PV) (b : Bool) : Prop :=
  ∀ (A : Around) (s : Shared) (V : Rgn) (v₁ v₂ : Value), AOk A n → Hp X V s → Val X.P V s.heap d₁ v₁ → Val X.P V s.heap d₂ v₂ → SeqAt.EqAt A s v₁ v₂ b
def NeOk (X : Wd) (n : Nat) (d₁ d₂ : PV) (b : Bool) : Prop :=
  ∀ (A : Around) (s : Shared) (V : Rgn) (v₁ v₂ : Value), AOk A n → Hp X V s → Val X.P V s.heap d₁ v₁ → Val X.P V s.heap d₂ v₂ → SeqAt.RcNeAt A s v₁ v₂ b

section
variable {X : Wd} {n : Nat}
theorem eqok_str (a b : Str) : EqOk X n (.str a) (.str b) (a == b) := fun A s V v₁ v₂ hA H h1 h2 => by
  obtain ⟨t, rfl⟩ := val_str.mp h1
  obtain ⟨u, rfl⟩ := val_str.mp h2
  exact SeqAt.EqAt.str_str a t b u
theorem eqok_bool (a b : Bool) : EqOk X n (.bool a) (.bool b) (a == b) := fun A s V v₁ v₂ hA H h1 h2 => by
  have := val_bool.mp h1
  subst this
  have := val_bool.mp h2
  subst this
  exact SeqAt.EqAt.bool_bool a b

open Classical in
theorem items_any {P : Params} {V : Rgn} {h : Heap} {l : List PV} {vs : Array Value} {d : PV} (hd : Flat d) (hl : ∀ x ∈ l, Flat x) (hv : Vals P V h l vs.toList) : vs.any (fun v => decide (Val P V h d v)) = decide (d ∈ l) := by
  rw [Bool.eq_iff_iff]
  rw [decide_eq_true_iff, Array.any_eq_true]
  constructor
  · rintro ⟨i, hi, hp⟩
    obtain ⟨y, hy, hyv⟩ := hv.get' (i := i) (v := vs[i]) (by rw [Array.getElem?_toList, Array.getElem?_eq_getElem hi])
    have hym := List.mem_of_getElem? hy
    rw [Flat.inj hd (hl y hym) (of_decide_eq_true hp) hyv]
    exact hym
  · intro hm
    obtain ⟨i, hi⟩ := List.mem_iff_getElem?.mp hm
    obtain ⟨v, hv', hx⟩ := hv.get hi
    rw [Array.getElem?_toList] at hv'
    obtain ⟨hlt, e⟩ := Array.getElem?_eq_some_iff.mp hv'
    exact ⟨i, hlt, by rw [e]; exact decide_eq_true hx⟩

open Classical in
theorem op_in {d : PV} {c : Value} {l : List PV} {P : PV → Prop} (hc : c = tList ∨ c = tTuple) (hd : Flat d) (hl : ∀ x ∈ l, Flat x) (he : ∀ x ∈ l, EqOk X n x d (decide (x = d))) (h : P (.bool (decide (d ∈ l)))) : Op2 X (n + 1) (compareOp .In) d (.seq c l) P := fun A E s V v₁ v₂ hA H h1 h2 => by
  obtain ⟨r, m, vs, rfl, nr, ho, hv⟩ := val_seq.mp h2
  have hE : ∀ y, y ∈ vs → SeqAt.EqAt A.in1 s y v₁ (decide (Val X.P V s.heap d y)) := fun y hy => by
    obtain ⟨i, hi, rfl⟩ := Array.mem_iff_getElem.mp hy
    obtain ⟨x, hx, hxv⟩ := hv.get' (i := i) (v := vs[i]) (by rw [Array.getElem?_toList, Array.getElem?_eq_getElem hi])
    have hxm := List.mem_of_getElem? hx
    have := he x hxm A.in1 s V _ v₁ hA.in1 H hxv h1
    have e : decide (Val X.P V s.heap d vs[i]) = decide (x = d) := by
      rw [decide_eq_decide]
      exact ⟨fun q => Flat.inj (hl x hxm) hd hxv q, fun q => q ▸ hxv⟩
    rw [e]; exact this
  have res : Res X V P s (.bool (vs.any fun v => decide (Val X.P V s.heap d v))) s := by
    rw [items_any hd hl hv]
    exact ⟨Step.refl _ _, _, h, val_bool.mpr rfl⟩
  rcases hc with rfl | rfl
  · exact SeqAt.in_listAt _ (Heap.IsList.of ho) hE res
  · exact SeqAt.in_tupleAt _ (Heap.IsTuple.of ho) hE res
open Classical in
theorem op_notin {d : PV} {c : Value} {l : List PV} {P : PV → Prop} (hc : c = tList ∨ c = tTuple) (hd : Flat d) (hl : ∀ x ∈ l, Flat x) (he : ∀ x ∈ l, EqOk X n x d (decide (x = d))) (h : P (.bool (!decide (d ∈ l)))) : Op2 X (n + 1) (compareOp .NotIn) d (.seq c l) P := fun A E s V v₁ v₂ hA H h1 h2 => by
  obtain ⟨r, m, vs, rfl, nr, ho, hv⟩ := val_seq.mp h2
  have hE : ∀ y, y ∈ vs → SeqAt.EqAt A.in1 s y v₁ (decide (Val X.P V s.heap d y)) := fun y hy => by
    obtain ⟨i, hi, rfl⟩ := Array.mem_iff_getElem.mp hy
    obtain ⟨x, hx, hxv⟩ := hv.get' (i := i) (v := vs[i]) (by rw [Array.getElem?_toList, Array.getElem?_eq_getElem hi])
    have hxm := List.mem_of_getElem? hx
    have := he x hxm A.in1 s V _ v₁ hA.in1 H hxv h1
    have e : decide (Val X.P V s.heap d vs[i]) = decide (x = d) := by
      rw [decide_eq_decide]
      exact ⟨fun q => Flat.inj (hl x hxm) hd hxv q, fun q => q ▸ hxv⟩
    rw [e]; exact this
  have res : Res X V P s (.bool (!vs.any fun v => decide (Val X.P V s.heap d v))) s := by
    rw [items_any hd hl hv]
    exact ⟨Step.refl _ _, _, h, val_bool.mpr rfl⟩
  rcases hc with rfl | rfl
  · exact SeqAt.notIn_listAt _ (Heap.IsList.of ho) hE res
  · exact SeqAt.notIn_tupleAt _ (Heap.IsTuple.of ho) hE res

/-- a list against the empty one -/
theorem op_eq_nil {l : List PV} {P : PV → Prop} (h : P (.bool l.isEmpty)) : Op2 X n (compareOp .Eq) (.list l) (.list []) P := fun A E s V v₁ v₂ hA H h1 h2 => by
  obtain ⟨r, m, vs, rfl, nr, ho, hv⟩ := val_seq.mp h1
  obtain ⟨r', m', vs', rfl, nr', ho', hv'⟩ := val_seq.mp h2
  have e : vs' = #[] := by have := vals_nil.mp hv'; simpa using this
  subst e
  have hu : A.units < cLine := hA.unit'
  have hl := hv.length
  cases l with
  | nil =>
    have e : vs = #[] := by have := vals_nil.mp hv; simpa using this
    subst e
    exact SeqAt.eq_listAt (e := fun _ => true) (Heap.IsList.of ho) (Heap.IsList.of ho') rfl hu (fun j h1 _ => absurd h1 (Nat.not_lt_zero j)) ⟨Step.refl _ _, _, h, val_bool.mpr rfl⟩
  | cons d l =>
    exact SeqAt.eq_list_lengthsAt (Heap.IsList.of ho) (Heap.IsList.of ho') (by simp at hl; show (vs.size != 0) = true; rw [bne_iff_ne]; omega) hu ⟨Step.refl _ _, _, h, val_bool.mpr rfl⟩
theorem op_ne_nil {l : List PV} {P : PV → Prop} (h : P (.bool (!l.isEmpty))) : Op2 X n (compareOp .NotEq) (.list l) (.list []) P := fun A E s V v₁ v₂ hA H h1 h2 => by
  obtain ⟨r, m, vs, rfl, nr, ho, hv⟩ := val_seq.mp h1
  obtain ⟨r', m', vs', rfl, nr', ho', hv'⟩ := val_seq.mp h2
  have e : vs' = #[] := by have := vals_nil.mp hv'; simpa using this
  subst e
  have hu : A.units < cLine := hA.unit'
  have hl := hv.length
  cases l with
  | nil =>
    have e : vs = #[] := by have := vals_nil.mp hv; simpa using this
    subst e
    exact SeqAt.RcNeAt.lists (e := fun _ => true) (Heap.IsList.of ho) (Heap.IsList.of ho') rfl hu (fun j h1 _ => absurd h1 (Nat.not_lt_zero j)) X.prog X.w E _ ⟨Step.refl _ _, _, h, val_bool.mpr rfl⟩
  | cons d l =>
    exact SeqAt.RcNeAt.lists_lengths (Heap.IsList.of ho) (Heap.IsList.of ho') (by simp at hl; show (vs.size != 0) = true; rw [bne_iff_ne]; omega) hu X.prog X.w E _ ⟨Step.refl _ _, _, h, val_bool.mpr rfl⟩
end
end Mine
namespace Mine
open PySem PySem.W PySem.Calls PyProof.Rows

section
variable {X : Wd} {n : Nat} {P : PV → Prop}
theorem op_fdiv {a b : Int} (hb : b ≠ 0) (hs : b.natAbs < 1073741824) (h : P (.int (a.fdiv b))) : Op2 X n (binaryOp .FloorDiv) (.int a) (.int b) P := fun A E s V v₁ v₂ hA H h1 h2 => by
  obtain ⟨t, rfl⟩ := val_int.mp h1
  obtain ⟨u, rfl⟩ := val_int.mp h2
  exact floordiv_int hb ⟨Step.toks, _, h, val_int.mpr ⟨_, rfl⟩⟩ (.inl (PyProof.noPylong_small hs))

theorem fc_len_list {l : List PV} (hl : l.length ≤ 4096) (h : P (.int l.length)) : FC X n (.builtin "len") [.list l] P := fun A E s V vs hA H hv => by
  obtain ⟨v, r, rfl, h1, hv⟩ := vals_cons.mp hv
  have := vals_nil.mp hv
  subst this
  obtain ⟨r, m, ws, rfl, nr, ho, hw⟩ := val_seq.mp h1
  have e := hw.length
  have e' : ws.size = l.length := by simpa using e.symm
  exact call_len_list (Heap.IsList.of ho) (by omega) ⟨Step.toks, _, h, val_int.mpr ⟨_, by rw [e']⟩⟩
theorem fc_len_tuple {l : List PV} (hl : l.length ≤ 4096) (h : P (.int l.length)) : FC X n (.builtin "len") [.tup l] P := fun A E s V vs hA H hv => by
  obtain ⟨v, r, rfl, h1, hv⟩ := vals_cons.mp hv
  have := vals_nil.mp hv
  subst this
  obtain ⟨r, m, ws, rfl, nr, ho, hw⟩ := val_seq.mp h1
  have e := hw.length
  have e' : ws.size = l.length := by simpa using e.symm
  exact Calls.call_function_entry kind_len plain_len entry_len (args_len1 _) (len_body_tuple (⟨_, ho, rfl, m, rfl⟩ : IsTup s.heap r ws) (by omega) ⟨Step.toks, _, h, val_int.mpr ⟨_, by rw [e']⟩⟩)
end

section
variable {Y : Act} {q : Vw} {M V : Rgn} {P : PV → Prop}
/-- a place that holds d, and may change later -/
def PM (Y : Act) (q : Vw) (e : Expr) (d : PV) : Prop :=
  ∀ (M V : Rgn) (A : Around) (E : Value → Shared → Prop) (s : Shared), AOk A Y.n → EnvOk Y ⟨q, M, V⟩ s → wpAny Y.mo A (eval e Y.env) (fun v s' => Step None s s' ∧ ∃ r, v = .ref r ∧ (r == sysModules) = false ∧ Top Y.P V s'.heap d r) E s

theorem PM.name {x : Str} {pos : Pos} {d : PV} (hx : q.ρ x = some (.mt d)) (hd : (x == ("__debug__" : Str)) = false := by decide) (hc : (x == ("__classdict__" : Str)) = false := by decide) : PM Y q (.Name x pos) d := fun M V A E s hA G => by
  obtain ⟨u, hu, r, rfl, hM, ho, hU, hS, ht⟩ := G.slots x _ hx
  exact rd_name G hu ⟨Step.refl _ _, r, rfl, G.hp.nosys (G.mv _ hM), ht⟩ hd hc
theorem PM.dict {e : Expr} {ks ds : List PV} (h : PE Y q e fun d => d = .dict ks ds) : PM Y q e (.dict ks ds) := fun M V A E s hA G =>
  h.use hA G fun v s' d hd hv st G' => by
    subst hd
    obtain ⟨r, m, es, rfl, sm, nr, ho, h1, h2, h3⟩ := val_dict.mp hv
    exact ⟨st, r, rfl, sm, m, es, ho, h1, h2, h3⟩

/-- len of a place -/
theorem PE.lenM {e : Expr} {p pos : Pos} {l : List PV} (hf : FnIs Y "len" (.builtin "len")) (h : PM Y q e (.list l)) (hl : l.length ≤ 4096) (hp : P (.int l.length)) (hn : noStar [e] = true := by rfl) : PE Y q (.Call (.Name "len" p) [e] [] pos) P := fun M V A E s hA G => by
  refine wpAny_Call_NameR (rd_fn G hf ?_)
  refine callWith_of (P := fun h => Y.K.In h) (by rw [star_none hn]; rfl) (fun h hh => Callee.looks (X := Y.toWd) (.inr (.inr ⟨_, rfl⟩)) hh) ?_
  rw [(star_cons (env := Y.env) (pos := pos) hn).1]
  refine evalArgs_plain (spliced_cons (wpAny_mono (h M V A E s hA G) (fun v s₁ h₁ => spliced_nil ?_) fun _ _ x => x))
  obtain ⟨st, r, rfl, sm, m, ws, ho, hw⟩ := h₁
  have e := hw.length
  have e' : ws.size = l.length := by simpa using e.symm
  exact ⟨(G.stepN st).hp.inK, call_len_list (Heap.IsList.of ho) (by omega) ⟨st.trans Step.toks, _, hp, val_int.mpr ⟨_, by rw [e']⟩⟩⟩

/-- d[k] -/
theorem PE.dget {o i : Expr} {pos : Pos} {ok : PV → Prop} {n : Nat} {ks ds : List PV} (D : DKey Y.toWd n ok) (hn : n + 1 ≤ Y.n) (h : PM Y q o (.dict ks ds)) (hks : ∀ x ∈ ks, ok x) (hnd : ks.Nodup)
    (hi : PE Y q i fun k => ok k ∧ ∃ (j : Nat) (d : PV), ks[j]? = some k ∧ ds[j]? = some d ∧ P d) : PE Y q (.Subscript o i pos) P := fun M V A E s hA G => by
  refine subs_any (wpAny_mono (h M V A E s hA G) (fun v s₁ h₁ => ?_) fun _ _ x => x)
  obtain ⟨st, r, rfl, sm, ht⟩ := h₁
  refine hi.use hA (G.stepN st) fun kv s₂ k hk hv st₂ G₂ => ?_
  obtain ⟨hok, j, d, hj, hd, hp⟩ := hk
  have ht₂ : Top Y.P V s₂.heap (.dict ks ds) r := ht.at (fun b o nb e => ⟨nb, st₂.kp b o e⟩) fun o e => st₂.kp r o e
  refine ⟨?_, ?_⟩
  · obtain ⟨ep, es, ho, _⟩ := ht₂
    exact ⟨"dict", _, slot_dict_getitem.lookup, ⟨_, ho, rfl⟩⟩
  · exact dict_item D (hA.mono hn) G₂.hp hok hks hnd hv ht₂ hj hd fun tk v hv => ⟨(st.trans st₂).trans Step.toks, d, hp, hv⟩

/-- l[i] -/
theorem PE.item {o i : Expr} {pos : Pos} (h : PE Y q o fun d => ∃ c l, d = .seq c l ∧ (c = tList ∨ c = tTuple) ∧ l.length ≤ 4096 ∧ PE Y q i fun k => ∃ (j : Nat) (d : PV), k = .int (j : Nat) ∧ l[j]? = some d ∧ P d) : PE Y q (.Subscript o i pos) P := fun M V A E s hA G => by
  refine subs_any (h.use hA G fun v s₁ d hp hv st G₁ => ?_)
  obtain ⟨c, l, rfl, hc, hl, hi⟩ := hp
  refine hi.use hA G₁ fun kv s₂ k hk hkv st₂ G₂ => ?_
  obtain ⟨j, d, rfl, hj, hpd⟩ := hk
  obtain ⟨t, rfl⟩ := val_int.mp hkv
  obtain ⟨r, m, ws, rfl, nr, ho, hw⟩ := val_seq.mp (hv.stepN st₂)
  obtain ⟨x, hx, hxv⟩ := hw.get hj
  rw [Array.getElem?_toList] at hx
  have hjl : j < l.length := (List.getElem?_eq_some_iff.mp hj).1
  rcases hc with rfl | rfl
  · refine ⟨⟨"list", _, list_getitem_lookup, ⟨_, ho, rfl⟩⟩, wpAny_getItem_list (Heap.IsList.of ho) (by omega) (by omega) (by simpa using hx) ⟨st.trans st₂, d, hpd, hxv⟩⟩
  · have e := hw.length
    have e' : ws.size = l.length := by simpa using e.symm
    refine ⟨⟨"tuple", _, PyProof.Rows.slot_tuple_getitem.lookup, ⟨_, ho, rfl⟩⟩, PyProof.Rows.getItem_tuple (⟨_, ho, rfl, m, rfl⟩ : IsTup s₂.heap r ws) (by omega) (by omega) (j := j) ?_ hx ⟨st.trans st₂, d, hpd, hxv⟩⟩
    unfold seqIndex?
    simp
    omega

/-- one end of a slice -/
def PO (Y : Act) (q : Vw) : Option Expr → (Option Nat → Prop) → Prop
  | none, R => R none
  | some e, R => PE Y q e fun d => ∃ a : Nat, d = .int a ∧ R (some a)
theorem PO.use {e : Option Expr} {R : Option Nat → Prop} {A : Around} {E : Value → Shared → Prop} {s : Shared} {Q : Value → Shared → Prop} (h : PO Y q e R) (hA : AOk A Y.n) (G : EnvOk Y ⟨q, M, V⟩ s)
    (k : ∀ v s' (lo : Option Nat), R lo → IsPart v (lo.map fun (n : Nat) => (n : Int)) → Step None s s' → EnvOk Y ⟨q, M, V⟩ s' → Q v s') : wpAny Y.mo A (evalPart e Y.env) Q E s := by
  cases e with
  | none => exact wpAny_pure (k .none s none h .none (Step.refl _ _) G)
  | some e =>
    show wpAny Y.mo A (eval e Y.env) Q E s
    refine PE.use h hA G fun v s' d hp hv st G' => ?_
    obtain ⟨a, rfl, hr⟩ := hp
    obtain ⟨t, rfl⟩ := val_int.mp hv
    exact k _ s' (some a) hr (.int _ _) st G'

theorem PE.slice {o : Expr} {lo hi : Option Expr} {sp pos : Pos} (h : PE Y q o fun d => ∃ c l, d = .seq c l ∧ (c = tList ∨ c = tTuple) ∧ l.length ≤ 4096 ∧ PO Y q lo fun a => PO Y q hi fun b => P (.seq c (cut l a b))) : PE Y q (.Subscript o (.Slice lo hi none sp) pos) P := fun M V A E s hA G => by
  refine subs_any (h.use hA G fun v s₁ d hp hv st G₁ => wpAny_Slice ?_)
  obtain ⟨c, l, rfl, hc, hl, hi⟩ := hp
  refine PO.use hi hA G₁ fun v₁ s₂ a hr pa st₂ G₂ => PO.use hr hA G₂ fun v₂ s₃ b hr pb st₃ G₃ => ?_
  rw [evalPart_none]
  obtain ⟨r, m, ws, rfl, nr, ho, hw⟩ := val_seq.mp ((hv.stepN st₂).stepN st₃)
  have e := hw.length
  have e' : ws.size = l.length := by simpa using e.symm
  have ho' : (s₃.heap.push { cls := .type "slice", data := .fields #[v₁, v₂, .none] }).get? r = some (seqO c ws m) := Heap.get?_push_of_some _ ho
  have sta : Step None s { s₃ with heap := s₃.heap.push { cls := .type "slice", data := .fields #[v₁, v₂, .none] } } := (((st.trans st₂).trans st₃).trans (Step.push _ (t := s₃.toks)))
  have hw' : Vals Y.P V (s₃.heap.push { cls := .type "slice", data := .fields #[v₁, v₂, .none] }) l ws.toList := hw.keeps fun b o _ e => Heap.get?_push_of_some _ e
  have hf : ¬ V (s₃.heap.push { cls := .type "slice", data := .fields #[v₁, v₂, .none] }).objs.size := fun w => by
    obtain ⟨o, e⟩ := G₃.bnd _ w
    have := Heap.get?_push_of_some { cls := .type "slice", data := .fields #[v₁, v₂, .none] } e
    rw [get?_size] at this; cases this
  rcases hc with rfl | rfl
  · refine wpAny_pure ⟨⟨"list", _, list_getitem_lookup, ⟨_, ho', rfl⟩⟩, wpAny_getItem_list_slice (Heap.IsList.of ho') (Heap.IsSliceOf.new ..) pa pb .none (by simp) ?_ (by rw [e']; exact Nat.le_trans hl (by decide))⟩
    refine ⟨sta.trans (Step.push _ (t := s₃.toks)), _, hr, val_seq.mpr ⟨_, 0, _, rfl, hf, Heap.get?_push_size _ rfl, ?_⟩⟩
    rw [slicePick_cut]
    unfold cut
    have e2 : l.length = ws.toList.length := e
    rw [e2]
    exact Vals.keeps (Vals.drop _ (Vals.take _ hw')) fun b o _ e => Heap.get?_push_of_some _ e
  · refine wpAny_pure ⟨⟨"tuple", _, PyProof.Rows.slot_tuple_getitem.lookup, ⟨_, ho', rfl⟩⟩, tuple_slice ho' (Heap.IsSliceOf.new ..) pa pb (by omega) (fun hw2 => ?_) fun xs hx => ?_⟩
    · refine ⟨sta, _, hr, val_seq.mpr ⟨r, m, ws, rfl, nr, ho', ?_⟩⟩
      have : Vals Y.P V (s₃.heap.push { cls := .type "slice", data := .fields #[v₁, v₂, .none] }) (cut l a b) (cut ws.toList a b) := by
        unfold cut
        have e2 : l.length = ws.toList.length := e
        rw [e2]
        exact Vals.drop _ (Vals.take _ hw')
      rw [hw2] at this
      exact this
    · refine ⟨sta.trans (Step.push _ (t := s₃.toks)), _, hr, val_seq.mpr ⟨_, 0, xs, rfl, hf, Heap.get?_push_size _ rfl, ?_⟩⟩
      rw [hx]
      unfold cut
      have e2 : l.length = ws.toList.length := e
      rw [e2]
      exact Vals.keeps (Vals.drop _ (Vals.take _ hw')) fun b o _ e => Heap.get?_push_of_some _ e
end
end Mine
namespace Mine
open PySem PySem.W PySem.Calls PyProof.Rows

def Vw.le (q q' : Vw) : Prop := q'.S = q.S ∧ q'.I = q.I ∧ ∀ x sl, q.ρ x = some sl → q'.ρ x = some sl
theorem Vw.le_refl (q : Vw) : q.le q := ⟨rfl, rfl, fun _ _ e => e⟩
theorem Vw.le_trans {a b c : Vw} (x : a.le b) (y : b.le c) : a.le c := ⟨y.1.trans x.1, y.2.1.trans x.2.1, fun n sl e => y.2.2 n sl (x.2.2 n sl e)⟩
theorem Vw.le_set {q : Vw} {x : Str} {sl : Slot} (h : q.ρ x = none) : q.le (q.set x sl) := ⟨rfl, rfl, fun y sl' e => by
  rw [Vw.set_ρ]
  split
  · rename_i w; rw [w, h] at e; cases e
  · exact e⟩

section
variable {Y : Act} {q q' : Vw} {M V W : Rgn} {s s' : Shared} {A : Around} {E : Value → Shared → Prop}
theorem EnvOk.forget (G : EnvOk Y ⟨q', M, V⟩ s) (h : q.le q') : EnvOk Y ⟨q, M, V⟩ s := by
  obtain ⟨S', ρ', I'⟩ := q'
  obtain ⟨S, ρ, I⟩ := q
  obtain ⟨h1, h2, h3⟩ := h
  simp only at h1 h2 h3
  subst h1 h2
  exact {
    kind := G.kind
    glob := G.glob
    blt := G.blt
    keep := G.keep
    bnd := G.bnd
    mv := G.mv
    uv := G.uv
    om := G.om
    ou := G.ou
    oo := G.oo
    lo := G.lo
    low := G.low
    ns := G.ns
    cell := G.cell
    apart := G.apart
    slots := fun x sl e => let ⟨v, r, hv⟩ := G.slots x sl (h3 x sl e); ⟨v, r, hv.ext rfl rfl rfl⟩
    dist := fun x y d e v hn hx hy => G.dist x y d e v hn (h3 _ _ hx) (h3 _ _ hy)
    sm := G.sm
    os := G.os
    inv := G.inv
    stab := G.stab }

/-- what a comprehension's frame inherits -/
noncomputable def inh (q : Vw) (env env' : Env) : Vw :=
  { q with ρ := open Classical in fun x => if (∃ c, env'.cells.lookup x = some c ∧ env.cells.lookup x = some c) ∧ (env'.kindOf x = some .cell ∨ env'.kindOf x = some .free) ∧ (env.kindOf x = some .cell ∨ env.kindOf x = some .free) then q.ρ x else none }
theorem inh_some {q : Vw} {env env' : Env} {x : Str} {sl : Slot} (h : (inh q env env').ρ x = some sl) :
    (∃ c, env'.cells.lookup x = some c ∧ env.cells.lookup x = some c) ∧ (env'.kindOf x = some .cell ∨ env'.kindOf x = some .free) ∧ (env.kindOf x = some .cell ∨ env.kindOf x = some .free) ∧ q.ρ x = some sl := by
  unfold inh at h
  dsimp only at h
  split at h
  · rename_i w; exact ⟨w.1, w.2.1, w.2.2, h⟩
  · cases h
theorem inh_of {q : Vw} {env env' : Env} {x : Str} {c : Addr} (h1 : env'.cells.lookup x = some c) (h2 : env.cells.lookup x = some c) (h3 : env'.kindOf x = some .cell ∨ env'.kindOf x = some .free) (h4 : env.kindOf x = some .cell ∨ env.kindOf x = some .free) :
    (inh q env env').ρ x = q.ρ x := by
  unfold inh
  dsimp only
  rw [if_pos ⟨⟨c, h1, h2⟩, h3, h4⟩]
theorem inh_none {q : Vw} {env env' : Env} {x : Str} (h : env'.kindOf x = some .local) : (inh q env env').ρ x = none := by
  cases e : (inh q env env').ρ x with
  | none => rfl
  | some sl => obtain ⟨_, k, _⟩ := inh_some e; rw [h] at k; rcases k with k | k <;> cases k

@[reducible] def Act.comp (Y : Act) (scope : Scope) (cl : List (Str × Addr)) (C : Addr) : Act := { Y with env := compEnvC scope cl C Y.env, O := fun b => b = C }

theorem EnvOk.enter {scope : Scope} {cl : List (Str × Addr)} {C : Addr} (G : EnvOk Y ⟨q, M, V⟩ s) (hkind : scope.kind = .function) (hcl : ∀ n c, cl.lookup n = some c → Y.env.cells.lookup n = some c) (hC : V C) (hM : ¬ M C) (hU : ¬ Y.U C)
    (hns : ∃ m, s.heap.Ns C m) : EnvOk (Y.comp scope cl C) ⟨inh q Y.env (compEnvC scope cl C Y.env), fun b => M b ∨ b = C, V⟩ s := by
  have ownc : ∀ b, own (compEnvC scope cl C Y.env) b → b = C ∨ own Y.env b := fun b h => by
    rcases h with h | ⟨n, h⟩
    · exact .inl h
    · exact .inr (.inr ⟨n, hcl _ _ h⟩)
  have back : ∀ {x v sl}, (inh q Y.env (compEnvC scope cl C Y.env)).ρ x = some sl → Reads1 (compEnvC scope cl C Y.env) s.heap x v → Reads1 Y.env s.heap x v := fun {x v sl} h r => by
    obtain ⟨⟨c, h1, h2⟩, h3, h4, h5⟩ := inh_some h
    rcases r with ⟨k, _⟩ | ⟨k, c', l, e⟩
    · rw [k] at h3; rcases h3 with h3 | h3 <;> cases h3
    · rw [h1] at l; cases l
      exact .inr ⟨h4, c, h2, e⟩
  exact {
    kind := hkind
    glob := G.glob
    blt := G.blt
    keep := G.keep
    bnd := G.bnd
    mv := fun b h => h.elim (G.mv b) fun e => e ▸ hC
    uv := G.uv
    om := fun b h => (ownc b h).elim .inr fun h => .inl (G.om b h)
    ou := fun b h => (ownc b h).elim (fun e => e ▸ hU) (G.ou b)
    oo := fun b h => .inl h
    lo := rfl
    low := G.low
    ns := hns
    cell := fun n c e => by
      have e' := hcl n c e
      obtain ⟨h1, h2⟩ := G.cell n c e'
      exact ⟨fun (w : c = C) => hM (w ▸ G.om c (.inr ⟨n, e'⟩)), h2⟩
    apart := fun n n' c h1 h2 => G.apart n n' c (hcl _ _ h1) (hcl _ _ h2)
    slots := fun x sl h => by
      obtain ⟨⟨c, h1, h2⟩, h3, h4, h5⟩ := inh_some h
      obtain ⟨v, r, hv⟩ := G.slots x sl h5
      refine ⟨v, ?_, ?_⟩
      · rcases r with ⟨k, _⟩ | ⟨k, c', l, e⟩
        · rw [k] at h4; rcases h4 with h4 | h4 <;> cases h4
        · rw [h2] at l; cases l
          exact .inr ⟨h3, c, h1, e⟩
      · cases sl with
        | fz d => exact hv
        | mt d =>
          obtain ⟨r, e, a1, a2, a3, a4, t⟩ := hv
          exact ⟨r, e, .inl a1, fun w => (ownc r w).elim (fun w => hM (w ▸ a1)) a2, a3, a4, t⟩
    dist := fun x y d e v hn hx hy h1 h2 => G.dist x y d e v hn (inh_some hx).2.2.2 (inh_some hy).2.2.2 (back hx h1) (back hy h2)
    sm := fun b h => .inl (G.sm b h)
    os := fun b h w => (ownc b w).elim (fun w => hM (w ▸ G.sm b h)) (G.os b h)
    inv := G.inv
    stab := G.stab }

/-- the tests of a comprehension -/
def PTS (Y : Act) (q : Vw) : List Expr → (Bool → Prop) → Prop
  | [], R => R true
  | c :: cs, R => PT Y q c fun b => (b = true → PTS Y q cs R) ∧ (b = false → R false)
theorem tests_no {env : Env} {Q : Bool → Shared → Prop} (h : Q false s) : ∀ {cs : List Expr}, wpAny Y.mo A (forIn cs false fun c r => if r = true then do let ok ← isTrue c env (eval c env); pure (ForInStep.yield ok) else pure (ForInStep.yield r)) Q E s
  | [] => by rw [List.forIn_nil]; exact wpAny_pure h
  | c :: cs => by
    rw [List.forIn_cons]
    refine wpAny_bind ?_
    rw [if_neg Bool.false_ne_true]
    exact wpAny_pure (tests_no h)
theorem PTS.use : ∀ {cs : List Expr} {R : Bool → Prop} {s : Shared} {Q : Bool → Shared → Prop}, PTS Y q cs R → AOk A Y.n → EnvOk Y ⟨q, M, V⟩ s → (∀ b s', R b → Step None s s' → EnvOk Y ⟨q, M, V⟩ s' → Q b s') →
    wpAny Y.mo A (forIn cs true fun c r => if r = true then do let ok ← isTrue c Y.env (eval c Y.env); pure (ForInStep.yield ok) else pure (ForInStep.yield r)) Q E s
  | [], R, s, Q, h, hA, G, k => by rw [List.forIn_nil]; exact wpAny_pure (k true s h (Step.refl _ _) G)
  | c :: cs, R, s, Q, h, hA, G, k => by
    rw [List.forIn_cons]
    refine wpAny_bind ?_
    rw [if_pos rfl]
    refine wpAny_bind (PT.use h hA G fun b s₁ hb st G₁ => wpAny_pure ?_)
    cases b with
    | true => exact PTS.use (hb.1 rfl) hA G₁ fun b s₂ hr st₂ G₂ => k b s₂ hr (st.trans st₂) G₂
    | false => exact tests_no (k false s₁ (hb.2 rfl) st G₁)

/-- what the clauses of a comprehension bring, in order -/
def GI (Y : Act) (elt : Expr) : List Comprehension → Vw → List PV → Prop
  | [], q, outs => PE Y q elt fun d => outs = [d]
  | g :: rest, q, outs => ∃ nm, TOk nm g.target ∧ g.is_async = 0 ∧ (∀ x, foldedSetIterable g.iter Y.env x = pure x) ∧ outs.length ≤ 4096 ∧ IterE Y q nm g.iter fun l => ∃ outss : List (List PV), outss.length = l.length ∧ outs = outss.flatten ∧
      ∀ (i : Nat) d o, l[i]? = some d → outss[i]? = some o → ∃ q'', PA Y q g.target d q'' ∧ q.le q'' ∧ PTS Y q'' g.ifs fun b => (b = false → o = []) ∧ (b = true → GI Y elt rest q'' o)
end

theorem compTurn_at {elt t iter : Expr} {ifs : List Expr} {gens : List Comprehension} {scope : Scope} {pos : Pos} {k : Nat} {it acc : Value} {env : Env} (hg : gens[k]? = some ⟨t, iter, ifs, 0⟩) :
    compTurn (.ListComp elt gens scope pos) k it acc env = (do
      standAt iter.pos
      match ← pyNext it with
      | none => pure (.done .next)
      | some v =>
        letOwnedTupleGo t it v
        assign t env v
        let ok ← forIn ifs true fun c r => if r = true then do let ok ← isTrue c env (eval c env); pure (ForInStep.yield ok) else pure (ForInStep.yield r)
        if ok = true then
          match gens[k + 1]? with
          | some g' =>
            let x ← eval g'.iter env
            standAt g'.iter.pos
            let x ← if g'.is_async != 0 then foldedIterable g'.iter x else foldedSetIterable g'.iter env x
            let _ ← runOwn (.compStart (.ListComp elt gens scope pos) (k + 1) (← holding [x] (if g'.is_async != 0 then asyncIter x else pyIter x)) acc env) env
            again (.compLoop (.ListComp elt gens scope pos) k it acc env)
          | none =>
            (do let _ ← call (.builtin "list.append") [acc, ← eval elt env])
            again (.compLoop (.ListComp elt gens scope pos) k it acc env)
        else again (.compLoop (.ListComp elt gens scope pos) k it acc env)) := by
  unfold compTurn
  dsimp only
  rw [hg]
  cases hk : gens[k + 1]? with
  | none => rfl
  | some g' => rfl
end Mine
namespace Mine
open PySem PySem.W PySem.Calls PyProof.Rows

section
variable {prog : Program} {w : World} {A : Around} {E : Value → Shared → Prop} {R : Result → Shared → Prop} {s : Shared}
theorem compStart_at {elt t iter : Expr} {ifs : List Expr} {gens : List Comprehension} {scope : Scope} {pos : Pos} {k : Nat} {it acc : Value} {env : Env} (hg : gens[k]? = some ⟨t, iter, ifs, 0⟩)
    (h0 : codeAny (model prog w) A (.compLoop (.ListComp elt gens scope pos) k it acc env) R s)
    (h : wpAny (model prog w) A (pyIter it) (fun it' s' => codeAny (model prog w) A (.compLoop (.ListComp elt gens scope pos) k it' acc env) R s') (notedBy (model prog w) A env fun x s' => R (.error x) s') s) :
    codeAny (model prog w) A (.compStart (.ListComp elt gens scope pos) k it acc env) R s := by
  have hg' : (clausesOf (.ListComp elt gens scope pos))[k]? = some ⟨t, iter, ifs, 0⟩ := hg
  refine codeAny_of_tree ?_
  show wpAny _ _ ((compStart (.ListComp elt gens scope pos) k it acc env).onRaise (fun x => do noteFrame x env; standAt theWindowsPlace)) _ _ s
  refine wpAny_notedAt ?_
  unfold compStart
  rw [hg']
  show wpAny _ _ (ask >>= _) _ _ s
  refine wpAny_bind (wpAny_askSetting (wpAny_ite ?_))
  split
  · first
      | exact wpAny_bind (wpAny_pure (wpAny_pure (And.intro rfl h0)))
      | exact wpAny_pure (And.intro rfl h0)
  · first
      | exact wpAny_bind (wpAny_rule (wpAny_bind (wpAny_standAt (wpAny_bind (wpAny_mono h (fun it' s' h' => wpAny_pure (And.intro rfl h')) fun _ _ x => x)))))
      | (refine wpAny_bind (wpAny_rule ?_); show wpAny _ _ (standAt iter.pos >>= _) _ _ s; exact wpAny_bind (wpAny_standAt (wpAny_bind (wpAny_mono h (fun it' s' h' => wpAny_pure (And.intro rfl h')) fun _ _ x => x))))
end

theorem flatten_take_succ {α : Type} (L : List (List α)) (i : Nat) (o : List α) (h : L[i]? = some o) : (L.take (i + 1)).flatten = (L.take i).flatten ++ o := by
  rw [List.take_add_one, h]
  simp

section
variable {Y : Act} {elt : Expr} {gens : List Comprehension} {scope : Scope} {pos : Pos} {D : Addr} {R : Result → Shared → Prop}

theorem Top.list {P : Params} {V : Rgn} {h : Heap} {l : List PV} {D : Addr} : Top P V h (.list l) D ↔ ∃ n vs, h.get? D = some (seqO tList vs n) ∧ Vals P V h l vs.toList := Iff.rfl

theorem comp_loop : ∀ (rest : List Comprehension) (k : Nat) {t iter : Expr} {ifs : List Expr} (hg : gens[k]? = some ⟨t, iter, ifs, 0⟩) (hrest : gens.drop (k + 1) = rest) {nm : IK} {F own' : Rgn} {gn : Nat → Prop} {it : Value} {l : List PV} {J : Rgn → Nat → Shared → Prop}
    {A : Around} (itr : ItrD Y.toWd A F own' gn nm it l J) (ht : TOk nm t) {outss : List (List PV)} (hlen : outss.length = l.length) {q : Vw}
    (body : ∀ (i : Nat) d o, l[i]? = some d → outss[i]? = some o → ∃ q'', PA Y q t d q'' ∧ q.le q'' ∧ PTS Y q'' ifs fun b => (b = false → o = []) ∧ (b = true → GI Y elt rest q'' o))
    {M V : Rgn} {s : Shared} {l0 : List PV} {R : Result → Shared → Prop} (hA : AOk A Y.n) (G : EnvOk Y ⟨q, M, V⟩ s) (hD : V D) (hDM : ¬ M D) (hVF : ∀ b, V b → F b ∨ own' b) (hMF : ∀ b, M b → F b) (hDF : F D) (how : ∀ b, own' b → V b)
    (hUo : ∀ b, Y.U b → ¬ own' b) (hMo : ∀ b, M b → ¬ own' b) (hDo : ¬ own' D) (hJ : J own' 0 s) (ht0 : Top Y.P V s.heap (.list l0) D) (hz : l0.length + outss.flatten.length ≤ 4096)
    (fin : ∀ s', EnvOk Y ⟨q, M, fun b => V b ∧ ¬ own' b⟩ s' → StepG (fun b => Y.O b ∨ b = D ∨ own' b) gn s s' → (∀ i, gn i → s'.gens[i]? = some .finished) → Top Y.P (fun b => V b ∧ ¬ own' b) s'.heap (.list (l0 ++ outss.flatten)) D → R (.ok .next) s'),
    codeAny Y.mo A (.compLoop (.ListComp elt gens scope pos) k it (.ref D) Y.env) R s := fun rest => by
  induction rest with
  | nil => ?_
  | cons g' rest' ih => ?_
  all_goals
    intro k t iter ifs hg hrest nm F own' gn it l J A itr ht outss hlen q body M V₀ s l0 R hA G hD hDM hVF hMF hDF how hUo hMo hDo hJ ht0 hz fin
    have hA4 := hA.mono Y.hn
    have hV0 : ∀ b, V₀ b → s.heap.get? b ≠ none := fun b w e => by obtain ⟨ob, e'⟩ := G.bnd b w; rw [e] at e'; cases e'
    have hOM : ∀ b, Y.O b → M b := fun b o => G.om b (G.oo b o)
    have hVo : V₀ = fun b => V₀ b ∨ own' b := funext fun b => propext ⟨.inl, fun w => w.elim id (how b)⟩
    refine codeAny_loop rfl (fun n s' => ∃ i w, n = l.length + 1 - i ∧ i ≤ l.length ∧ EnvOk Y ⟨q, M, fun b => V₀ b ∨ w b⟩ s' ∧ J w i s' ∧ StepG (fun b => Y.O b ∨ b = D ∨ own' b) gn s s' ∧ Top Y.P (fun b => V₀ b ∨ w b) s'.heap (.list (l0 ++ (outss.take i).flatten)) D ∧ (∀ b, w b → own' b ∨ s.heap.get? b = none) ∧ (∀ b, own' b → w b)) ?_ (l.length + 1)
      ⟨0, own', rfl, Nat.zero_le _, hVo ▸ G, hJ, StepG.refl _ _ _, by rw [← hVo]; simpa using ht0, fun b h => .inl h, fun b h => h⟩
    rintro n s' ⟨i, w, rfl, hi, G', hJ', st, hT, hw1, hw2⟩
    have sep : ∀ {w : Rgn}, (∀ b, w b → own' b ∨ s.heap.get? b = none) → (∀ b, M b → ¬ w b) ∧ ¬ w D ∧ ∀ b, Y.U b → ¬ w b := fun {w} h =>
      ⟨fun b m x => (h b x).elim (hMo b m) (hV0 b (G.mv b m)), fun x => (h D x).elim hDo (hV0 D hD), fun b u x => (h b x).elim (hUo b u) (hV0 b (G.uv b u))⟩
    obtain ⟨sM, sD, sU⟩ := sep hw1
    show wpAny _ A ((compTurn (.ListComp elt gens scope pos) k it (.ref D) Y.env).onRaise (fun x => do noteFrame x Y.env; theTreesLotGoes x)) _ _ s'
    refine wpAny_noted ?_
    rw [compTurn_at hg]
    refine wpAny_bind (wpAny_standAt (wpAny_bind ?_))
    by_cases hlt : i < l.length
    · have hd : l[i]? = some l[i] := List.getElem?_eq_getElem hlt
      have hoi : outss[i]? = some (outss[i]'(by rw [hlen]; exact hlt)) := List.getElem?_eq_getElem _
      generalize outss[i]'(by rw [hlen]; exact hlt) = o at hoi
      obtain ⟨q'', hPA, hle, hPT⟩ := body i _ o hd hoi
      have hfl := flatten_take_succ outss i o hoi
      have hzo : (outss.take (i + 1)).flatten.length ≤ outss.flatten.length := by
        have := List.take_append_drop (i + 1) outss
        calc (outss.take (i + 1)).flatten.length ≤ (outss.take (i + 1)).flatten.length + (outss.drop (i + 1)).flatten.length := Nat.le_add_right _ _
          _ = outss.flatten.length := by rw [← List.length_append, ← List.flatten_append, this]
      refine itr.turn ht (V := fun b => V₀ b ∨ w b) hA4 (fun _ => rfl) hd G'.keep (fun b x => x.elim (fun x => (hVF b x).imp id (hw2 b)) .inr) G'.bnd hJ' (fun v s₁ w' hww hwf st₁ hval hJ₁ => ?_) (fun v s₁ x => wpAny_bind x)
      have hVe0 : (fun b => (V₀ b ∨ w b) ∨ w' b) = fun b => V₀ b ∨ w' b := funext fun b => propext ⟨fun x => x.elim (fun x => x.imp id (hww b)) .inr, fun x => x.imp .inl id⟩
      have hVe1 : (fun b => (V₀ b ∨ w b) ∨ (w' b ∧ s'.heap.get? b = none)) = fun b => V₀ b ∨ w' b := funext fun b => propext ⟨fun x => x.elim (fun x => x.imp id (hww b)) fun x => .inr x.1, fun x => x.elim (fun x => .inl (.inl x)) fun x => (hwf b x).elim (fun x => .inl (.inr x)) fun e => .inr ⟨x, e⟩⟩
      have hst' : ∀ b, s'.heap.get? b = none → own' b ∨ s.heap.get? b = none := fun b e => by
        have noV : ¬ V₀ b := fun x => by obtain ⟨ob, e'⟩ := G'.bnd b (.inl x); rw [e] at e'; cases e'
        rcases st.none_or e with (h | h | h) | h
        · exact absurd (G.mv b (hOM b h)) noV
        · exact absurd (h ▸ hD) noV
        · exact .inl h
        · exact .inr h
      have hw1' : ∀ b, w' b → own' b ∨ s.heap.get? b = none := fun b x => (hwf b x).elim (hw1 b) (hst' b)
      have hw2' : ∀ b, own' b → w' b := fun b x => hww b (hw2 b x)
      obtain ⟨sM', sD', sU'⟩ := sep hw1'
      have G₁ : EnvOk Y ⟨q, M, fun b => V₀ b ∨ w' b⟩ s₁ := hVe1 ▸ EnvOk.coverW (W := fun b => w' b ∧ s'.heap.get? b = none) (C := w) G' (fun b x => x.2) st₁.keep (fun b x => .inr x) sM fun b x => itr.here _ _ _ hJ₁ b (x.elim (·.1) (hww b))
      have hT₁ : Top Y.P (fun b => V₀ b ∨ w' b) s₁.heap (.list (l0 ++ (outss.take i).flatten)) D := Top.at (V := fun b => V₀ b ∨ w b) (fun b o n e => ⟨fun x => x.elim (fun x => n (.inl x)) fun x => (hwf b x).elim (fun x => n (.inr x)) fun e' => (by rw [e'] at e; cases e), st₁.keep b o (fun x => n (.inr x)) e⟩) hT fun o e => st₁.keep D o sD e
      rw [hVe0] at hval
      have hVb : ∀ b, V₀ b ∨ w' b → (V₀ b ∨ w' b) := fun b x => x
      generalize hVd : (fun b => V₀ b ∨ w' b) = V at G₁ hT₁ hval
      have hD' : V D := hVd ▸ .inl hD
      refine wpAny_bind (hPA M V A _ s₁ v _ hA.handled G₁ hval fun s₂ G₂ st₂ => ?_)
      have hT₂ : Top Y.P V s₂.heap (.list (l0 ++ (outss.take i).flatten)) D := hT₁.at (fun b o n e => ⟨n, st₂.keep b o (fun w => n (G₁.mv b (hOM b w))) e⟩) fun o e => st₂.keep D o (fun w => hDM (hOM D w)) e
      have hJ₂ : J w' (i + 1) s₂ := itr.frame _ _ _ _ _ (fun b x => ⟨hMF b (hOM b x), sM' b (hOM b x)⟩) hJ₁ st₂
      have stA : StepG (fun b => Y.O b ∨ b = D ∨ own' b) gn s s₂ := (st.transO st₁ fun b x => (hw1 b x).imp (fun x => .inr (.inr x)) id).trans ((st₂.g gn).mono fun _ w => .inl w)
      refine wpAny_bind (hPT.use hA G₂ fun b s₃ hb st₃ G₃ => ?_)
      have hT₃ : Top Y.P V s₃.heap (.list (l0 ++ (outss.take i).flatten)) D := hT₂.at (fun b o n e => ⟨n, st₃.kp b o e⟩) fun o e => st₃.kp D o e
      have hJ₃ : J w' (i + 1) s₃ := itr.frame _ _ _ _ None (fun b w => w.elim) hJ₂ st₃
      have stB : StepG (fun b => Y.O b ∨ b = D ∨ own' b) gn s s₃ := stA.trans ((st₃.g gn).mono fun _ w => w.elim)
      have again_ : ∀ {s₄ : Shared}, EnvOk Y ⟨q'', M, V⟩ s₄ → J w' (i + 1) s₄ → StepG (fun b => Y.O b ∨ b = D ∨ own' b) gn s s₄ → Top Y.P V s₄.heap (.list (l0 ++ (outss.take i).flatten ++ o)) D →
          wpAny Y.mo A (again (.compLoop (.ListComp elt gens scope pos) k it (.ref D) Y.env)) (fun fin s' => match fin with | .done f => R (.ok f) s' | .again c' => c' = (.compLoop (.ListComp elt gens scope pos) k it (.ref D) Y.env) ∧ ∃ m, m < l.length + 1 - i ∧ ∃ i w, m = l.length + 1 - i ∧ i ≤ l.length ∧ EnvOk Y ⟨q, M, fun b => V₀ b ∨ w b⟩ s' ∧ J w i s' ∧ StepG (fun b => Y.O b ∨ b = D ∨ own' b) gn s s' ∧ Top Y.P (fun b => V₀ b ∨ w b) s'.heap (.list (l0 ++ (outss.take i).flatten)) D ∧ (∀ b, w b → own' b ∨ s.heap.get? b = none) ∧ (∀ b, own' b → w b))
            (notedBy Y.mo A Y.env fun e s' => R (.error e) s') s₄ := fun {s₄} G₄ hJ₄ st₄ hT₄ =>
        wpAny_pure ⟨rfl, _, by omega, i + 1, w', rfl, hlt, hVd ▸ G₄.forget hle, hJ₄, st₄, by rw [hfl, ← List.append_assoc, hVd]; exact hT₄, hw1', hw2'⟩
      cases b with
      | false =>
        rw [if_neg Bool.false_ne_true]
        have := hb.1 rfl
        subst this
        exact again_ G₃ hJ₃ stB (by simpa using hT₃)
      | true =>
        rw [if_pos rfl]
        have hgi := hb.2 rfl
        first
          | (obtain ⟨t', iter', ifs', asy⟩ := g'
             have hk : gens[k + 1]? = some ⟨t', iter', ifs', asy⟩ := by
               have := congrArg (·[0]?) hrest
               simpa using this
             have hrest' : gens.drop (k + 1 + 1) = rest' := by
               have := congrArg (List.drop 1) hrest
               rw [List.drop_drop] at this
               simpa using this
             unfold GI at hgi
             obtain ⟨nm', ht', hasy, hfold, hoz, hiter⟩ := hgi
             simp only at hasy
             subst hasy
             rw [hk]
             dsimp only
             refine wpAny_bind (wpAny_mono (hiter M V A _ s₃ hA G₃) (fun x s₄ hx => ?_) fun _ _ e => e)
             refine wpAny_bind (wpAny_standAt ?_)
             rw [if_neg (by decide)]
             refine wpAny_bind (wpAny_of_eq (hfold x) ?_)
             refine wpAny_bind (wpAny_holding ?_)
             rw [if_neg (by decide)]
             refine wpAny_mono hx (fun it' s₅ h₅ => ?_) fun _ _ e => e
             obtain ⟨l', own'', gn', J', ⟨outss', hlen', hflat, hbody'⟩, itr', hJ0', st4, hown'', hgn'⟩ := h₅
             have hno : ∀ b, V b → ¬ own'' b := fun b w o => by
               obtain ⟨ob, e⟩ := G₃.bnd b w
               rw [hown'' b o] at e; cases e
             have G₅ : EnvOk Y ⟨q'', M, fun b => V b ∨ own'' b⟩ s₅ := G₃.cover hown'' (fun b o e => st4.keep b o (fun h => h) e) (itr'.here _ 0 s₅ hJ0')
             have hT₅ : Top Y.P (fun b => V b ∨ own'' b) s₅.heap (.list (l0 ++ (outss.take i).flatten)) D := Top.at (V := V) (fun b o n e => ⟨fun w => w.elim n (fun o' => by rw [hown'' b o'] at e; cases e), st4.keep b o (fun h => h) e⟩) hT₃ fun o e => st4.keep D o (fun h => h) e
             have hVe : (fun b => (V b ∨ own'' b) ∧ ¬ own'' b) = V := funext fun b => propext ⟨fun w => w.1.elim id (fun o => absurd o w.2), fun w => ⟨.inl w, hno b w⟩⟩
             have hsz : (l0 ++ (outss.take i).flatten).length + outss'.flatten.length ≤ 4096 := by
               rw [hfl, List.length_append, hflat] at hzo
               rw [List.length_append]
               omega
             refine wpAny_bind (wpAny_runOwn (h := none) ?_)
             have loop : ∀ R' : Result → Shared → Prop, (∀ s₆, EnvOk Y ⟨q'', M, V⟩ s₆ → J w' (i + 1) s₆ → StepG (fun b => Y.O b ∨ b = D ∨ own' b) gn s s₆ → Top Y.P V s₆.heap (.list (l0 ++ (outss.take i).flatten ++ o)) D → R' (.ok .next) s₆) →
                 codeAny Y.mo A (.compLoop (.ListComp elt gens scope pos) (k + 1) it' (.ref D) Y.env) R' s₅ := fun R' hR' =>
               ih (k + 1) hk hrest' itr' ht' hlen' hbody' hA G₅ (.inl hD') hDM (fun b w => w.elim (fun w => .inl (.inl w)) .inr) (fun b m => .inl (G₃.mv b m)) (.inl hD') (fun b w => .inr w)
                 (fun b u => hno b (G₃.uv b u)) (fun b m => hno b (G₃.mv b m)) (hno D hD') hJ0' hT₅ hsz (fun s₆ G₆ st6 hfin hT₆ => by
                   rw [hVe] at G₆ hT₆
                   have stC : Step (fun b => Y.O b ∨ b = D) s₃ s₆ := (((st4.mono (fun _ w => w.elim)).trans st6).close hgn' hfin).old fun b w => by
                     rcases w with w | w | w
                     · exact .inl (.inl w)
                     · exact .inl (.inr w)
                     · exact .inr (hown'' b w)
                   exact hR' s₆ G₆ (itr.frame _ _ _ _ _ (fun b x => x.elim (fun x => ⟨hMF b (hOM b x), sM' b (hOM b x)⟩) fun x => x ▸ ⟨hDF, sD'⟩) hJ₃ stC) (stB.trans ((stC.g gn).mono fun _ w => w.elim .inl fun w => .inr (.inl w))) (by rw [hflat]; exact hT₆))
             exact compStart_at hk (loop _ fun s₆ a b c d => again_ a b c d) (itr'.self _ _ _ _ _ 0 hJ0' (loop _ fun s₆ a b c d => again_ a b c d)))
          | (have hk : gens[k + 1]? = none := by
               rw [List.getElem?_eq_none_iff]
               exact List.drop_eq_nil_iff.mp hrest
             have hgi' : PE Y q'' elt fun d => o = [d] := hgi
             rw [hk]
             refine wpAny_bind (wpAny_bind (PE.use hgi' hA G₃ fun v s₄ d hdo hv st₄ G₄ => ?_))
             have hT₄ : Top Y.P V s₄.heap (.list (l0 ++ (outss.take i).flatten)) D := hT₃.at (fun b o n e => ⟨n, st₄.kp b o e⟩) fun o e => st₄.kp D o e
             obtain ⟨n, vs, ho, hvs⟩ := Top.list.mp hT₄
             have hvl := hvs.length
             have hlz : l0.length + (outss.take i).flatten.length ≤ 4096 := by rw [hfl, List.length_append] at hzo; omega
             refine wpAny_bind (seq_append ho (by simp at hvl hlz; omega) fun h' n' ho' hs' => wpAny_pure ?_)
             have keep : ∀ b o, ¬ V b → s₄.heap.get? b = some o → h'.get? b = some o := fun b o nb e => (hs'.2 b fun w => nb (w ▸ hD')).trans e
             have stD : Step (fun b => b = D) s₄ { s₄ with heap := h' } := Step.same (t := s₄.toks) hs' rfl
             refine again_ (G₄.stepW (fun b => b = D) stD.keep (fun b w => w ▸ hD') (fun b w => w ▸ hDM) (fun b w => ⟨_, w ▸ ho'⟩)) (itr.frame _ _ _ _ (fun b => b = D) (fun b w => w ▸ ⟨hDF, sD'⟩) (itr.frame _ _ _ _ None (fun b w => w.elim) hJ₃ st₄) stD)
               ((stB.trans ((st₄.g gn).mono fun _ w => w.elim)).trans ((stD.g gn).mono fun _ w => .inr (.inl w))) ⟨n', _, ho', ?_⟩
             rw [Array.toList_push, hdo]
             exact (Vals.snoc hvs hv).keeps keep)
    · have hi' : i = l.length := Nat.le_antisymm hi (Nat.not_lt.mp hlt)
      subst hi'
      refine itr.done A _ s' _ _ hA4 (fun _ => rfl) G'.keep hJ' fun s'' st' hgf => wpAny_pure ?_
      have hVe2 : (fun b => (V₀ b ∨ w b) ∧ ¬ w b) = fun b => V₀ b ∧ ¬ own' b := funext fun b => propext ⟨fun x => x.1.elim (fun y => ⟨y, fun z => x.2 (hw2 b z)⟩) fun y => absurd y x.2,
        fun x => ⟨.inl x.1, fun y => (hw1 b y).elim x.2 (hV0 b x.1)⟩⟩
      refine fin s'' (hVe2 ▸ EnvOk.leave (W := w) G' st'.keep (fun b x => .inr x) sM sU) (st.transO st' fun b x => (hw1 b x).imp (fun x => .inr (.inr x)) id) hgf ?_
      rw [List.take_of_length_le (Nat.le_of_eq hlen)] at hT
      rw [← hVe2]
      exact Top.at (V := fun b => V₀ b ∨ w b) (fun b o n e => ⟨fun x => n x.1, st'.keep b o (fun x => n (.inr x)) e⟩) hT fun o e => st'.keep D o sD e
end
end Mine
namespace Mine
open PySem PySem.W PySem.Calls PyProof.Rows

section
variable {Y : Act} {q : Vw} {M V : Rgn} {A : Around} {E : Value → Shared → Prop} {s : Shared}

/-- what a comprehension leaves behind -/
structure CompEnd (Y : Act) (V : Rgn) (s : Shared) (out : List PV) (D C : Addr) (s₆ : Shared) : Prop where
  d0 : s.heap.get? D = none
  c0 : s.heap.get? C = none
  ne : D ≠ C
  st : Step None s s₆
  ns : ∃ m, s₆.heap.Ns C m
  top : Top Y.P (fun b => V b ∨ b = C) s₆.heap (.list out) D

/-- what the clauses of the comprehension say -/
def CompOk (Y : Act) (q : Vw) (elt t : Expr) (ifs : List Expr) (rest : List Comprehension) (scope : Scope) (cl : List (Str × Addr)) (l : List PV) (outss : List (List PV)) : Prop :=
  outss.length = l.length ∧ outss.flatten.length ≤ 4096 ∧ ∀ (C : Addr) (i : Nat) d o, l[i]? = some d → outss[i]? = some o → ∃ q'', PA (Y.comp scope cl C) (inh q Y.env (compEnvC scope cl C Y.env)) t d q'' ∧ (inh q Y.env (compEnvC scope cl C Y.env)).le q'' ∧
    PTS (Y.comp scope cl C) q'' ifs fun b => (b = false → o = []) ∧ (b = true → GI (Y.comp scope cl C) elt rest q'' o)

structure CompShape (Y : Act) (scope : Scope) (cl : List (Str × Addr)) : Prop where
  clos : closureFor scope Y.env = pure cl
  sub : ∀ n c, cl.lookup n = some c → Y.env.cells.lookup n = some c
  cell : ∀ y ∈ scope.names, y.2 ≠ .cell
  kind : scope.kind = .function
  names : ∀ y ∈ scope.names, y.2 = .local → scope.names.lookup y.1 = some .local

theorem comp_core {elt t iter : Expr} {ifs : List Expr} {rest : List Comprehension} {scope : Scope} {cl : List (Str × Addr)} {pos : Pos} {nm : IK} {RR : Value → Addr → Result → Shared → Prop} (sh : CompShape Y scope cl) (ht : TOk nm t) (hA : AOk A Y.n) (G : EnvOk Y ⟨q, M, V⟩ s)
    {s₂ : Shared} {it : Value} {l : List PV} {own' : Rgn} {gn : Nat → Prop} {J : Rgn → Nat → Shared → Prop} {outss : List (List PV)} (hok : CompOk Y q elt t ifs rest scope cl l outss)
    (itr : ItrD Y.toWd A (fun b => V b ∨ s₂.heap.get? b = none) own' gn nm it l J) (hJ0 : J own' 0 s₂) (st₀ : StepG None gn s s₂) (hown : ∀ b, own' b → s.heap.get? b = none) (hgn : ∀ i, gn i → s.gens[i]? = none)
    (hRR : ∀ D C s₆, CompEnd Y V s outss.flatten D C s₆ → RR (.ref D) C (.ok .next) s₆) :
    wpAny Y.mo A (newList []) (fun acc s₃ => wpAny Y.mo A (newFunctionEnv scope Y.env.globals cl [] Y.env.qual none .none (some Y.env)) (fun cenv s₄ =>
      codeAny Y.mo A (.compStart (.ListComp elt (⟨t, iter, ifs, 0⟩ :: rest) scope pos) 0 it acc { cenv with scope := relabel scope Y.env }) (RR acc cenv.locals) s₄) E s₃) E s₂ := by
  obtain ⟨hlen, hz, body⟩ := hok
  refine wpAny_newObj_type (wpAny_newFunctionEnv sh.cell (by intro y hy; simp at hy) (fun h₁ hns₁ hsb₁ => ?_) sh.kind)
  dsimp only at hns₁ hsb₁ ⊢
  generalize hH2 : s₂.heap.push { cls := .type "list", dict := none, data := .seq ([] : List Value).toArray } = H2 at hns₁ hsb₁ ⊢
  have hC : H2.objs.size = s₂.heap.objs.size + 1 := by rw [← hH2, Heap.size_push]
  generalize hCC : H2.objs.size = C at hns₁ hsb₁ hC ⊢
  generalize hDD : s₂.heap.objs.size = D at hC ⊢
  have hDC : D ≠ C := by rw [hC]; exact Nat.ne_of_lt (Nat.lt_succ_self _)
  have hD2 : s₂.heap.get? D = none := by rw [← hDD]; exact get?_size _
  have hC2 : s₂.heap.get? C = none := get?_none_of_le (by rw [hC, hDD]; exact Nat.le_succ _)
  have nn : ∀ b, s₂.heap.get? b = none → s.heap.get? b = none := fun b => none_of_keep fun o => st₀.keep b o fun h => h
  have old : ∀ b o, s₂.heap.get? b = some o → h₁.get? b = some o := fun b o e => hsb₁.extBut b o (fun w => by rw [w, hC2] at e; cases e) (Heap.get?_push_of_some _ (hH2 ▸ Heap.get?_push_of_some _ e))
  have hacc : h₁.get? D = some (seqO tList #[] 0) := hsb₁.extBut _ _ hDC (Heap.get?_push_of_some _ (by rw [← hH2, ← hDD]; exact Heap.get?_push_size _ rfl))
  obtain ⟨oC, esC, epC, hoC, hnC⟩ := id hns₁
  generalize hs5 : ({ s₂ with heap := h₁, toks := s₂.toks + ([] : List (Str × Value)).length } : Shared) = s₅ at ⊢
  have hp5 : s₅.heap = h₁ := by rw [← hs5]
  have st25 : Step None s₂ s₅ := by rw [← hs5]; exact Step.heap fun b o _ e => old b o e
  have hnoV : ∀ b, V b → s.heap.get? b ≠ none := fun b w e => by obtain ⟨o, e'⟩ := G.bnd b w; rw [e] at e'; cases e'
  have ownD : ¬ own' D := fun w => by obtain ⟨o, e⟩ := itr.here own' 0 s₂ hJ0 D w; rw [hD2] at e; cases e
  have ownC : ¬ own' C := fun w => by obtain ⟨o, e⟩ := itr.here own' 0 s₂ hJ0 C w; rw [hC2] at e; cases e
  have st05 : ∀ b o, s.heap.get? b = some o → s₅.heap.get? b = some o := fun b o e => st25.kp b o (st₀.keep b o (fun h => h) e)
  have G₅ : EnvOk Y ⟨q, M, fun b => V b ∨ (own' b ∨ b = C ∨ b = D)⟩ s₅ := G.cover (fun b w => by
      rcases w with w | w | w
      · exact hown b w
      · exact w ▸ nn C hC2
      · exact w ▸ nn D hD2) st05 (fun b w => by
      rcases w with w | w | w
      · obtain ⟨o, e⟩ := itr.here own' 0 s₂ hJ0 b w; exact ⟨o, st25.kp b o e⟩
      · exact ⟨oC, w ▸ hp5 ▸ hoC⟩
      · exact ⟨_, w ▸ hp5 ▸ hacc⟩)
  have hns5 : ∃ m, s₅.heap.Ns C m := ⟨_, oC, esC, epC, by rw [hp5]; exact hoC, hnC⟩
  have hMC : ¬ M C := fun m => hnoV C (G.mv C m) (nn C hC2)
  have G₆ := G₅.enter sh.kind sh.sub (.inr (.inr (.inl rfl))) hMC (fun u => hnoV C (G.uv C u) (nn C hC2)) hns5
  have hJ5 : J own' 0 s₅ := itr.frame own' 0 s₂ s₅ None (fun _ w => w.elim) hJ0 st25
  have hT5 : Top Y.P (fun b => V b ∨ (own' b ∨ b = C ∨ b = D)) s₅.heap (.list []) D := ⟨0, #[], hp5 ▸ hacc, by simp⟩
  have loop : codeAny Y.mo A (.compLoop (.ListComp elt (⟨t, iter, ifs, 0⟩ :: rest) scope pos) 0 it (.ref D) (compEnvC scope cl C Y.env)) (RR (.ref D) C) s₅ := by
    refine comp_loop (Y := Y.comp scope cl C) rest 0 rfl rfl itr ht hlen (body C) hA G₆ (.inr (.inr (.inr rfl))) (fun w => w.elim (fun m => hnoV D (G.mv D m) (nn D hD2)) hDC) (fun b w => ?_) (fun b w => ?_) (.inr hD2) (fun b w => .inr (.inl w))
      (fun b u w => hnoV b (G.uv b u) (hown b w)) (fun b m w => m.elim (fun m => hnoV b (G.mv b m) (hown b w)) fun m => ownC (m ▸ w)) ownD hJ5 hT5 (by simpa using hz) fun s₆ G₆ st6 hfin hT => hRR D C s₆ ⟨nn D hD2, nn C hC2, hDC, ?_, G₆.ns, ?_⟩
    · rcases w with w | w | w | w
      · exact .inl (.inl w)
      · exact .inr w
      · exact .inl (.inr (w ▸ hC2))
      · exact .inl (.inr (w ▸ hD2))
    · rcases w with w | w
      · exact .inl (G.mv b w)
      · exact .inr (w ▸ hC2)
    · refine ((((st₀.mono (fun _ w => w.elim)).trans ((st25.g gn).mono fun _ w => w.elim)).trans st6).close hgn hfin).old fun b w => .inr ?_
      rcases w with w | w | w
      · have w' : b = C := w; exact w' ▸ nn C hC2
      · exact w ▸ nn D hD2
      · exact hown b w
    · refine Top.at (fun b o n e => ⟨fun w => n ?_, e⟩) hT fun o e => e
      rcases w with w | w
      · exact ⟨.inl w, fun o => hnoV b w (hown b o)⟩
      · exact ⟨.inr (.inr (.inl w)), w ▸ ownC⟩
  exact compStart_at rfl loop (itr.self _ _ _ _ _ 0 hJ5 loop)

theorem PE.listcomp {elt t iter : Expr} {ifs : List Expr} {rest : List Comprehension} {scope : Scope} {cl : List (Str × Addr)} {pos : Pos} {nm : IK} {P : PV → Prop} (sh : CompShape Y scope cl) (ht : TOk nm t)
    (h : IterE Y q nm iter fun l => ∃ outss, CompOk Y q elt t ifs rest scope cl l outss ∧ P (.list outss.flatten)) (hs : ∀ x, foldedSetIterable iter Y.env x = pure x) :
    PE Y q (.ListComp elt (⟨t, iter, ifs, 0⟩ :: rest) scope pos) P := fun M V A E s hA G => by
  rw [eval_ListComp]
  refine wpAny_comprehension_free (use := none) rfl hs sh.clos sh.kind sh.names (wpAny_mono (h M V A E s hA G) (fun xv s₁ h₁ => wpAny_mono h₁ (fun it s₂ h₂ => ?_) fun _ _ e => e) fun _ _ e => e)
  obtain ⟨l, own', gn, J, ⟨outss, hok, hP⟩, itr, hJ0, st₀, hown, hgn⟩ := h₂
  refine comp_core (RR := fun acc C => compPost Y.mo A E none _ acc C) sh ht hA G hok itr hJ0 st₀ hown hgn fun D C s₆ ce => ?_
  obtain ⟨m, hm⟩ := ce.ns
  refine ⟨m, hm, fun h' hs' => ?_⟩
  obtain ⟨n, vs, ho, hv⟩ := ce.top
  have stC : Step (fun b => b = C) s₆ { s₆ with heap := h' } := Step.same (t := s₆.toks) hs' rfl
  have hnoV : ∀ b, V b → s.heap.get? b ≠ none := fun b w e => by obtain ⟨o, e'⟩ := G.bnd b w; rw [e] at e'; cases e'
  refine ⟨((ce.st.all _).trans stC).old fun b w => .inr (w ▸ ce.c0), _, hP, val_seq.mpr ⟨D, n, vs, rfl, fun w => hnoV D w ce.d0, stC.keep D _ ce.ne ho, (hv.step stC fun b w => .inr w).less fun b w => .inl w⟩⟩

/-- x = [...], where the list is handed on before the loop's names go -/
theorem PS1.assignComp {x : Str} {xp : Pos} {elt t iter : Expr} {ifs : List Expr} {rest : List Comprehension} {scope : Scope} {cl : List (Str × Addr)} {cpos pos : Pos} {nm : IK} {Φ : AF → Vw → Prop} (hx : Storable Y x) (sh : CompShape Y scope cl) (ht : TOk nm t)
    (h : IterE Y q nm iter fun l => ∃ outss, CompOk Y q elt t ifs rest scope cl l outss ∧ Φ .next (q.set x (.fz (.list outss.flatten)))) (hs : ∀ x, foldedSetIterable iter Y.env x = pure x)
    (hsw : swapsWith (.ListComp elt (⟨t, iter, ifs, 0⟩ :: rest) scope cpos) (some (.Name x xp)) pos.line Y.env = pure true) :
    PS1 Y q (.Assign [.Name x xp] (.ListComp elt (⟨t, iter, ifs, 0⟩ :: rest) scope cpos) pos) Φ := fun M V A E s hA G => by
  rw [exec_Assign_Name_used _ _ _ _ hsw]
  refine wpAny_bind (wpAny_standAt (wpAny_bind ?_))
  show wpAny Y.mo A (comprehension (.ListComp elt (⟨t, iter, ifs, 0⟩ :: rest) scope cpos) scope Y.env (firstIterPos (⟨t, iter, ifs, 0⟩ :: rest) cpos) (newList []) (firstAsync (⟨t, iter, ifs, 0⟩ :: rest)) (firstIter (⟨t, iter, ifs, 0⟩ :: rest) Y.env) (some (PySem.assign (.Name x xp) Y.env)) >>= fun _ => pure ()) _ E s
  refine wpAny_bind ?_
  refine wpAny_comprehension_free (use := some (PySem.assign (.Name x xp) Y.env)) rfl hs sh.clos sh.kind sh.names (wpAny_mono (h M V A E s hA G) (fun xv s₁ h₁ => wpAny_mono h₁ (fun it s₂ h₂ => ?_) fun _ _ e => e) fun _ _ e => e)
  obtain ⟨l, own', gn, J, ⟨outss, hok, hP⟩, itr, hJ0, st₀, hown, hgn⟩ := h₂
  refine comp_core (RR := fun acc C => compPost Y.mo A E (some (PySem.assign (.Name x xp) Y.env)) _ acc C) sh ht hA G hok itr hJ0 st₀ hown hgn fun D C s₆ ce => ?_
  show wpAny Y.mo A (PySem.assign (.Name x xp) Y.env (.ref D)) _ E s₆
  have hnoV : ∀ b, V b → s.heap.get? b ≠ none := fun b w e => by obtain ⟨o, e'⟩ := G.bnd b w; rw [e] at e'; cases e'
  obtain ⟨n, vs, ho, hv⟩ := ce.top
  obtain ⟨m, hm⟩ := ce.ns
  have G₆ : EnvOk Y ⟨q, M, fun b => V b ∨ b = C⟩ s₆ := G.cover (fun b w => w ▸ ce.c0) ce.st.kp (fun b w => by obtain ⟨o, es, ep, e, _⟩ := hm; exact ⟨o, w ▸ e⟩)
  have hMC : ∀ b, M b → ¬ b = C := fun b m w => hnoV b (G.mv b m) (w ▸ ce.c0)
  refine wpAny_assign_Name (store_any (sl := .fz (.list outss.flatten)) G₆ hx (val_seq.mpr ⟨D, n, vs, rfl, fun w => w.elim (fun w => hnoV D w ce.d0) ce.ne, ho, hv⟩) trivial fun s₇ G₇ st₇ => ?_)
  have hOC : ¬ Y.O C := fun w => hMC C (G.om C (G.oo C w)) rfl
  refine ⟨m, ?_, fun h' hs' => ?_⟩
  · obtain ⟨o, es, ep, e, r⟩ := hm
    exact ⟨o, es, ep, st₇.keep C o hOC e, r⟩
  have stC : Step (fun b => b = C) s₇ { s₇ with heap := h' } := Step.same (t := s₇.toks) hs' rfl
  have G₈ : EnvOk Y ⟨q.set x (.fz (.list outss.flatten)), M, fun b => (V b ∨ b = C) ∧ ¬ b = C⟩ { s₇ with heap := h' } := EnvOk.leave (q := q.set x (.fz (.list outss.flatten))) (M := M) (V := fun b => V b ∨ b = C) G₇ (s' := { s₇ with heap := h' }) (W := fun b => b = C) stC.keep (fun b w => .inr w) hMC (fun b u w => hnoV b (G.uv b u) (w ▸ ce.c0))
  have hVe : (fun b => (V b ∨ b = C) ∧ ¬ b = C) = V := funext fun b => propext ⟨fun w => w.1.elim id (fun o => absurd o w.2), fun w => ⟨.inl w, fun e => hnoV b w (e ▸ ce.c0)⟩⟩
  rw [hVe] at G₈
  refine wpAny_pure (wpAny_pure ⟨.next, ⟨q.set x (.fz (.list outss.flatten)), M, V⟩, hP, rfl, G₈, ?_, fun b w => .inl w, fun b w => .inl w, fun b w _ => w⟩)
  exact (((ce.st.all _).trans st₇).mono fun b w => G.om b (G.oo b w)).trans' stC fun b w => .inr (w ▸ ce.c0)
end
end Mine
namespace Mine
open PySem PySem.W PySem.Calls PyProof.Rows

/-- a frame at its start -/
def q0 (ρs : Str → Option PV) : Vw := ⟨fun _ => False, fun x => (ρs x).map .fz, fun _ _ => True⟩
@[reducible] def Wd.act (X : Wd) (env : Env) (V : Rgn) (n : Nat) (hn : 4 ≤ n) : Act := { X with env := env, O := own env, U := V, n := n, hn := hn }

theorem enter_env {X : Wd} {V : Rgn} {s s₁ : Shared} {env : Env} {ρs : Str → Option PV} {n : Nat} (hn : 4 ≤ n) (H : Hp X V s) (kind : env.scope.kind = .function) (glob : env.globals = mainGlobals) (blt : env.builtins = builtinsNs)
    (hk : ∀ b o, s.heap.get? b = some o → s₁.heap.get? b = some o) (hnew : ∀ b, own env b → s.heap.get? b = none) (ns : ∃ m, s₁.heap.Ns env.locals m) (cell : ∀ n c, env.cells.lookup n = some c → c ≠ env.locals ∧ ∃ v, s₁.heap.IsCell c v)
    (apart : ∀ n n' c, env.cells.lookup n = some c → env.cells.lookup n' = some c → n = n') (rd : ∀ x d, ρs x = some d → ∃ v, Reads1 env s₁.heap x v ∧ Val X.P V s.heap d v) :
    EnvOk (X.act env V n hn) ⟨q0 ρs, own env, fun b => V b ∨ own env b⟩ s₁ where
  kind := kind
  glob := glob
  blt := blt
  keep := fun b o e => hk b o (H.keep b o e)
  bnd := fun x hx => by
    rcases hx with hx | hx
    · obtain ⟨o, e⟩ := H.bnd x hx; exact ⟨o, hk x o e⟩
    · rcases hx with rfl | ⟨n, e⟩
      · obtain ⟨m, o, _, _, e, _⟩ := ns; exact ⟨o, e⟩
      · obtain ⟨_, v, o, e, _⟩ := cell n x e; exact ⟨o, e⟩
  mv := fun x h => .inr h
  uv := fun x h => .inl h
  om := fun x h => h
  ou := fun x h u => by obtain ⟨o, e⟩ := H.bnd x u; rw [hnew x h] at e; cases e
  oo := fun x h => h
  lo := .inl rfl
  low := fun x h => h.elim (H.low x) fun h => none_of_keep (fun o => H.keep x o) (hnew x h)
  ns := ns
  cell := cell
  apart := apart
  slots := fun x sl h => by
    unfold q0 at h
    dsimp only at h
    cases e : ρs x with
    | none => rw [e] at h; cases h
    | some d =>
      rw [e] at h
      cases h
      obtain ⟨v, r, hv⟩ := rd x d e
      exact ⟨v, r, (Val.grow hv fun b w => w.imp id (hnew b)).keeps fun b o _ e => hk b o e⟩
  dist := fun x y d e v hn hx hy => by
    unfold q0 at hx
    dsimp only at hx
    cases h : ρs x <;> rw [h] at hx <;> cases hx
  sm := fun x h => h.elim
  os := fun x h => h.elim
  inv := trivial
  stab := fun _ _ _ _ _ _ _ => trivial

theorem bindL_skip {k : Str → Option NameKind} {x : Str} : ∀ {binds : List (Str × Value)} {m : Str → Option Value}, x ∉ binds.map (·.1) → bindL k binds m x = m x
  | [], _, _ => rfl
  | (n, v) :: r, m, h => by
    simp only [List.map_cons, List.mem_cons, not_or] at h
    unfold bindL
    rw [bindL_skip h.2]
    split
    · exact if_neg h.1
    · rfl
theorem bindC_skip {k : Str → Option NameKind} {x : Str} : ∀ {binds : List (Str × Value)} {m : Str → Option Value}, x ∉ binds.map (·.1) → bindC k binds m x = m x
  | [], _, _ => rfl
  | (n, v) :: r, m, h => by
    simp only [List.map_cons, List.mem_cons, not_or] at h
    unfold bindC
    rw [bindC_skip h.2]
    split
    · rfl
    · exact if_neg h.1
theorem bindL_get {k : Str → Option NameKind} {x : Str} {v : Value} (hk : k x = some .local) : ∀ {binds : List (Str × Value)} {m : Str → Option Value}, (binds.map (·.1)).Nodup → (x, v) ∈ binds → bindL k binds m x = some v
  | [], _, _, h => (nomatch h)
  | (n, u) :: r, m, hn, h => by
    rw [List.map_cons, List.nodup_cons] at hn
    unfold bindL
    rcases List.mem_cons.mp h with h | h
    · cases h
      rw [bindL_skip hn.1, if_pos hk, if_pos rfl]
    · exact bindL_get hk hn.2 h
theorem bindC_get {k : Str → Option NameKind} {x : Str} {v : Value} (hk : k x ≠ some .local) : ∀ {binds : List (Str × Value)} {m : Str → Option Value}, (binds.map (·.1)).Nodup → (x, v) ∈ binds → bindC k binds m x = some v
  | [], _, _, h => (nomatch h)
  | (n, u) :: r, m, hn, h => by
    rw [List.map_cons, List.nodup_cons] at hn
    unfold bindC
    rcases List.mem_cons.mp h with h | h
    · cases h
      rw [bindC_skip hn.1, if_neg hk, if_pos rfl]
    · exact bindC_get hk hn.2 h

def look (ps : List (Str × PV)) : Str → Option PV := fun x => ps.lookup x
theorem look_zip {P : Params} {V : Rgn} {h : Heap} : ∀ {names : List Str} {ds : List PV} {vs : List Value} {x : Str} {d : PV}, Vals P V h ds vs → look (names.zip ds) x = some d → ∃ v, (x, v) ∈ names.zip vs ∧ Val P V h d v
  | [], ds, vs, x, d, _, e => by simp [look] at e
  | n :: names, [], vs, x, d, _, e => by simp [look] at e
  | n :: names, d₀ :: ds, vs, x, d, hv, e => by
    obtain ⟨v, r, rfl, h1, h2⟩ := vals_cons.mp hv
    unfold look at e
    rw [List.zip_cons_cons, List.lookup_cons] at e
    cases hx : x == n with
    | true =>
      rw [hx] at e
      cases e
      exact ⟨v, by rw [eq_of_beq hx]; simp, h1⟩
    | false =>
      rw [hx] at e
      obtain ⟨u, hu, hd⟩ := look_zip (names := names) h2 e
      exact ⟨u, by rw [List.zip_cons_cons]; exact List.mem_cons_of_mem _ hu, hd⟩

theorem mem_of_lookup {α : Type} {n : Str} {c : α} : ∀ {l : List (Str × α)}, l.lookup n = some c → (n, c) ∈ l
  | [], h => by simp at h
  | (m, d) :: r, h => by
    rw [List.lookup_cons] at h
    cases hx : n == m with
    | true => rw [hx] at h; cases h; rw [eq_of_beq hx]; simp
    | false => rw [hx] at h; exact List.mem_cons_of_mem _ (mem_of_lookup h)
theorem pair_apart {cs : List (Str × Addr)} (hp : cs.Pairwise fun x y => x.2 ≠ y.2) {n n' : Str} {c : Addr} (h1 : (n, c) ∈ cs) (h2 : (n', c) ∈ cs) : n = n' := by
  induction hp with
  | nil => cases h1
  | cons ha _ ih =>
    rcases List.mem_cons.mp h1 with h1 | h1 <;> rcases List.mem_cons.mp h2 with h2 | h2
    · rw [← h1] at h2; exact (congrArg Prod.fst h2).symm
    · exact absurd rfl (ha _ h2 |> fun h => by rw [← h1] at h; exact h)
    · exact absurd rfl (ha _ h1 |> fun h => by rw [← h2] at h; exact h)
    · exact ih h1 h2

/-- what a body gives its caller -/
def Gives (P : PV → Prop) : AF → Vw → Prop
  | .ret d, _ => P d
  | .next, _ => P .none
  | _, _ => False

def retv : Flow → Value
  | .ret v => v
  | _ => .none
theorem body_out {Y : Act} {P : PV → Prop} {V : Rgn} {s s₁ s' : Shared} {q : Vw} {W : Rgn} {f : Flow} (hW : ∀ b, W b → s.heap.get? b = none) (st : Step None s s₁) (hU : Y.U = V) (p : Post Y (Gives P) ⟨q, W, fun b => V b ∨ W b⟩ s₁ f s') :
    Res Y.toWd V P s (retv f) s' := by
  obtain ⟨af, a', hΦ, hf, G, g⟩ := p
  have stp : Step None s s' := ((st.all _).trans g.st).old fun b w => .inr (hW b w)
  cases af with
  | next => cases hf; exact ⟨stp, .none, hΦ, val_none.mpr rfl⟩
  | ret d =>
    obtain ⟨v, rfl, hv⟩ := hf
    exact ⟨stp, d, hΦ, hv.less fun b w => G.uv b (hU ▸ w)⟩
  | brk => exact hΦ.elim
  | cont => exact hΦ.elim

/-- a function's contract, from its body's triple -/
theorem fc_enter {X : Wd} {n : Nat} (hn : 4 ≤ n) {a : Addr} {cls : Value} {dd : Option Addr} {sl : Array (Option Value)} {fd : FuncData} {ds : List PV} {P : PV → Prop} {names : List Str} {body : List Stmt}
    (hl : X.K.lookup a = some ⟨cls, dd, .func fd, sl⟩) (hbody : fd.body = .stmts body) (hlen : names.length = ds.length) (hbind : ∀ vals : List Value, vals.length = ds.length → bindArgs fd ⟨vals, []⟩ = pure (names.zip vals)) (hclo : fd.closure = [])
    (hnd : names.Nodup) (hkind : ∀ L x, x ∈ names → fd.scope.names.lookup x = some .local ∨ (fd.scope.names.lookup x = some .cell ∧ ((cellsFrom (L + 1) fd.scope.names []).lookup x).isSome = true))
    (hcd : codeIn X.K fd.code fd.qualname = true) (hg : fd.globals = mainGlobals) (hb : fd.builtins = builtinsNs)
    (hco : fd.scope.isCoroutine = false) (hgen : fd.scope.isGenerator = false) (hk : fd.scope.kind = .function)
    (h : ∀ L V env, env = callEnvC fd L a → PS (X.act env V n hn) (q0 (look (names.zip ds))) body (Gives P)) : FC X (n + 1) (.ref a) ds P := fun A E s V vs hA H hv => by
  have hK := H.inK
  have hvl := hv.length
  refine wpAny_call (codeAny_call_cells hA.room (hK _ _ hl) rfl H.nolimit (codeRec_of hK hcd) hbody (hbind vs hvl.symm) hclo (fun x hx => ?_) (fun s₁ hc => ?_) hco hgen hk)
  · have : x.1 ∈ names := (List.of_mem_zip hx).1
    exact hkind _ _ this
  have hns := hc.toInCall.ns
  have hfr := hc.toInCall.fresh
  have hnew : ∀ b, own (callEnvC fd s.heap.objs.size a) b → s.heap.get? b = none := fun b w => by
    rcases w with rfl | ⟨n, e⟩
    · exact get?_none_of_le hfr
    · exact get?_none_of_le (Nat.le_of_lt (Nat.lt_of_le_of_lt hfr (hc.above n b (mem_of_lookup e))))
  have st : Step None s s₁ := by
    obtain ⟨h', tk, e⟩ := hc.toInCall.same
    have k := hc.toInCall.keep
    rw [e] at k ⊢
    exact Step.heap fun b o _ q => k b o q
  have zn : ((names.zip vs).map (·.1)) = names := by rw [List.map_fst_zip]; rw [← hvl, hlen]; exact Nat.le_refl _
  have G : EnvOk (X.act (callEnvC fd s.heap.objs.size a) V n hn) ⟨q0 (look (names.zip ds)), own (callEnvC fd s.heap.objs.size a), fun b => V b ∨ own (callEnvC fd s.heap.objs.size a) b⟩ s₁ := by
    refine enter_env hn H hk hg hb hc.toInCall.keep hnew ⟨_, hns⟩ (fun n c e => ⟨Nat.ne_of_gt (hc.above n c (mem_of_lookup e)), _, hc.cell n c e⟩) (fun n n' c e e' => pair_apart hc.apart (mem_of_lookup e) (mem_of_lookup e')) fun x d e => ?_
    obtain ⟨v, hm, hd⟩ := look_zip hv e
    refine ⟨v, ?_, hd⟩
    have hxn : x ∈ names := (List.of_mem_zip hm).1
    rcases hkind s.heap.objs.size x hxn with hl | ⟨hl, hs⟩
    · exact .inl ⟨hl, _, hns, bindL_get (k := (callEnvC fd s.heap.objs.size a).kindOf) hl (by rw [zn]; exact hnd) hm⟩
    · have hl' : (callEnvC fd s.heap.objs.size a).kindOf x = some .cell := hl
      obtain ⟨c, hc'⟩ := Option.isSome_iff_exists.mp hs
      have hcell := hc.cell x c hc'
      rw [bindC_get (k := (callEnvC fd s.heap.objs.size a).kindOf) (by rw [hl']; intro q; cases q) (by rw [zn]; exact hnd) hm] at hcell
      exact .inr ⟨.inl hl', c, hc', hcell⟩
  refine wpAny_mono (h s.heap.objs.size V _ rfl _ _ _ _ s₁ (hA.deeper _) G) (fun f s' p => ?_) fun _ _ x => x
  have r := body_out hnew st rfl p
  cases f <;> exact r
end Mine
namespace Mine
open PySem PySem.W PySem.Calls PyProof.Rows

section
variable {Y : Act} {q : Vw} {M V W : Rgn} {s s' : Shared} {A : Around} {E : Value → Shared → Prop}

/-- a container that nobody knows yet -/
structure Fresh1 (Y : Act) (q : Vw) (M V : Rgn) (s : Shared) (r : Addr) (d : PV) : Prop where
  m : M r
  no : ¬ own Y.env r
  nu : ¬ Y.U r
  ns : ¬ q.S r
  top : Top Y.P V s.heap d r
  al : ∀ y d', q.ρ y = some (.mt d') → ¬ Reads1 Y.env s.heap y (.ref r)

theorem EnvOk.moreM (G : EnvOk Y ⟨q, M, V⟩ s) (h : ∀ b, W b → V b) : EnvOk Y ⟨q, fun b => M b ∨ W b, V⟩ s :=
  { kind := G.kind, glob := G.glob, blt := G.blt, keep := G.keep, bnd := G.bnd, mv := fun b w => w.elim (G.mv b) (h b), uv := G.uv, om := fun b w => .inl (G.om b w), ou := G.ou, oo := G.oo, lo := G.lo, low := G.low, ns := G.ns, cell := G.cell, apart := G.apart,
    slots := fun x sl e => by
      obtain ⟨v, r, hv⟩ := G.slots x sl e
      refine ⟨v, r, ?_⟩
      cases sl with
      | fz d => exact hv
      | mt d => obtain ⟨r, e, a1, a2, a3, a4, t⟩ := hv; exact ⟨r, e, .inl a1, a2, a3, a4, t⟩
    dist := G.dist, sm := fun b w => .inl (G.sm b w), os := G.os, inv := G.inv, stab := G.stab }

theorem Reads1.back {env : Env} {h h' : Heap} {x : Str} {v u : Value} (r : Reads1 env h' x v) (hk : ∀ b o, own env b → h.get? b = some o → h'.get? b = some o) (r0 : Reads1 env h x u) : Reads1 env h x v := by
  have := (r0.keeps hk).uniq r
  exact this ▸ r0

theorem Fresh1.stepN {r : Addr} {d : PV} (F : Fresh1 Y q M V s r d) (G : EnvOk Y ⟨q, M, V⟩ s) (st : Step None s s') : Fresh1 Y q M V s' r d :=
  ⟨F.m, F.no, F.nu, F.ns, F.top.at (fun b o n e => ⟨n, st.kp b o e⟩) fun o e => st.kp r o e, fun y d' e w => by
    obtain ⟨v, r0, _⟩ := G.slots y _ e
    exact F.al y d' e (w.back (fun b o _ q => st.kp b o q) r0)⟩

/-- a new container is made -/
theorem fresh_push {o : Obj} {tk : Nat} {d : PV} (G : EnvOk Y ⟨q, M, V⟩ s) (ht : ∀ V h r, h.get? r = some o → Top Y.P V h d r) (hf : o.isFreed = false) :
    let r := s.heap.objs.size
    let s' : Shared := { s with heap := s.heap.push o, toks := tk }
    EnvOk Y ⟨q, fun b => M b ∨ b = r, fun b => V b ∨ b = r⟩ s' ∧ Fresh1 Y q (fun b => M b ∨ b = r) (fun b => V b ∨ b = r) s' r d ∧ (∀ r' d', Fresh1 Y q M V s r' d' → Fresh1 Y q (fun b => M b ∨ b = r) (fun b => V b ∨ b = r) s' r' d' ∧ r' ≠ r) := by
  intro r s'
  have hr : s.heap.get? r = none := get?_size _
  have hr' : s'.heap.get? r = some o := Heap.get?_push_size _ hf
  have st : ∀ b ob, s.heap.get? b = some ob → s'.heap.get? b = some ob := fun b ob e => Heap.get?_push_of_some _ e
  have hnV : ∀ b, V b → b ≠ r := fun b w e => by obtain ⟨ob, e'⟩ := G.bnd b w; rw [e, hr] at e'; cases e'
  have G₁ : EnvOk Y ⟨q, M, fun b => V b ∨ b = r⟩ s' := G.cover (fun b w => w ▸ hr) st (fun b w => ⟨o, w ▸ hr'⟩)
  refine ⟨EnvOk.moreM (W := fun b => b = r) G₁ fun b w => .inr w, ⟨.inr rfl, fun w => hnV r (G.mv r (G.om r w)) rfl, fun w => hnV r (G.uv r w) rfl, fun w => hnV r (G.mv r (G.sm r w)) rfl, ht _ _ _ hr', fun y d' e w => ?_⟩, fun r' d' F => ⟨⟨.inl F.m, F.no, F.nu, F.ns, Top.at (V := V) (fun b ob n e => ⟨fun w => w.elim n fun w => ?_, st b ob e⟩) F.top fun ob e => st r' ob e, fun y d₂ e w => ?_⟩, fun e => hnV r' (G.mv r' F.m) e⟩⟩
  · obtain ⟨v, r0, r₂, e₂, hM, _⟩ := G.slots y _ e
    have := (r0.keeps fun b ob _ q => st b ob q : Reads1 Y.env s'.heap y v).uniq w
    rw [e₂] at this
    cases this
    exact hnV _ (G.mv _ hM) rfl
  · obtain ⟨v, r0, _⟩ := G.slots y _ e
    exact F.al y d₂ e (w.back (fun b ob _ q => st b ob q) r0)
  · rw [w, hr] at e; cases e

theorem store_mt {x : Str} {r : Addr} {d : PV} {Q : Unit → Shared → Prop} (G : EnvOk Y ⟨q, M, V⟩ s) (hx : Storable Y x) (F : Fresh1 Y q M V s r d)
    (k : ∀ s', EnvOk Y ⟨q.set x (.mt d), M, V⟩ s' → Step Y.O s s' → (∀ r' d', r' ≠ r → Fresh1 Y q M V s r' d' → Fresh1 Y (q.set x (.mt d)) M V s' r' d') → Q () s') : wpAny Y.mo A (storeName Y.env x (.ref r)) Q E s := by
  refine store_full (sl := .mt d) G hx ⟨r, rfl, F.m, F.no, F.nu, F.ns, F.top⟩ (fun y d' _ e => F.al y d' e) fun s' G' st R1 R2 => k s' G' st fun r' d' hne F' => ⟨F'.m, F'.no, F'.nu, F'.ns, ?_, fun y d₂ e w => ?_⟩
  · exact F'.top.at (fun b o n e => ⟨n, st.keep b o (fun w => n (G.mv b (G.om b (G.oo b w)))) e⟩) fun o e => st.keep r' o (fun w => F'.no (G.oo r' w)) e
  · rw [Vw.set_ρ] at e
    split at e
    · rename_i w'
      subst w'
      have := R1.uniq w
      cases this
      exact hne rfl
    · rename_i w'
      obtain ⟨v, r0, _⟩ := G.slots y _ e
      have := (R2 y v w' r0).uniq w
      subst this
      exact F'.al y d₂ e r0

/-- expressions that make a new container -/
inductive NewE : Expr → PV → Prop
  | list (pos : Pos) : NewE (.List [] pos) (.list [])
  | dict (pos : Pos) : NewE (.Dict [] [] pos) (.dict [] [])

theorem NewE.use {e : Expr} {d : PV} (h : NewE e d) {Q : Value → Shared → Prop} (G : EnvOk Y ⟨q, M, V⟩ s)
    (k : ∀ s', EnvOk Y ⟨q, fun b => M b ∨ b = s.heap.objs.size, fun b => V b ∨ b = s.heap.objs.size⟩ s' → Step None s s' → Fresh1 Y q (fun b => M b ∨ b = s.heap.objs.size) (fun b => V b ∨ b = s.heap.objs.size) s' s.heap.objs.size d →
      (∀ r' d', Fresh1 Y q M V s r' d' → Fresh1 Y q (fun b => M b ∨ b = s.heap.objs.size) (fun b => V b ∨ b = s.heap.objs.size) s' r' d' ∧ r' ≠ s.heap.objs.size) → Q (.ref s.heap.objs.size) s') : wpAny Y.mo A (eval e Y.env) Q E s := by
  cases h with
  | list pos =>
    refine List_ (spliced_nil (wpAny_newList ?_ (by decide)))
    obtain ⟨G', F, Fo⟩ := fresh_push (d := .list []) (o := { cls := .type "list", data := .seq ([] : List Value).toArray }) (tk := s.toks) G (fun V h r e => ⟨0, #[], e, by simp⟩) rfl
    exact k _ G' (Step.push _) F Fo
  | dict pos =>
    refine wpAny_Dict_empty ?_
    obtain ⟨G', F, Fo⟩ := fresh_push (d := .dict [] []) (o := { cls := .type "dict", data := .dict #[] }) (tk := s.toks) G (fun V h r e => ⟨0, #[], e, by simp, by simp, rfl⟩) rfl
    exact k _ G' (Step.push _) F Fo

theorem gr_new {q' : Vw} {r : Addr} {s₁ s₂ : Shared} (G : EnvOk Y ⟨q, M, V⟩ s) (hr : s.heap.get? r = none) (st : Step None s s₁) (st₂ : Step Y.O s₁ s₂) : Gr ⟨q, M, V⟩ s ⟨q', fun b => M b ∨ b = r, fun b => V b ∨ b = r⟩ s₂ :=
  ⟨(st.all _).trans (st₂.mono fun b w => G.om b (G.oo b w)), fun b w => w.imp id fun (w : b = r) => w ▸ hr, fun b w => w.imp id fun (w : b = r) => w ▸ hr, fun b w _ => .inl w⟩

/-- x = [] or x = {} -/
theorem PS1.new {x : Str} {p pos : Pos} {e : Expr} {d : PV} {Φ : AF → Vw → Prop} (hx : Storable Y x) (hn : NewE e d) (h : Φ .next (q.set x (.mt d))) (hs : swapsWith e (some (.Name x p)) pos.line Y.env = pure false) : PS1 Y q (.Assign [.Name x p] e pos) Φ := fun M V A E s hA G => by
  refine wpAny_Assign_Name (hn.use G fun s₁ G₁ st₁ F _ => ?_) hs
  refine store_mt G₁ hx F fun s₂ G₂ st₂ _ => ?_
  exact ⟨.next, _, h, rfl, G₂, gr_new G (get?_size _) st₁ st₂⟩

/-- d[k] = e -/
theorem PS1.setItem {x : Str} {px spos pos : Pos} {i e : Expr} {ok : PV → Prop} {n : Nat} {ks ds : List PV} {Φ : AF → Vw → Prop} (D : DKey Y.toWd n ok) (hn : n + 1 ≤ Y.n) (hx : q.ρ x = some (.mt (.dict ks ds))) (hks : ∀ x ∈ ks, ok x) (hnd : ks.Nodup) (hz : ks.length ≤ 4096)
    (h : PE Y q e fun dv => PE Y q i fun k => ok k ∧ ∀ ks' ds', DPut ks ds k dv ks' ds' → Φ .next (q.set x (.mt (.dict ks' ds')))) (hs : swapsWith e (some (.Subscript (.Name x px) i spos)) pos.line Y.env = pure false)
    (hd : (x == ("__debug__" : Str)) = false := by decide) (hc : (x == ("__classdict__" : Str)) = false := by decide) : PS1 Y q (.Assign [.Subscript (.Name x px) i spos] e pos) Φ := fun M V A E s hA G => by
  refine wpAny_Assign_Subscript (h.use hA G fun v s₁ dv hp hv st₁ G₁ => ?_) hs
  obtain ⟨u, hu, r, rfl, hM, ho, hU, hS, ht⟩ := G₁.slots x _ hx
  refine rd_name G₁ hu ?_ hd hc
  refine hp.use hA G₁ fun kv s₂ k hk hkv st₂ G₂ => ?_
  have ht₂ : Top Y.P V s₂.heap (.dict ks ds) r := ht.at (fun b o n e => ⟨n, st₂.kp b o e⟩) fun o e => st₂.kp r o e
  refine dict_setItem D (hA.mono hn) G₂.hp hk.1 hks hnd hkv (hv.stepN st₂) ht₂ (G₂.mv _ hM) hz fun tk h' ks' ds' hput hs' ht' => ?_
  have hu₂ : Reads1 Y.env s₂.heap x (.ref r) := hu.keeps fun b o _ e => st₂.kp b o e
  exact ⟨.next, ⟨_, M, V⟩, hk.2 ks' ds' hput, rfl, G₂.mtSet (s' := { s₂ with heap := h', toks := tk }) hx hu₂ (fun b o nb e => (hs'.2 b nb).trans e) ht',
    ((st₁.all _).trans (st₂.all _)).trans (Step.same (t := tk) hs' hM), fun b w => .inl w, fun b w => .inl w, fun b w _ => w⟩

theorem gr_mono {q' : Vw} {M' V' : Rgn} {s₂ : Shared} (G : EnvOk Y ⟨q, M, V⟩ s) (st : Step Y.O s s₂) (hm : ∀ b, M' b → M b ∨ s.heap.get? b = none) (hv : ∀ b, V' b → V b ∨ s.heap.get? b = none) (hk : ∀ b, V b → V' b) : Gr ⟨q, M, V⟩ s ⟨q', M', V'⟩ s₂ :=
  ⟨st.mono fun b w => G.om b (G.oo b w), hm, hv, fun b w _ => hk b w⟩

/-- a, b, c = ([], [], []), where the stores go backwards -/
theorem PS1.new3 {x y z : Str} {px py pz : Pos} {k1 k2 : Nat} {tp vp pos : Pos} {e₁ e₂ e₃ : Expr} {d₁ d₂ d₃ : PV} {Φ : AF → Vw → Prop} (hx : Storable Y x) (hy : Storable Y y) (hz : Storable Y z) (n₁ : NewE e₁ d₁) (n₂ : NewE e₂ d₂) (n₃ : NewE e₃ d₃)
    (h : Φ .next (((q.set z (.mt d₃)).set y (.mt d₂)).set x (.mt d₁)))
    (hw : swappedStores [.Tuple [.Name x px, .Name y py, .Name z pz] k1 tp] (.Tuple [e₁, e₂, e₃] k2 vp) Y.env = pure (some [x, y, z]))
    (hse : starEach [e₁, e₂, e₃] Y.env = [(false, eval e₁ Y.env), (false, eval e₂ Y.env), (false, eval e₃ Y.env)] := by rfl) :
    PS1 Y q (.Assign [.Tuple [.Name x px, .Name y py, .Name z pz] k1 tp] (.Tuple [e₁, e₂, e₃] k2 vp) pos) Φ := fun M V A E s hA G => by
  rw [exec_Assign]
  refine wpAny_bind (wpAny_standAt ?_)
  show wpAny _ A (pure false >>= _) _ _ _
  refine wpAny_bind (wpAny_pure ?_)
  rw [if_neg Bool.false_ne_true]
  refine wpAny_bind (Tuple_ ?_)
  rw [hse]
  show wpAny _ A (spliced [(false, eval e₁ Y.env), (false, eval e₂ Y.env), (false, eval e₃ Y.env)]) _ _ _
  refine spliced_cons (n₁.use G fun s₁ G₁ st₁ F₁ _ => ?_)
  refine spliced_cons (n₂.use G₁ fun s₂ G₂ st₂ F₂ o₂ => ?_)
  obtain ⟨F₁₂, e₁₂⟩ := o₂ _ _ F₁
  refine spliced_cons (n₃.use G₂ fun s₃ G₃ st₃ F₃ o₃ => ?_)
  obtain ⟨F₁₃, e₁₃⟩ := o₃ _ _ F₁₂
  obtain ⟨F₂₃, e₂₃⟩ := o₃ _ _ F₂
  refine spliced_nil (wpAny_newTuple ?_ (by show 3 ≤ sizeLine; decide))
  have st₄ : Step None s₃ { s₃ with heap := s₃.heap.push { cls := .type "tuple", data := .seq #[.ref s.heap.objs.size, .ref s₁.heap.objs.size, .ref s₂.heap.objs.size] } } := Step.push _ (t := s₃.toks)
  have hT : Heap.IsTuple (s₃.heap.push { cls := .type "tuple", data := .seq #[.ref s.heap.objs.size, .ref s₁.heap.objs.size, .ref s₂.heap.objs.size] }) s₃.heap.objs.size #[.ref s.heap.objs.size, .ref s₁.heap.objs.size, .ref s₂.heap.objs.size] := ⟨_, Heap.get?_push_size _ rfl, rfl, _, rfl⟩
  rw [hw]
  refine wpAny_bind (wpAny_pure ?_)
  unfold assignStores
  dsimp only
  refine wpAny_bind (wpAny_rule (wpAny_bind (wpAny_unpackItems_tuple (items := #[.ref s.heap.objs.size, .ref s₁.heap.objs.size, .ref s₂.heap.objs.size]) hA.handled hT fun h' he => ?_)))
  have st₅ : Step None s₃ { s₃ with heap := h' } := st₄.trans (Step.heap (t := s₃.toks) fun b o _ e => he b o (fun w => by rw [w] at e; exact absurd e (by rw [get?_size]; exact fun q => nomatch q)) e)
  have G₅ := G₃.stepN st₅
  refine wpAny_bind ?_
  show wpAny _ A (assignInOrder [fun v => bindName Y.env z v, fun v => bindName Y.env y v, fun v => bindName Y.env x v] [.ref s₂.heap.objs.size, .ref s₁.heap.objs.size, .ref s.heap.objs.size]) _ _ _
  unfold assignInOrder
  refine wpAny_bind (wpAny_holding (wpAny_bindName (store_mt G₅ hz (F₃.stepN G₃ st₅) fun s₆ G₆ st₆ o₆ => ?_)))
  have F₂₆ := o₆ _ _ e₂₃ (F₂₃.stepN G₃ st₅)
  have F₁₆ := o₆ _ _ e₁₃ (F₁₃.stepN G₃ st₅)
  unfold assignInOrder
  refine wpAny_bind (wpAny_holding (wpAny_bindName (store_mt G₆ hy F₂₆ fun s₇ G₇ st₇ o₇ => ?_)))
  have F₁₇ := o₇ _ _ e₁₂ F₁₆
  unfold assignInOrder
  refine wpAny_bind (wpAny_holding (wpAny_bindName (store_mt G₇ hx F₁₇ fun s₈ G₈ st₈ _ => ?_)))
  refine wpAny_pure (wpAny_pure ⟨.next, _, h, rfl, G₈, ?_⟩)
  have n1 := get?_size s.heap
  have n2 : s.heap.get? s₁.heap.objs.size = none := none_of_keep (fun o => st₁.kp _ o) (get?_size _)
  have n3 : s.heap.get? s₂.heap.objs.size = none := none_of_keep (fun o e => st₂.kp _ o (st₁.kp _ o e)) (get?_size _)
  refine gr_mono G (((((((st₁.all _).trans (st₂.all _)).trans (st₃.all _)).trans (st₅.all _)).trans st₆).trans st₇).trans st₈) (fun b w => ?_) (fun b w => ?_) (fun b w => .inl (.inl (.inl w)))
  · rcases w with ((w | w) | w) | w
    · exact .inl w
    · exact .inr (w ▸ n1)
    · exact .inr (w ▸ n2)
    · exact .inr (w ▸ n3)
  · rcases w with ((w | w) | w) | w
    · exact .inl w
    · exact .inr (w ▸ n1)
    · exact .inr (w ▸ n2)
    · exact .inr (w ▸ n3)

/-- a, b = ({}, {}) -/
theorem PS1.new2 {x y : Str} {px py : Pos} {k1 k2 : Nat} {tp vp pos : Pos} {e₁ e₂ : Expr} {d₁ d₂ : PV} {Φ : AF → Vw → Prop} (hx : Storable Y x) (hy : Storable Y y) (n₁ : NewE e₁ d₁) (n₂ : NewE e₂ d₂)
    (h : Φ .next ((q.set x (.mt d₁)).set y (.mt d₂)))
    (hw : swappedStores [.Tuple [.Name x px, .Name y py] k1 tp] (.Tuple [e₁, e₂] k2 vp) Y.env = pure none)
    (hse : starEach [e₁, e₂] Y.env = [(false, eval e₁ Y.env), (false, eval e₂ Y.env)] := by rfl) :
    PS1 Y q (.Assign [.Tuple [.Name x px, .Name y py] k1 tp] (.Tuple [e₁, e₂] k2 vp) pos) Φ := fun M V A E s hA G => by
  refine Assign_Tuple ?_ rfl hw
  refine Tuple_ ?_
  rw [hse]
  show wpAny _ A (spliced [(false, eval e₁ Y.env), (false, eval e₂ Y.env)]) _ _ _
  refine spliced_cons (n₁.use G fun s₁ G₁ st₁ F₁ _ => ?_)
  refine spliced_cons (n₂.use G₁ fun s₂ G₂ st₂ F₂ o₂ => ?_)
  obtain ⟨F₁₂, e₁₂⟩ := o₂ _ _ F₁
  refine spliced_nil (wpAny_newTuple ?_ (by show 2 ≤ sizeLine; decide))
  have st₄ : Step None s₂ { s₂ with heap := s₂.heap.push { cls := .type "tuple", data := .seq #[.ref s.heap.objs.size, .ref s₁.heap.objs.size] } } := Step.push _ (t := s₂.toks)
  have hT : Heap.IsTuple (s₂.heap.push { cls := .type "tuple", data := .seq #[.ref s.heap.objs.size, .ref s₁.heap.objs.size] }) s₂.heap.objs.size #[.ref s.heap.objs.size, .ref s₁.heap.objs.size] := ⟨_, Heap.get?_push_size _ rfl, rfl, _, rfl⟩
  refine wpAny_assign_Tuple hA.handled hT (by rfl) (by rfl) fun h' he => ?_
  have st₅ : Step None s₂ { s₂ with heap := h' } := st₄.trans (Step.heap (t := s₂.toks) fun b o _ e => he b o (fun w => by rw [w] at e; exact absurd e (by rw [get?_size]; exact fun q => nomatch q)) e)
  have G₅ := G₂.stepN st₅
  show wpAny _ A (assignInOrder [PySem.assign (Expr.Name x px) Y.env, PySem.assign (Expr.Name y py) Y.env] [.ref s.heap.objs.size, .ref s₁.heap.objs.size]) _ _ _
  unfold assignInOrder
  refine wpAny_bind (wpAny_holding (wpAny_assign_Name (store_mt G₅ hx (F₁₂.stepN G₂ st₅) fun s₆ G₆ st₆ o₆ => ?_)))
  have F₂₆ := o₆ _ _ (Ne.symm e₁₂) (F₂.stepN G₂ st₅)
  unfold assignInOrder
  refine wpAny_bind (wpAny_holding (wpAny_assign_Name (store_mt G₆ hy F₂₆ fun s₇ G₇ st₇ o₇ => ?_)))
  refine wpAny_pure ⟨.next, _, h, rfl, G₇, ?_⟩
  have n1 := get?_size s.heap
  have n2 : s.heap.get? s₁.heap.objs.size = none := none_of_keep (fun o => st₁.kp _ o) (get?_size _)
  refine gr_mono G (((((st₁.all _).trans (st₂.all _)).trans (st₅.all _)).trans st₆).trans st₇) (fun b w => ?_) (fun b w => ?_) (fun b w => .inl (.inl w))
  · rcases w with (w | w) | w
    · exact .inl w
    · exact .inr (w ▸ n1)
    · exact .inr (w ▸ n2)
  · rcases w with (w | w) | w
    · exact .inl w
    · exact .inr (w ▸ n1)
    · exact .inr (w ▸ n2)
end
end Mine
namespace Mine
open PySem PySem.W PySem.Calls PyProof.Rows

namespace SF
theorem slot_next : PySem.Slot "set_iterator" "__next__" "set_iterator.__next__" :=
  .of (owner := "set_iterator") (n := "__next__") (by rw [typeLookup_type, builtinLookup_eq_fast]; kernel_rfl) (by decide +kernel) (by decide +kernel) (by decide +kernel)
    (by first | exact .inl (by decide +kernel) | exact .inr (by decide +kernel)) (by rw [isSubtype_type]; kernel_rfl)
theorem slot_iter : PySem.Slot "set_iterator" "__iter__" "set_iterator.__iter__" :=
  .of (owner := "set_iterator") (n := "__iter__") (by rw [typeLookup_type, builtinLookup_eq_fast]; kernel_rfl) (by decide +kernel) (by decide +kernel) (by decide +kernel)
    (by first | exact .inl (by decide +kernel) | exact .inr (by decide +kernel)) (by rw [isSubtype_type]; kernel_rfl)
theorem owner_sit : Manifest.owners.lookup (String.ofList ['r', 'o', 't', 'a', 'r', 'e', 't', 'i', '_', 't', 'e', 's'].reverse) = some Manifest.sig_set_iterator := by kernel_rfl
theorem entry_next : entryFor table "set_iterator.__next__" = some Builtin.«set_iterator.__next__» := entryFor_of_tree (by kernel_rfl)
theorem args_next (a : Value) : argsOk "set_iterator.__next__" ⟨[a], []⟩ := by
  unfold argsOk; rw [signature?_of (id := "set_iterator.__next__") (n := ['_', '_', 't', 'x', 'e', 'n', '_', '_']) (o := ['r', 'o', 't', 'a', 'r', 'e', 't', 'i', '_', 't', 'e', 's']) (by kernel_rfl) owner_sit]; kernel_rfl
theorem entry_iter : entryFor table "set_iterator.__iter__" = some Builtin.«dict_keyiterator.__iter__» := entryFor_alias (id' := "dict_keyiterator.__iter__") (by kernel_rfl) rfl (by decide +kernel) (by kernel_rfl)
theorem args_iter (a : Value) : argsOk "set_iterator.__iter__" ⟨[a], []⟩ := by
  unfold argsOk; rw [signature?_of (id := "set_iterator.__iter__") (n := ['_', '_', 'r', 'e', 't', 'i', '_', '_']) (o := ['r', 'o', 't', 'a', 'r', 'e', 't', 'i', '_', 't', 'e', 's']) (by kernel_rfl) owner_sit]; kernel_rfl
theorem entry_set_iter : entryFor table "set.__iter__" = some Builtin.«frozenset.__iter__» := entryFor_alias (id' := "frozenset.__iter__") (by kernel_rfl) rfl (by decide +kernel) (by kernel_rfl)
theorem nolen : typeLookup (.type "set_iterator") "__len__" = pure none := by rw [typeLookup_type, builtinLookup_eq_fast]; kernel_rfl
theorem hint : typeLookup (.type "set_iterator") "__length_hint__" = pure (some (.builtin "set_iterator.__length_hint__")) := by rw [typeLookup_type, builtinLookup_eq_fast]; kernel_rfl
end SF

theorem erase_perm {α : Type} : ∀ {l : List α} {i : Nat} (h : i < l.length), (l[i] :: l.eraseIdx i).Perm l
  | [], i, h => absurd h (Nat.not_lt_zero _)
  | x :: r, 0, h => List.Perm.refl _
  | x :: r, i + 1, h => by
    show (r[i]'(Nat.lt_of_succ_lt_succ h) :: x :: r.eraseIdx i).Perm (x :: r)
    exact (List.Perm.swap _ _ _).trans (List.Perm.cons _ (erase_perm _))

section
variable {M : Model} {A : Around} {E : Value → Shared → Prop} {s : Shared}
theorem wpAny_choose {src : Source} {n : Nat} {Q : Nat → Shared → Prop} (hn : n ≠ 0) (h : ∀ i dr, i < n → Q i { s with drawn := dr }) : wpAny M A (choose src n) Q E s := fun Γ p hΓ => by
  show n ≠ 0 ∧ _
  exact ⟨hn, h _ _ (Nat.mod_lt _ (Nat.pos_of_ne_zero hn))⟩
theorem wpAny_drawOrder {α : Type} : ∀ (n : Nat) (xs : List α) (s : Shared) (Q : List α → Shared → Prop), xs.length = n → (∀ ys dr, ys.Perm xs → Q ys { s with drawn := dr }) → wpAny M A (drawOrder n xs) Q E s
  | 0, xs, s, Q, hl, h => by
    have : xs = [] := List.length_eq_zero_iff.mp hl
    subst this
    exact wpAny_pure (h [] s.drawn (List.Perm.refl _))
  | n + 1, [], s, Q, hl, h => by simp at hl
  | n + 1, x :: r, s, Q, hl, h => by
    unfold drawOrder
    refine wpAny_bind (wpAny_choose (by simp) fun i dr hi => ?_)
    rw [List.getElem?_eq_getElem hi]
    refine wpAny_bind (wpAny_drawOrder n _ _ _ (by rw [List.length_eraseIdx]; simp only [hi, if_true]; rw [hl]; rfl) fun ys dr' hp => wpAny_pure (h _ _ ?_))
    exact (List.Perm.cons _ hp).trans (erase_perm hi)
end

theorem pickOrder_perm {α : Type} (next : Nat → Nat) (xs : Array α) : (pickOrder next xs).toList.Perm xs.toList := by
  have go : ∀ (fuel k : Nat) (left : List α) (out : Array α), left.length = fuel → (pickOrder.go next fuel k left out).toList.Perm (out.toList ++ left) := by
    intro fuel
    induction fuel with
    | zero => intro k left out hl; have : left = [] := List.length_eq_zero_iff.mp hl; subst this; simp [pickOrder.go]
    | succ n ih =>
      intro k left out hl
      have hi : next k % left.length < left.length := Nat.mod_lt _ (by omega)
      unfold pickOrder.go
      rw [List.getElem?_eq_getElem hi]
      refine (ih (k + 1) _ _ (by rw [List.length_eraseIdx]; simp only [hi, if_true]; omega)).trans ?_
      rw [Array.toList_push, List.append_assoc]
      exact List.Perm.append_left _ (erase_perm hi)
  have := go xs.size 0 xs.toList #[] (by simp)
  simpa [pickOrder] using this

abbrev setO (es : Array (Int × Value)) (ep : Nat) (t : SetTable) : Obj := { cls := .type "set", data := .set es ep t }
abbrev sitO (first : Value) (i : Int) (u : Tok) (a : Value) (n ep : Nat) : Obj := { cls := .type "set_iterator", data := .fields #[first, .int i u, a, rawInt n, rawInt ep] }

section
variable {X : Wd} {A : Around} {E : Value → Shared → Prop} {s : Shared} {a it : Addr} {es : Array (Int × Value)} {ep : Nat} {t : SetTable}
theorem set_state {Q : (Array (Int × Value) × Nat × SetTable) → Shared → Prop} (ho : s.heap.get? a = some (setO es ep t)) (hf : t.fits es.size = true) (h : Q (es, ep, t) s) : wpAny X.mo A (setState a) Q E s :=
  wpAny_setState_of ho rfl hf h
theorem by_text {Q : Bool → Shared → Prop} (h : Q (X.P.followText "set-order") s) : wpAny X.mo A setsByText Q E s := by
  unfold setsByText
  exact wpAny_bind (wpAny_askSetting (wpAny_pure h))

abbrev rawN (n : Nat) : Value := rawInt n

theorem stop_here {Q : Option Value → Shared → Prop} {A' : Around} {hh : A'.handled = none} {Qf : Fin → Shared → Prop} {E' : Value → Shared → Prop} (h : ∀ h' e, (∀ b o, s.heap.get? b = some o → h'.get? b = some o) → (∃ o, h'.get? e = some o ∧ o.cls = .type "StopIteration") → E' (.ref e) { s with heap := h' }) :
    wpAny X.mo A' (do raiseNew (← newExc (.type "StopIteration") [])) Qf E' s := by
  show wpAny _ _ (newExc (.type "StopIteration") [] >>= _) _ _ _
  refine wpAny_bind ?_
  simp only [newExc, newTuple]
  refine wpAny_bind (wpAny_newObj_type ?_ (by size_fits))
  refine wpAny_bind (m := firstArgMember _ _) (wpAny_of_eq (a := Value.none) (by first | rfl | (simp only [firstArgMember]; rfl)) ?_)
  refine wpAny_newObj_type ?_ (by size_fits)
  simp only [raiseNew]
  refine wpAny_bind (wpAny_handled ?_)
  rw [hh]
  refine wpAny_bind (wpAny_pure (wpAny_throw ?_))
  exact h _ _ (fun b o e => Heap.get?_push_of_some _ (Heap.get?_push_of_some _ e)) ⟨_, Heap.get?_push_size _ rfl, rfl⟩

theorem sit_int {Q : Option Value → Shared → Prop} {slot : Nat} {i : Nat} {r : Option (Value × Nat)} (hA : A.handled = none) (hit : s.heap.get? it = some (sitO (rawInt slot) i 0 (.ref a) es.size ep)) (ho : s.heap.get? a = some (setO es ep t)) (hf : t.fits es.size = true)
    (hs : ∀ (A' : Around) (E' : Value → Shared → Prop) (Q' : Option (Value × Nat) → Shared → Prop), Q' r s → wpAny X.mo A' (setNext a slot i ep) Q' E' s)
    (hsome : ∀ x nxt h', r = some (x, nxt) → Heap.SameBut it s.heap h' → h'.get? it = some (sitO (rawInt (nxt : Nat)) ((i : Int) + 1) 0 (.ref a) es.size ep) → Q (some x) { s with heap := h' })
    (hnone : ∀ h', r = none → Heap.ExtBut it s.heap h' → Q none { s with heap := h' }) : wpAny X.mo A (pyNext (.ref it)) Q E s := by
  have hT : s.TypeIs (.ref it) "set_iterator" := ⟨_, hit, rfl⟩
  unfold pyNext
  refine wpAny_bind (wpAny_attempt (wpAny_callSpecial?_slot (name := Str.ofString "__next__") hT SF.slot_next (wpAny_call_entry SF.slot_next hT SF.entry_next ?_ (SF.args_next _))))
  unfold Builtin.«set_iterator.__next__»
  show wpAny _ _ (fieldsOf (.ref it) >>= _) _ _ s
  refine wpAny_bind (wpAny_fieldsOf hit rfl ?_)
  dsimp only [rawInt]
  show wpAny _ _ (setEntries a >>= _) _ _ s
  refine wpAny_bind (wpAny_setEntries_of ho rfl hf ?_)
  try dsimp only
  rw [if_neg (by simp)]
  show wpAny _ _ (setNext a (Int.toNat slot) (Int.toNat i) (Int.toNat ep) >>= _) _ _ s
  simp only [Int.toNat_natCast]
  refine wpAny_bind (hs _ _ _ ?_)
  cases r with
  | some p =>
    obtain ⟨x, nxt⟩ := p
    dsimp only
    refine wpAny_bind (wpAny_setField_rec hit (by simp) fun h₁ h1 s1 => ?_)
    refine wpAny_bind (wpAny_setField_rec h1 (by simp) fun h₂ h2 s2 => ?_)
    refine wpAny_pure ⟨x, rfl, wpAny_pure (hsome x nxt h₂ rfl (Heap.SameBut.trans s1 s2) ?_)⟩
    have h2q := h2; simp [rawInt] at h2q; exact h2q
  | none =>
    dsimp only
    refine wpAny_bind (wpAny_setField_rec hit (by simp) fun h₁ h1 s1 => ?_)
    refine stop_here (hh := by first | exact hA | simpa using hA) (Q := Q) fun h' e hk hx => ?_
    obtain ⟨o, ho', hc⟩ := hx
    refine wpAny_bind (wpAny_isInstance (T := "StopIteration") (b := true) ⟨o, ho', hc⟩ isSubtype_stop ?_)
    exact wpAny_pure (hnone h' rfl fun b o hb e => hk b o ((s1.2 b hb).trans e))

theorem sit_drawn {Q : Option Value → Shared → Prop} {T : Addr} {places : Array Value} {m : Nat} {i : Nat} (hA : A.handled = none) (hit : s.heap.get? it = some (sitO (.ref T) i 0 (.ref a) es.size ep)) (ho : s.heap.get? a = some (setO es ep t)) (hf : t.fits es.size = true)
    (hTo : s.heap.get? T = some (seqO tTuple places m)) (hpl : ∀ v, places[i]? = some v → ∃ k : Nat, v = rawInt k ∧ k < es.size)
    (hsome : ∀ (k : Nat) x h', places[i]? = some (rawInt k) → es[k]? = some x → Heap.SameBut it s.heap h' → h'.get? it = some (sitO (.ref T) ((i : Int) + 1) 0 (.ref a) es.size ep) → Q (some x.2) { s with heap := h' })
    (hnone : ∀ h', places[i]? = none → Heap.ExtBut it s.heap h' → Q none { s with heap := h' }) : wpAny X.mo A (pyNext (.ref it)) Q E s := by
  have hT : s.TypeIs (.ref it) "set_iterator" := ⟨_, hit, rfl⟩
  unfold pyNext
  refine wpAny_bind (wpAny_attempt (wpAny_callSpecial?_slot (name := Str.ofString "__next__") hT SF.slot_next (wpAny_call_entry SF.slot_next hT SF.entry_next ?_ (SF.args_next _))))
  unfold Builtin.«set_iterator.__next__»
  show wpAny _ _ (fieldsOf (.ref it) >>= _) _ _ s
  refine wpAny_bind (wpAny_fieldsOf hit rfl ?_)
  dsimp only [rawInt]
  show wpAny _ _ (setEntries a >>= _) _ _ s
  refine wpAny_bind (wpAny_setEntries_of ho rfl hf ?_)
  try dsimp only
  rw [if_neg (by simp)]
  show wpAny _ _ (seqItems? (.ref T) >>= _) _ _ s
  refine wpAny_bind (wpAny_seqItems hTo rfl ?_)
  try dsimp only
  simp only [Int.toNat_natCast]
  cases hp : places[i]? with
  | some v =>
    obtain ⟨k, rfl, hk⟩ := hpl v hp
    dsimp only [rawInt]
    show wpAny _ _ (setNextDrawn a (Int.toNat k) ep >>= _) _ _ s
    simp only [Int.toNat_natCast]
    refine wpAny_bind ?_
    unfold setNextDrawn
    refine wpAny_bind (set_state ho hf ?_)
    dsimp only
    rw [if_neg (by simp)]
    rw [Array.getElem?_eq_getElem hk]
    refine wpAny_pure ?_
    refine wpAny_bind (wpAny_setField_rec hit (by simp) fun h₁ h1 s1 => ?_)
    refine wpAny_pure ⟨_, rfl, wpAny_pure (hsome k es[k] h₁ hp (Array.getElem?_eq_getElem hk) s1 ?_)⟩
    have h1q := h1; simp [rawInt] at h1q; exact h1q
  | none =>
    dsimp only
    refine wpAny_bind (wpAny_setField_rec hit (by simp) fun h₀ h0 s0 => ?_)
    refine wpAny_bind (wpAny_setField_rec h0 (by simp) fun h₁ h1 s1 => ?_)
    refine stop_here (hh := by first | exact hA | simpa using hA) (Q := Q) fun h' e hk hx => ?_
    obtain ⟨o, ho', hc⟩ := hx
    refine wpAny_bind (wpAny_isInstance (T := "StopIteration") (b := true) ⟨o, ho', hc⟩ isSubtype_stop ?_)
    exact wpAny_pure (hnone h' hp fun b o hb e => hk b o ((s1.2 b hb).trans ((s0.2 b hb).trans e)))
end
end Mine
namespace Mine
open PySem PySem.W PySem.Calls PyProof.Rows

theorem Vals.perm {P : Params} {V : Rgn} {h : Heap} {vs vs' : List Value} (hp : vs'.Perm vs) : ∀ {l : List PV}, Vals P V h l vs → ∃ l' : List PV, l'.Perm l ∧ Vals P V h l' vs' := by
  induction hp with
  | nil => intro l x; have := x.length; simp at this; subst this; exact ⟨[], List.Perm.refl _, by simp⟩
  | cons v _ ih =>
    intro l x
    cases l with
    | nil => have := x.length; simp at this
    | cons d l =>
      obtain ⟨h1, h2⟩ := vals_cons'.mp x
      obtain ⟨l', p, hv⟩ := ih h2
      exact ⟨d :: l', List.Perm.cons _ p, by simp [h1, hv]⟩
  | swap a b r =>
    intro l x
    match l with
    | [] => have := x.length; simp at this
    | [_] => have := x.length; simp at this
    | d :: e :: l =>
      obtain ⟨h1, h2⟩ := vals_cons'.mp x
      obtain ⟨h3, h4⟩ := vals_cons'.mp h2
      exact ⟨e :: d :: l, List.Perm.swap _ _ _, by simp [h1, h3, h4]⟩
  | trans _ _ ih1 ih2 =>
    intro l x
    obtain ⟨l1, p1, h1⟩ := ih2 x
    obtain ⟨l2, p2, h2⟩ := ih1 h1
    exact ⟨l2, p2.trans p1, h2⟩

section
variable {X : Wd} {A : Around} {E : Value → Shared → Prop} {s : Shared} {a it : Addr} {es : Array (Int × Value)} {ep : Nat} {t : SetTable} {F : Rgn}

theorem next_text (ht : X.P.followText "set-order" = true) (ho : s.heap.get? a = some (setO es ep t)) (hf : t.fits es.size = true) (i : Nat) (Q : Option (Value × Nat) → Shared → Prop) (h : Q (((pickOrder (X.P.setOrder a ep) es)[i]?).map fun e => (e.2, 0)) s) : wpAny X.mo A (setNext a 0 i ep) Q E s := by
  unfold setNext
  refine wpAny_bind (set_state ho hf ?_)
  dsimp only
  refine wpAny_bind (by_text ?_)
  rw [ht, if_pos rfl, if_neg (by simp)]
  refine wpAny_bind ?_
  unfold setWalk
  refine wpAny_bind (set_state ho hf ?_)
  dsimp only
  refine wpAny_bind (by_text ?_)
  rw [ht, if_pos rfl]
  exact wpAny_bind (wpAny_askSetting (wpAny_pure (wpAny_pure h)))

theorem next_few (ht : X.P.followText "set-order" = false) (hl : t.led = true) (hz : es.size ≤ 1) (ho : s.heap.get? a = some (setO es ep t)) (hf : t.fits es.size = true) (slot i : Nat) (Q : Option (Value × Nat) → Shared → Prop)
    (h : Q (match es[SetTable.below t.place slot]?, t.place[SetTable.below t.place slot]? with | some (_, x), some j => some (x, j + 1) | _, _ => none) s) : wpAny X.mo A (setNext a slot i ep) Q E s := by
  unfold setNext
  refine wpAny_bind (set_state ho hf ?_)
  dsimp only
  refine wpAny_bind (by_text ?_)
  rw [ht, if_neg Bool.false_ne_true]
  split
  · rename_i hd
    exact absurd (show (!t.plain && decide (es.size > 1)) = true from hd) (by simp; omega)
  refine wpAny_bind ?_
  show wpAny _ _ (if (!t.led && !es.isEmpty) = true then _ else pure ()) _ _ _
  rw [if_neg (by simp [hl])]
  exact wpAny_pure (wpAny_pure h)

/-- a set's walker, whichever way it goes -/
theorem Itr.set {A₀ : Around} {order : List Value} {l : List PV} {own : Rgn} {St : Nat → Heap → Prop} (hF : ¬ F a) (hown : ∀ b, own b → ¬ F b ∧ X.b₀.get? b = none) (hao : ¬ own a) (hf : t.fits es.size = true) (hlen : order.length = es.size)
    (hst : ∀ i h h', St i h → (∀ b o, own b → h.get? b = some o → h'.get? b = some o) → St i h') (hit : own it)
    (hhere : ∀ i h, St i h → ∀ b, own b → ∃ o, h.get? b = some o) (hT : ∀ i h, St i h → ∃ o, h.get? it = some o ∧ o.cls = .type "set_iterator")
    (item : ∀ (A : Around) (E : Value → Shared → Prop) (s : Shared) (Q : Option Value → Shared → Prop) (i : Nat) (v : Value), A.handled = none → order[i]? = some v → s.heap.get? a = some (setO es ep t) → St i s.heap →
      (∀ h', (∀ b o, ¬ own b → s.heap.get? b = some o → h'.get? b = some o) → St (i + 1) h' → Q (some v) { s with heap := h' }) → wpAny X.mo A (pyNext (.ref it)) Q E s)
    (fin : ∀ (A : Around) (E : Value → Shared → Prop) (s : Shared) (Q : Option Value → Shared → Prop), A.handled = none → s.heap.get? a = some (setO es ep t) → St order.length s.heap →
      (∀ h', (∀ b o, ¬ own b → s.heap.get? b = some o → h'.get? b = some o) → Q none { s with heap := h' }) → wpAny X.mo A (pyNext (.ref it)) Q E s) :
    Itr X A₀ F own (fun _ => False) .seq (.ref it) l fun i s => St i s.heap ∧ s.heap.get? a = some (setO es ep t) ∧ Vals X.P (fun x => F x ∨ own x) s.heap l order where
  next := fun A E s Q i d V hA _ hd hk hV _ ⟨h1, h2, h3⟩ k => by
    obtain ⟨v, hv, hx⟩ := h3.get hd
    refine item A E s Q i v hA.handled hv h2 h1 fun h' hk' h1' => ?_
    have st : Step own s { s with heap := h' } := Step.heap (t := s.toks) fun b o n e => hk' b o n e
    have hx' : Val X.P V h' d v := (hx.step st fun a q => .inr q).less hV
    have hJ := And.intro h1' (And.intro (st.keep a _ hao h2) (h3.step st fun a q => .inr q))
    refine k v _ (st.g _) hx' (fun _ => hJ) fun elts x1 pos E' Q' k' => ?_
    obtain ⟨o, ho, hc⟩ := hT _ _ h1'
    exact letOwned_plain ho hc (by decide) (k' _ (StepG.refl _ _ _) hx' hJ)
  done := fun A E s Q hA _ hk ⟨h1, h2, h3⟩ k => by
    rw [h3.length] at h1
    exact fin A E s Q hA.handled h2 h1 fun h' hk' => k _ (StepG.mk (fun b o n e => hk' b o n e) rfl (fun _ _ _ e => e) fun _ _ e => .inr (.inl e)) fun i q => q.elim
  frame := fun i s s' W hW ⟨h1, h2, h3⟩ st => ⟨hst _ _ _ h1 fun b o w e => st.keep b o (fun w' => (hown b w).1 (hW b w')) e, st.keep a _ (fun w => hF (hW _ w)) h2, h3.step st fun a w => .inl (hW _ w)⟩
  out := hown
  here := fun i s ⟨h1, _⟩ b w => hhere i _ h1 b w
  nog := fun _ i q => q
  self := fun A E s Q i ⟨h1, _⟩ k => by
    obtain ⟨o, ho, hc⟩ := hT _ _ h1
    have hty : s.TypeIs (.ref it) "set_iterator" := ⟨o, ho, hc⟩
    refine wpAny_pyIter_slot hty SF.slot_iter (wpAny_call_entry SF.slot_iter hty SF.entry_iter ?_ (SF.args_iter _))
    show wpAny _ _ (ret (.ref it)) _ _ s
    exact wpAny_pure ⟨_, rfl, "set_iterator", _, hty, SF.slot_next.lookup, k⟩

theorem below_few {place : Array Nat} (hz : place.size ≤ 1) : SetTable.below place 0 = 0 := by
  obtain ⟨l⟩ := place
  match l, hz with
  | [], _ => rfl
  | [p], _ => simp [SetTable.below, SetTable.below.go]
theorem below_one {p : Nat} : SetTable.below #[p] (p + 1) = 1 := by
  simp [SetTable.below, SetTable.below.go]

theorem pyIter_set {V : Rgn} {l : List PV} (hA : A.handled = none) (H : Hp X V s) (ha : ¬ V a) (ho : s.heap.get? a = some (setO es ep t)) (hf : t.fits es.size = true) (hled : t.led = !X.P.followText "set-order") (hpl : es.size ≤ 1 ∨ t.plain = false) (hz4 : es.size ≤ 4096)
    (hv : Vals X.P V s.heap l (es.toList.map (·.2))) :
    wpAny X.mo A (pyIter (.ref a)) (fun it s₂ => ∃ (l' : List PV) (own : Rgn) (gn : Nat → Prop) (J : Nat → Shared → Prop), l'.Perm l ∧ Itr X A (fun b => V b ∨ s₂.heap.get? b = none) own gn .seq it l' J ∧ J 0 s₂ ∧
      StepG None gn s s₂ ∧ (∀ b, own b → s.heap.get? b = none) ∧ (∀ i, gn i → s.gens[i]? = none) ∧ ∃ r o, it = .ref r ∧ own r ∧ s₂.heap.get? r = some o ∧ o.cls = .type "set_iterator") E s := by
  have hT : s.TypeIs (.ref a) "set" := ⟨_, ho, rfl⟩
  have hps : t.place.size = es.size := by simp only [SetTable.fits, Bool.and_eq_true, beq_iff_eq] at hf; exact hf.1
  refine wpAny_pyIter_slot hT F.slot_set_iter (wpAny_call_entry F.slot_set_iter hT SF.entry_set_iter ?_ (F.args_set_iter_1 _))
  unfold Builtin.«frozenset.__iter__»
  show wpAny _ _ (Builtin.Frozenset.sizeOf a >>= _) _ _ s
  unfold Builtin.Frozenset.sizeOf
  refine wpAny_bind (wpAny_bind (wpAny_setEntries_of ho rfl hf (wpAny_pure ?_)))
  unfold setDrawn
  refine wpAny_bind (wpAny_bind (set_state ho hf ?_))
  dsimp only
  refine wpAny_bind (by_text (wpAny_pure ?_))
  have made : ∀ (first : Value) (s₁ : Shared) (Q : Value → Shared → Prop), s₁.heap.get? a = some (setO es ep t) → Q (.ref s₁.heap.objs.size) { s₁ with heap := s₁.heap.push (sitO first 0 0 (.ref a) es.size ep) } →
      wpAny X.mo A.in1 (do ret (← newFields "set_iterator" [first, rawInt 0, .ref a, rawInt es.size, rawInt (← setEpoch a)])) (fun fin s' => ∃ v, fin = .done (.ret v) ∧ ∃ T' r, s'.TypeIs v T' ∧ typeLookup (.type T') "__next__" = pure (some r) ∧ Q v s') E s₁ := fun first s₁ Q ho₁ hq => by
    refine wpAny_bind (wpAny_setEpoch_of ho₁ rfl hf ?_)
    exact wpAny_bind (wpAny_newObj_type (wpAny_pure ⟨_, rfl, "set_iterator", _, ⟨_, Heap.get?_push_size _ rfl, rfl⟩, SF.slot_next.lookup, hq⟩))
  have hsn : s.heap.get? s.heap.objs.size = none := get?_size _
  have h0 : X.b₀.get? s.heap.objs.size = none := none_of_keep (H.keep _) hsn
  have hnV : ¬ V s.heap.objs.size := H.fresh
  have hne : a ≠ s.heap.objs.size := fun q => by rw [q, hsn] at ho; cases ho
  -- one new object: the walker
  have one : ∀ (St : Nat → Heap → Prop) (order : List Value), order.Perm (es.toList.map (·.2)) →
      (St 0 (s.heap.push (sitO (rawInt 0) 0 0 (.ref a) es.size ep))) → (∀ i h, St i h → ∃ first i' u, h.get? s.heap.objs.size = some (sitO first i' u (.ref a) es.size ep)) →
      (∀ i h h', St i h → (∀ o, h.get? s.heap.objs.size = some o → h'.get? s.heap.objs.size = some o) → St i h') →
      (∀ (A : Around) (E : Value → Shared → Prop) (s' : Shared) (Q : Option Value → Shared → Prop) (i : Nat) (v : Value), A.handled = none → order[i]? = some v → s'.heap.get? a = some (setO es ep t) → St i s'.heap →
        (∀ h', (∀ b o, ¬ b = s.heap.objs.size → s'.heap.get? b = some o → h'.get? b = some o) → St (i + 1) h' → Q (some v) { s' with heap := h' }) → wpAny X.mo A (pyNext (.ref s.heap.objs.size)) Q E s') →
      (∀ (A : Around) (E : Value → Shared → Prop) (s' : Shared) (Q : Option Value → Shared → Prop), A.handled = none → s'.heap.get? a = some (setO es ep t) → St order.length s'.heap →
        (∀ h', (∀ b o, ¬ b = s.heap.objs.size → s'.heap.get? b = some o → h'.get? b = some o) → Q none { s' with heap := h' }) → wpAny X.mo A (pyNext (.ref s.heap.objs.size)) Q E s') →
      wpAny X.mo A.in1 (do let first ← (pure (rawInt 0) : Sem Value); ret (← newFields "set_iterator" [first, rawInt 0, .ref a, rawInt es.size, rawInt (← setEpoch a)])) (fun fin s' => ∃ v, fin = .done (.ret v) ∧ ∃ T' r, s'.TypeIs v T' ∧ typeLookup (.type T') "__next__" = pure (some r) ∧
        ∃ (l' : List PV) (own : Rgn) (gn : Nat → Prop) (J : Nat → Shared → Prop), l'.Perm l ∧ Itr X A (fun b => V b ∨ s'.heap.get? b = none) own gn .seq v l' J ∧ J 0 s' ∧ StepG None gn s s' ∧ (∀ b, own b → s.heap.get? b = none) ∧ (∀ i, gn i → s.gens[i]? = none) ∧ ∃ r o, v = .ref r ∧ own r ∧ s'.heap.get? r = some o ∧ o.cls = .type "set_iterator") E s :=
    fun St order hord hst0 hrec hfr item fin => by
      refine wpAny_bind (wpAny_pure (made _ s _ ho ?_))
      obtain ⟨l', hp, hv'⟩ := Vals.perm hord hv
      have hlen : order.length = es.size := by simpa using hord.length_eq
      have hit := Heap.get?_push_size s.heap (o := sitO (rawInt 0) 0 0 (.ref a) es.size ep) rfl
      refine ⟨l', (fun b => b = s.heap.objs.size), (fun _ => False), _, hp, Itr.set (order := order) (St := St) (own := fun b => b = s.heap.objs.size) (l := l') (a := a) (it := s.heap.objs.size) ?_ ?_ hne hf hlen (fun i h h' h1 hk => hfr i h h' h1 fun o e => hk _ o rfl e) rfl (fun i h h1 b w => ?_) (fun i h h1 => ?_) item fin, ⟨hst0, Heap.get?_push_of_some _ ho, ?_⟩, (Step.push _ (t := s.toks)).g _, fun b w => w ▸ hsn, fun i w => w.elim, _, _, rfl, rfl, hit, rfl⟩
      · rintro (w | w)
        · exact ha w
        · rw [Heap.get?_push_of_some _ ho] at w; cases w
      · rintro b rfl
        refine ⟨?_, h0⟩
        rintro (w | w)
        · exact hnV w
        · rw [hit] at w; cases w
      · obtain ⟨first, i', u, e⟩ := hrec i h h1; exact ⟨_, w ▸ e⟩
      · obtain ⟨first, i', u, e⟩ := hrec i h h1; exact ⟨_, e, rfl⟩
      · refine (hv'.grow fun x w => ?_).keeps fun x o _ e => Heap.get?_push_of_some _ e
        rcases w with (w | w) | w
        · exact .inl w
        · exact .inr (none_of_keep (fun o e => Heap.get?_push_of_some _ e) w)
        · exact .inr (w ▸ hsn)
  by_cases hbt : X.P.followText "set-order" = true
  · rw [hbt]
    refine one (fun i h => h.get? s.heap.objs.size = some (sitO (rawInt (0 : Nat)) i 0 (.ref a) es.size ep)) ((pickOrder (X.P.setOrder a ep) es).toList.map (·.2)) ((pickOrder_perm _ _).map _) (Heap.get?_push_size _ rfl) (fun i h h1 => ⟨_, _, _, h1⟩) (fun i h h' h1 hk => hk _ h1)
      (fun A E s' Q i v hA hv ho' h1 k => sit_int hA h1 ho' hf (fun A' E' Q' hq => next_text hbt ho' hf i Q' hq) (fun x nxt h' hr hs hi => ?_) (fun h' hr _ => ?_)) (fun A E s' Q hA ho' h1 k => sit_int hA h1 ho' hf (fun A' E' Q' hq => next_text hbt ho' hf _ Q' hq) (fun x nxt h' hr hs hi => ?_) (fun h' hr he => k h' fun b o n e => he b o n e))
    · rw [List.getElem?_map, Array.getElem?_toList] at hv
      cases hg : (pickOrder (X.P.setOrder a ep) es)[i]? with
      | none => rw [hg] at hv; cases hv
      | some e =>
        rw [hg] at hv hr
        cases hv
        cases hr
        exact k h' (fun b o n e => (hs.2 b n).trans e) (by simpa using hi)
    · rw [List.getElem?_map, Array.getElem?_toList] at hv
      cases hg : (pickOrder (X.P.setOrder a ep) es)[i]? with
      | none => rw [hg] at hv; cases hv
      | some e => rw [hg] at hr; cases hr
    · exfalso
      cases hg : (pickOrder (X.P.setOrder a ep) es)[((pickOrder (X.P.setOrder a ep) es).toList.map (·.2)).length]? with
      | none => rw [hg] at hr; cases hr
      | some e => have := (Array.getElem?_eq_some_iff.mp hg).1; simp at this
  · have hbf : X.P.followText "set-order" = false := by simpa using hbt
    rw [hbf] at hled ⊢
    by_cases hz : es.size ≤ 1
    · have hno : ¬ ((!false && (!t.plain && decide (es.size > 1))) = true) := by simp; omega
      split
      · rename_i hd
        exact absurd (show (!false && (!t.plain && decide (es.size > 1))) = true from hd) hno
      refine one (fun i h => ∃ slot : Nat, h.get? s.heap.objs.size = some (sitO (rawInt slot) i 0 (.ref a) es.size ep) ∧ SetTable.below t.place slot = i) (es.toList.map (·.2)) (List.Perm.refl _) ⟨0, Heap.get?_push_size _ rfl, below_few (by omega)⟩ (fun i h ⟨slot, h1, _⟩ => ⟨_, _, _, h1⟩) (fun i h h' ⟨slot, h1, h2⟩ hk => ⟨slot, hk _ h1, h2⟩)
        (fun A E s' Q i v hA hv ho' ⟨slot, h1, h2⟩ k => sit_int hA h1 ho' hf (fun A' E' Q' hq => next_few hbf (by simpa using hled) hz ho' hf slot i Q' hq) (fun x nxt h' hr hs hi => ?_) (fun h' hr _ => ?_))
        (fun A E s' Q hA ho' ⟨slot, h1, h2⟩ k => sit_int hA h1 ho' hf (fun A' E' Q' hq => next_few hbf (by simpa using hled) hz ho' hf slot _ Q' hq) (fun x nxt h' hr hs hi => ?_) (fun h' hr he => k h' fun b o n e => he b o n e))
      all_goals rw [h2] at hr
      · rw [List.getElem?_map, Array.getElem?_toList] at hv
        have hi' : i < es.size := by
          cases hg : es[i]? with
          | none => rw [hg] at hv; cases hv
          | some e => exact (Array.getElem?_eq_some_iff.mp hg).1
        have hi0 : i = 0 := by omega
        have hp1 : t.place.size = 1 := by omega
        subst hi0
        obtain ⟨p, hp⟩ : ∃ p, t.place = #[p] := by
          refine ⟨t.place[0], Array.ext (by simpa using hp1) fun j h1 h2 => ?_⟩
          have : j = 0 := by simp at h2; omega
          subst this; rfl
        rw [Array.getElem?_eq_getElem hi', hp] at hr
        rw [Array.getElem?_eq_getElem hi'] at hv
        cases hv
        cases hr
        exact k h' (fun b o n e => (hs.2 b n).trans e) ⟨p + 1, by push_cast; simpa using hi, by rw [hp]; exact below_one⟩
      · rw [List.getElem?_map, Array.getElem?_toList] at hv
        cases hg : es[i]? with
        | none => rw [hg] at hv; cases hv
        | some e =>
          have hi' := (Array.getElem?_eq_some_iff.mp hg).1
          rw [hg, Array.getElem?_eq_getElem (by omega : i < t.place.size)] at hr
          cases hr
      · exfalso
        rw [Array.getElem?_eq_none (by simp)] at hr
        cases hr
    · have hplain : t.plain = false := hpl.resolve_left hz
      split
      rotate_left
      · rename_i hd
        exact absurd (show (!false && (!t.plain && decide (es.size > 1))) = true by rw [hplain]; simp; omega) (show ¬ ((!false && (!t.plain && decide (es.size > 1))) = true) from hd)
      refine wpAny_bind (wpAny_drawOrder es.size (List.range es.size) s _ (by simp) fun ys dr hp => ?_)
      have hyl : ys.length = es.size := by simpa using hp.length_eq
      refine wpAny_bind (wpAny_newTuple ?_ (by rw [List.length_map, hyl]; exact Nat.le_trans hz4 (by decide)))
      have hTo := Heap.get?_push_size s.heap (o := { cls := .type "tuple", data := .seq (ys.map fun (i : Nat) => rawInt i).toArray }) rfl
      have hTn : (s.heap.push { cls := .type "tuple", data := .seq (ys.map fun (i : Nat) => rawInt i).toArray }).objs.size = s.heap.objs.size + 1 := Heap.size_push ..
      have hsn1 : s.heap.get? (s.heap.objs.size + 1) = none := get?_none_of_le (Nat.le_succ _)
      have hne1 : a ≠ s.heap.objs.size + 1 := fun q => by rw [q, hsn1] at ho; cases ho
      refine made _ _ _ (Heap.get?_push_of_some _ ho) ?_
      show ∃ (l' : List PV) (own : Rgn) (gn : Nat → Prop) (J : Nat → Shared → Prop), _
      rw [hTn]
      let order : List Value := ys.map fun k => (es[k]?.map (·.2)).getD .none
      have hord : order.Perm (es.toList.map (·.2)) := by
        have e1 : (List.range es.size).map (fun k => (es[k]?.map (·.2)).getD .none) = es.toList.map (·.2) := by
          apply List.ext_getElem? ; intro j
          have ej : es.toList[j]? = es[j]? := Array.getElem?_toList
          rw [List.getElem?_map, List.getElem?_map, ej]
          by_cases hj : j < es.size
          · rw [List.getElem?_range hj, Array.getElem?_eq_getElem hj]; simp [hj]
          · rw [List.getElem?_eq_none (by simp; omega), Array.getElem?_eq_none (by omega)]; rfl
        rw [← e1]
        exact hp.map _
      obtain ⟨l', hpl', hv'⟩ := Vals.perm hord hv
      have hlen : order.length = es.size := by simp [order, hyl]
      have keep2 : ∀ b o, s.heap.get? b = some o → ((s.heap.push { cls := .type "tuple", data := .seq (ys.map fun (i : Nat) => rawInt i).toArray }).push (sitO (.ref s.heap.objs.size) 0 0 (.ref a) es.size ep)).get? b = some o := fun b o e => Heap.get?_push_of_some _ (Heap.get?_push_of_some _ e)
      have hit : ((s.heap.push { cls := .type "tuple", data := .seq (ys.map fun (i : Nat) => rawInt i).toArray }).push (sitO (.ref s.heap.objs.size) 0 0 (.ref a) es.size ep)).get? (s.heap.objs.size + 1) = some (sitO (.ref s.heap.objs.size) 0 0 (.ref a) es.size ep) := by
        have := Heap.get?_push_size (s.heap.push { cls := .type "tuple", data := .seq (ys.map fun (i : Nat) => rawInt i).toArray }) (o := sitO (.ref s.heap.objs.size) 0 0 (.ref a) es.size ep) rfl
        rw [hTn] at this; exact this
      have hTo2 : ((s.heap.push { cls := .type "tuple", data := .seq (ys.map fun (i : Nat) => rawInt i).toArray }).push (sitO (.ref s.heap.objs.size) 0 0 (.ref a) es.size ep)).get? s.heap.objs.size = some (seqO tTuple (ys.map fun (i : Nat) => rawInt i).toArray 0) := Heap.get?_push_of_some _ hTo
      have hpl2 : ∀ (i : Nat) v, (ys.map fun (i : Nat) => rawInt i).toArray[i]? = some v → ∃ k : Nat, v = rawInt k ∧ k < es.size ∧ ys[i]? = some k := fun i v e => by
        rw [List.getElem?_toArray, List.getElem?_map] at e
        cases hy : ys[i]? with
        | none => rw [hy] at e; cases e
        | some k =>
          rw [hy] at e
          cases e
          have := hp.mem_iff.mp (List.mem_of_getElem? hy)
          exact ⟨k, rfl, by simpa using this, rfl⟩
      refine ⟨l', (fun b => b = s.heap.objs.size + 1 ∨ b = s.heap.objs.size), (fun _ => False), _, hpl', Itr.set (order := order) (own := fun b => b = s.heap.objs.size + 1 ∨ b = s.heap.objs.size) (l := l') (a := a) (it := s.heap.objs.size + 1)
        (St := fun i h => h.get? (s.heap.objs.size + 1) = some (sitO (.ref s.heap.objs.size) i 0 (.ref a) es.size ep) ∧ h.get? s.heap.objs.size = some (seqO tTuple (ys.map fun (i : Nat) => rawInt i).toArray 0))
        ?_ ?_ (fun w => w.elim hne1 hne) hf hlen (fun i h h' h1 hk => ⟨hk _ _ (.inl rfl) h1.1, hk _ _ (.inr rfl) h1.2⟩) (.inl rfl) (fun i h h1 b w => ?_) (fun i h h1 => ⟨_, h1.1, rfl⟩)
        (fun A E s' Q i v hA hv2 ho' h1 k => sit_drawn hA h1.1 ho' hf h1.2 (fun v e => (hpl2 i v e).elim fun k h => ⟨k, h.1, h.2.1⟩) (fun kk x h' hpk hx hs hi => ?_) (fun h' hpn _ => ?_))
        (fun A E s' Q hA ho' h1 k => sit_drawn hA h1.1 ho' hf h1.2 (fun v e => (hpl2 _ v e).elim fun k h => ⟨k, h.1, h.2.1⟩) (fun kk x h' hpk hx hs hi => ?_) (fun h' hpn he => k h' fun b o n e => he b o (fun w => n (.inl w)) e)), ⟨⟨hit, hTo2⟩, keep2 _ _ ho, ?_⟩, ⟨fun b o _ e => keep2 b o e, rfl, fun _ _ _ e => e, fun _ _ e => .inr (.inl e)⟩, fun b w => ?_, fun i w => w.elim, _, _, rfl, .inl rfl, hit, rfl⟩
      · rintro (w | w)
        · exact ha w
        · cases w.symm.trans (keep2 _ _ ho)
      · rintro b (rfl | rfl)
        · refine ⟨?_, none_of_keep (H.keep _) hsn1⟩
          rintro (w | w)
          · obtain ⟨o, e⟩ := H.bnd _ w; rw [hsn1] at e; cases e
          · cases w.symm.trans hit
        · refine ⟨?_, h0⟩
          rintro (w | w)
          · exact hnV w
          · cases w.symm.trans hTo2
      · rcases w with w | w
        · exact ⟨_, w ▸ h1.1⟩
        · exact ⟨_, w ▸ h1.2⟩
      · obtain ⟨k', e1, hk', hy⟩ := hpl2 i _ hpk
        have e2 : kk = k' := by have := e1; simp [rawInt] at this; omega
        subst e2
        have e3 : order[i]? = some x.2 := by
          show (ys.map fun k => (es[k]?.map (·.2)).getD .none)[i]? = _
          rw [List.getElem?_map, hy, Option.map_some, hx]; rfl
        rw [e3] at hv2
        cases hv2
        refine k h' (fun b o n e => (hs.2 b fun w => n (.inl w)).trans e) ⟨by push_cast; simpa using hi, (hs.2 _ (Nat.ne_of_lt (Nat.lt_succ_self _))).trans h1.2⟩
      · exfalso
        have hy : ys[i]? = none := by
          rw [List.getElem?_toArray, List.getElem?_map] at hpn
          cases hy : ys[i]? with
          | none => rfl
          | some k => rw [hy] at hpn; cases hpn
        have e3 : order[i]? = none := by
          show (ys.map fun k => (es[k]?.map (·.2)).getD .none)[i]? = _
          rw [List.getElem?_map, hy]; rfl
        rw [e3] at hv2; cases hv2
      · exfalso
        rw [List.getElem?_toArray, List.getElem?_eq_none (by simp [order])] at hpk
        cases hpk
      · refine (hv'.grow fun x w => ?_).keeps fun x o _ e => keep2 x o e
        rcases w with (w | w) | w | w
        · exact .inl w
        · exact .inr (none_of_keep (fun o e => keep2 x o e) w)
        · exact .inr (w ▸ hsn1)
        · exact .inr (w ▸ hsn)
      · rcases w with w | w
        · exact w ▸ hsn1
        · exact w ▸ hsn
end
end Mine
namespace Mine
open PySem PySem.W PySem.Calls PyProof.Rows

theorem orStandIn_led (t : SetTable) (n : Nat) : (t.orStandIn n).led = t.led ∧ (t.plain = false → (t.orStandIn n).plain = false) := by
  unfold SetTable.orStandIn
  split
  · exact ⟨rfl, fun q => q⟩
  · exact ⟨rfl, fun _ => rfl⟩
theorem layNew_led (t : SetTable) (es : Array (Int × Value)) (h : Int) (x : Value) : (layNew t es h x).2.1.led = t.led ∧ (t.plain = false → (layNew t es h x).2.1.plain = false) := by
  unfold layNew
  split
  · rename_i slot wasDummy _
    have := orStandIn_led (t.put slot).1 (SetTable.insertAt es (t.put slot).2 (h, x)).size
    exact ⟨this.1, fun q => this.2 q⟩
  · exact ⟨rfl, fun _ => rfl⟩
theorem relayAll_led (t : SetTable) (es : Array (Int × Value)) (w : Nat) : (relayAll t es w).2.1.led = t.led ∧ (t.plain = false → (relayAll t es w).2.1.plain = false) := by
  unfold relayAll
  split
  · rename_i t' order hr
    dsimp only
    split
    · have : t'.led = t.led ∧ t'.plain = t.plain := by
        unfold SetTable.relaid SetTable.laid at hr
        cases hl : SetTable.layClean (SetTable.sizeAbove w - 1) (es.map (·.1)) with
        | none => rw [hl] at hr; cases hr
        | some owner => rw [hl] at hr; cases hr; exact ⟨rfl, rfl⟩
      exact ⟨this.1, fun q => this.2.trans q⟩
    · exact ⟨rfl, fun _ => rfl⟩
  · exact ⟨rfl, fun _ => rfl⟩

structure SetWell (P : Params) (h : Heap) (a : Addr) (es : Array (Int × Value)) : Prop where
  ex : ∃ ep t, h.get? a = some (setO es ep t) ∧ t.fits es.size = true ∧ t.led = (!P.followText "set-order") ∧ (es.size = 0 ∨ t.plain = false)

theorem upd_set {h : Heap} {a : Addr} {es es' : Array (Int × Value)} {ep : Nat} {t t' : SetTable} (ho : h.get? a = some (setO es ep t)) : (h.update a (Obj.putSet es' t')).get? a = some (setO es' (ep + 1) t') :=
  Heap.get?_update_self (Obj.putSet es' t') ho rfl

section
variable {X : Wd} {A : Around} {E : Value → Shared → Prop} {s : Shared} {a : Addr}
abbrev sk (X : Wd) := strKind X.prog X.w

theorem set_add_str {es : Array (Int × Value)} {x : Str} {u : Tok} {Q : Bool → Shared → Prop} (hw : SetWell X.P s.heap a es) (hel : ElemsOf (sk X) es.toList) (hz : es.size + 1 < scanBound)
    (h : ∀ h' tk es', Heap.SameBut a s.heap h' → SetWell X.P h' a es' → ElemsOf (sk X) es'.toList → ((∃ e ∈ es.toList, (sk X).is x e.2 = true) ∧ es' = es ∨ (¬ ∃ e ∈ es.toList, (sk X).is x e.2 = true) ∧ es'.toList.Perm (es.toList ++ [((sk X).hash x, .str x u)])) →
      ∀ b, Q b { s with heap := h', toks := tk }) : wpAny X.mo A (setAdd a (.str x u)) Q E s := by
  obtain ⟨ep, t, ho, hf, hled, hpl⟩ := hw
  have hkey : (sk X).is x (.str x u) = true := by show Value.isStrOf x (.str x u) = true; simp [Value.isStrOf]
  unfold setAdd
  refine wpAny_holding (wpAny_bind ((sk X).pyHash (k := x) hkey ?_))
  unfold setAddHashed setAddHashedIn
  refine wpAny_holding (wpAny_bind (set_state (s := { s with toks := s.toks + 1 }) ho hf ?_))
  dsimp only
  rw [byScan_of rfl (by omega) hel]
  simp only [↓reduceIte]
  unfold setAddByScan
  refine wpAny_bind ?_
  refine wpAny_bind (wpAny_rule ?_)
  refine wpAny_bind (wpAny_setScan_of (s := { s with toks := s.toks + 1 }) hkey ho rfl hf hel ?_)
  cases hr : List.findIdx? (fun e => (sk X).is x e.2) es.toList with
  | some j =>
    obtain ⟨hj, hpj, _⟩ := List.findIdx?_eq_some_iff_getElem.mp hr
    exact wpAny_pure (wpAny_pure (h s.heap _ es (Heap.SameBut.refl _ _) ⟨ep, t, ho, hf, hled, hpl⟩ hel (.inl ⟨⟨_, List.getElem_mem hj, hpj⟩, rfl⟩) _))
  | none =>
    dsimp only
    have hno : ¬ ∃ e ∈ es.toList, (sk X).is x e.2 = true := fun ⟨e, he, hp⟩ => by
      have := List.findIdx?_eq_none_iff.mp hr e he
      rw [hp] at this; cases this
    have hgw : ∀ (b : Bool) {s₁ : Shared} {Q' : Unit → Shared → Prop}, Q' () s₁ → wpAny X.mo A (match b with | true => rule "set.scan.the-table-gave-way" | false => pure ()) Q' E s₁ :=
      fun b s₁ Q' hq => by cases b <;> first | exact wpAny_pure hq | exact wpAny_rule hq
    have hperm := layNew_perm t es ((sk X).hash x) (.str x u)
    have hfits := layNew_fits t es ((sk X).hash x) (.str x u)
    have hll := layNew_led t es ((sk X).hash x) (.str x u)
    generalize layNew t es ((sk X).hash x) (.str x u) = L at hperm hfits hll ⊢
    obtain ⟨es1, t1, wasDummy, gave⟩ := L
    dsimp only at hperm hfits hll ⊢
    rw [Array.toList_push] at hperm
    have hel1 : ElemsOf (sk X) es1.toList := (hel.push hkey rfl).perm hperm
    have hsz1 : es1.size = es.size + 1 := by rw [← Array.length_toList, hperm.length_eq, List.length_append, Array.length_toList]; rfl
    refine wpAny_bind (hgw _ ?_)
    have tail : ∀ t2 : SetTable, t2.fits es1.size = true → t2.led = t.led → t2.plain = false → wpAny X.mo A (do
        storeSet a es1 t2
        if (!wasDummy && t2.tooFull) = true then do
            (match (relayAll t2 es1 (SetTable.grown es1.size)).2.2 with | true => rule "set.scan.the-table-gave-way" | false => pure ())
            storeSet a (relayAll t2 es1 (SetTable.grown es1.size)).1 (relayAll t2 es1 (SetTable.grown es1.size)).2.1
            pure (some true)
          else pure (some true)) (fun r s' => ∃ b, r = some b ∧ Q b s') E { s with toks := s.toks + 1 } := fun t2 hf2 hl2 hp2 => by
      refine wpAny_bind (wpAny_storeSet_of (s := { s with toks := s.toks + 1 }) ho rfl ?_ (by rw [hsz1]; exact Nat.le_trans (Nat.le_of_lt hz) (by decide)))
      have ho1 := upd_set (es' := es1) (t' := t2) ho
      have hs1 := Heap.SameBut.update s.heap a (Obj.putSet es1 t2)
      split
      · have hp := relayAll_perm t2 es1 (SetTable.grown es1.size)
        have hfr := relayAll_fits t2 es1 (SetTable.grown es1.size)
        have hlr := relayAll_led t2 es1 (SetTable.grown es1.size)
        generalize relayAll t2 es1 (SetTable.grown es1.size) = Rl at hp hfr hlr ⊢
        obtain ⟨es2, t3, gave2⟩ := Rl
        dsimp only at hp hfr hlr ⊢
        have hsz : es2.size = es1.size := by rw [← Array.length_toList, hp.length_eq, Array.length_toList]
        refine wpAny_bind (hgw _ (wpAny_bind (wpAny_storeSet_of (o := setO es1 (ep + 1) t2) ho1 rfl ?_ (by rw [hsz, hsz1]; exact Nat.le_trans (Nat.le_of_lt hz) (by decide)))))
        exact wpAny_pure ⟨_, rfl, h _ _ es2 (hs1.trans (Heap.SameBut.update _ a _)) ⟨_, t3, upd_set ho1, hfr, hlr.1.trans (hl2.trans hled), .inr (hlr.2 hp2)⟩ (hel1.perm hp) (.inr ⟨hno, hp.trans hperm⟩) _⟩
      · exact wpAny_pure ⟨_, rfl, h _ _ es1 hs1 ⟨_, t2, ho1, hf2, hl2.trans hled, .inr hp2⟩ hel1 (.inr ⟨hno, hperm⟩) _⟩
    have fin : ∀ t2 : SetTable, t2.fits es1.size = true → t2.led = t.led → t2.plain = false → wpAny X.mo A (do
        storeSet a es1 t2
        if (!wasDummy && t2.tooFull) = true then do
            (match (relayAll t2 es1 (SetTable.grown es1.size)).2.2 with | true => rule "set.scan.the-table-gave-way" | false => pure ())
            storeSet a (relayAll t2 es1 (SetTable.grown es1.size)).1 (relayAll t2 es1 (SetTable.grown es1.size)).2.1
            pure (some true)
          else pure (some true)) (fun r s' => wpAny X.mo A (match r with | some added => pure added | none => setAddHashedIn a (.str x u) ((sk X).hash x) 99999) Q E s') E { s with toks := s.toks + 1 } := fun t2 a1 a2 a3 =>
      wpAny_mono (tail t2 a1 a2 a3) (fun r s' ⟨b, e, q⟩ => by subst e; exact wpAny_pure q) fun _ _ x => x
    split
    · refine wpAny_bind ?_
      rw [hashByValue_scannable 8 rfl]
      refine wpAny_pure ?_
      exact fin _ (SetTable.fits_plain_off hfits) hll.1 rfl
    · rename_i hpn
      refine wpAny_bind (wpAny_pure ?_)
      simp only [↓reduceIte]
      have hpf : t1.plain = false := by simpa using hpn
      exact fin t1 hfits hll.1 hpf
end
end Mine
namespace Mine
open PySem PySem.W PySem.Calls PyProof.Rows

section
variable {prog : Program} {w : World} {A : Around} {E : Value → Shared → Prop} {s : Shared}

theorem set_new_led (a : Value) {Q₁ : Value → Shared → Prop}
    (h : Q₁ (.ref s.heap.objs.size) { s with heap := s.heap.push { cls := .type "set", dict := none, data := .set #[] 0 (.fresh 0 0 (!w.params.followText "set-order")) } }) :
    codeAny (model prog w) A (.call (.builtin "set.__new__") ⟨[.type "set", a], []⟩) (wants Q₁ E) s := by
  refine codeAny_of_tree ?_
  show wpAny _ A.in1 (do checkBuiltinCall "set.__new__" ⟨[.type "set", a], []⟩; again (.builtin "set.__new__" ⟨[.type "set", a], []⟩)) _ _ s
  refine wpAny_bind (wpAny_of_eq (F.newCall_set_1 a) (wpAny_pure ⟨plainId_quiet F.plain_set_new _, codeAny_builtin F.entry_set_new ?_⟩))
  rw [Around.under_plainId F.plain_set_new _]
  unfold Builtin.«set.__new__» Builtin.Frozenset.newClass
  have hsub := sub_set_self
  obtain ⟨hp, g, d, tk, os⟩ := s
  dsimp only
  wp_walk
  refine wpAny_askSetting (wpAny_pure ?_)
  dsimp only
  simp only [newObj]
  refine wpAny_bind (wpAny_alloc (wpAny_pure ?_))
  exact wpAny_pure h

set_option maxHeartbeats 3200000 in
/-- set(list), down to the loop that adds -/
theorem set_of_list {l : Addr} {items : Array Value} {nl : Nat} {Q : Value → Shared → Prop} (hol : s.heap.get? l = some (seqO tList items nl))
    (T : Shared → Prop)
    (loop : ∀ (s₁ : Shared), s₁ = { s with heap := (s.heap.push (setO #[] 0 (.fresh 0 0 (!w.params.followText "set-order")))).push { cls := .type "list_iterator", data := .fields #[.ref l, .int 0 0] } } →
      ∀ A' : Around, A'.handled = A.handled → A'.depth = A.depth → A'.units ≤ A.units + 5 → codeAny (model prog w) A' (.builtin "set.update.loop" ⟨[.ref s.heap.objs.size, .ref (s.heap.objs.size + 1)], []⟩) (fun r s' => r = .ok (.ret .none) ∧ T s') s₁)
    (h : ∀ s', T s' → Q (.ref s.heap.objs.size) s') :
    wpAny (model prog w) A (call (.type "set") [.ref l]) Q E s := by
  obtain ⟨c, tl, hmro⟩ := F.called_set.mro
  have hmade := F.called_set.made
  have hsub := F.called_set.sub
  refine wpAny_call (codeAny_of_tree ?_)
  show wpAny _ _ (callAny (.type "set") _) _ _ _
  refine wpAny_pure ⟨Code.quiet_builtin _ (by decide +kernel), codeAny_builtin F.entry_type_call ?_⟩
  rw [Around.under_plain (weight_type_call_type "set" [.ref l] []) rfl]
  have h1 := F.called_set.notType
  have h2 := F.called_set.canCreate
  have hct := F.typeCall_set_1 (.ref l)
  repeat (any_goals (first | assumption | wp_step))
  refine codeAny_mono (set_new_led (.ref l) (E := E) (Q₁ := fun obj s₁ => obj = .ref s.heap.objs.size ∧ s₁ = { s with heap := s.heap.push (setO #[] 0 (.fresh 0 0 (!w.params.followText "set-order"))) }) ⟨rfl, rfl⟩) fun r s₁ hr => ?_
  cases r with
  | error e => exact hr
  | ok fl =>
    cases fl with
    | ret obj =>
      obtain ⟨rfl, rfl⟩ := hr
      have hS : (s.heap.push (setO #[] 0 (.fresh 0 0 (!w.params.followText "set-order")))).get? s.heap.objs.size = some (setO #[] 0 (.fresh 0 0 (!w.params.followText "set-order"))) := Heap.get?_push_size _ rfl
      have hT : Shared.TypeIs { s with heap := s.heap.push (setO #[] 0 (.fresh 0 0 (!w.params.followText "set-order"))) } (.ref s.heap.objs.size) "set" := ⟨_, hS, rfl⟩
      have hli := F.called_set.init.lookup
      have hbi := F.called_set.init.bind (.ref s.heap.objs.size)
      repeat (any_goals (first | assumption | wp_step))
      refine codeAny_mono (codeAny_call_builtin (R := wants (fun r s₂ => r = .none ∧ T s₂) E) F.called_set.init.plain F.entry_set_init (check_set_init_1 hT ?_)) fun r₂ s₂ hr₂ => ?_
      · have hol' : (s.heap.push (setO #[] 0 (.fresh 0 0 (!w.params.followText "set-order")))).get? l = some (seqO tList items nl) := Heap.get?_push_of_some _ hol
        have hsls := F.sub_list_set
        have hslf := F.sub_list_frozenset
        have hne : (Value.type "list" == Value.type "dict") = false := by decide
        have hl1 : (s.heap.push (setO #[] 0 (.fresh 0 0 (!w.params.followText "set-order")))).IsList l items := Heap.IsList.of hol'
        unfold Builtin.«set.__init__» noKeywords Builtin.Frozenset.updateFrom
        generalize hPI : pyIter = PI
        wp_walk
        subst hPI
        refine wpAny_pyIter_list hl1 ?_
        refine wpAny_bind (wpAny_runValue ?_)
        have hsz : (s.heap.push (setO #[] 0 (.fresh 0 0 (!w.params.followText "set-order")))).objs.size = s.heap.objs.size + 1 := Heap.size_push ..
        rw [hsz]
        refine codeAny_mono (loop _ rfl _ (by simp) (by simp) ?_) fun r s' hr => ?_
        · simp only [Around.in1_units]; omega
        · obtain ⟨rfl, hT'⟩ := hr
          show wpAny _ _ _ _ _ _
          refine wpAny_pure ?_
          show wpAny _ _ (ret Value.none) _ _ _
          exact wpAny_pure ⟨rfl, hT'⟩
      · cases r₂ with
        | error e => exact hr₂
        | ok fl₂ =>
          cases fl₂ with
          | ret r =>
            obtain ⟨rfl, hT'⟩ := hr₂
            repeat (any_goals (first | assumption | wp_step))
            exact h _ hT'
          | _ => exact hr₂.elim
    | _ => exact hr.elim
end
end Mine
namespace Mine
open PySem PySem.W PySem.Calls PyProof.Rows

theorem if_true_ {α : Type} {M : Model} {A : Around} {E : Value → Shared → Prop} {s : Shared} {c : Prop} [Decidable c] {a b : Sem α} {Q : α → Shared → Prop} (hc : c) (h : wpAny M A a Q E s) : wpAny M A (if c then a else b) Q E s := by rw [if_pos hc]; exact h

section
variable {X : Wd} {A : Around} {E : Value → Shared → Prop} {s : Shared}

/-- list.extend's loop, over any walker without generators -/
theorem extend_loop {A₀ : Around} {F₀ own' : Rgn} {it : Value} {l : List PV} {J : Nat → Shared → Prop} {D : Addr} {V : Rgn} {res : Value} (itr : Itr X A₀ F₀ own' (fun _ => False) .seq it l J) (hA : AOk A 5) (hDF : F₀ D) (hVF : ∀ b, V b → F₀ b ∨ own' b) (how : ∀ b, own' b → V b) (hVD : V D) (hz : l.length ≤ 4096) :
    ∀ (k i : Nat) (s : Shared) (R : Result → Shared → Prop) (vs : Array Value) (n : Nat), l.length - i = k → i ≤ l.length → Hp X V s → J i s → s.heap.get? D = some (seqO tList vs n) → Vals X.P V s.heap (l.take i) vs.toList →
      (∀ s' vs' n', Step (fun b => b = D ∨ own' b) s s' → s'.heap.get? D = some (seqO tList vs' n') → Vals X.P V s'.heap l vs'.toList → R (.ok (.ret res)) s') →
      codeAny X.mo A (.builtin "list.extend.loop" ⟨[.ref D, it, res], []⟩) R s := by
  intro k
  have hDo : ¬ own' D := fun w => (itr.out D w).1 hDF
  induction k with
  | zero =>
    intro i s R vs n hk hi H hJ ho hv hR
    have hi' : i = l.length := by omega
    subst hi'
    refine codeAny_builtin F.entry_extend_loop ?_
    rw [Around.under_plainId F.plain_extend_loop _]
    show wpAny _ A.in1 (pyNext it >>= _) _ _ s
    refine wpAny_bind (itr.done _ _ s _ hA.in1 (fun h => nomatch h) H.keep hJ fun s' st _ => wpAny_pure ?_)
    have stp : Step own' s s' := st.step
    rw [List.take_length] at hv
    exact hR s' vs n (stp.mono fun b w => .inr w) (stp.keep D _ hDo ho) (hv.step stp how)
  | succ k ih =>
    intro i s R vs n hk hi H hJ ho hv hR
    have hlt : i < l.length := by omega
    have hd : l[i]? = some l[i] := List.getElem?_eq_getElem hlt
    refine codeAny_builtin F.entry_extend_loop ?_
    rw [Around.under_plainId F.plain_extend_loop _]
    show wpAny _ A.in1 (pyNext it >>= _) _ _ s
    refine wpAny_bind (itr.next _ _ s _ i _ V hA.in1 (fun h => nomatch h) hd H.keep hVF H.bnd hJ fun v s₁ st₁ hval hJ₁ _ => ?_)
    have hJ₁ := hJ₁ (by decide)
    have stp : Step own' s s₁ := st₁.step
    have ho₁ := stp.keep D _ hDo ho
    have hvl := hv.length
    show wpAny _ A.in1 (updateSeq D (·.push v) >>= _) _ _ _
    refine wpAny_bind (wpAny_updateSeq ho₁ rfl (wpAny_pure ⟨plainId_quiet F.plain_extend_loop _, ?_⟩) (by
      have : vs.size ≤ 4096 := by simp at hvl; omega
      exact Nat.le_trans this (by decide)) (by
      have : (vs.push v).size ≤ 4097 := by rw [Array.size_push]; simp at hvl; omega
      exact Nat.le_trans this (by decide)))
    have hs := Heap.SameBut.update s₁.heap D (Obj.mapSeq (·.push v))
    have st₂ : Step (fun b => b = D) s₁ { s₁ with heap := s₁.heap.update D (Obj.mapSeq (·.push v)) } := Step.same (t := s₁.toks) hs rfl
    have ho₂ := Heap.get?_update_self (Obj.mapSeq (·.push v)) ho₁ rfl
    have H₂ : Hp X V { s₁ with heap := s₁.heap.update D (Obj.mapSeq (·.push v)) } := ⟨fun b o e => by
        have hnV : ¬ V b := fun w => by rw [H.low b w] at e; cases e
        exact st₂.keep b o (fun w => hnV (w ▸ hVD)) (stp.keep b o (fun w => hnV (how b w)) (H.keep b o e)), fun b w => by
        by_cases hb : b = D
        · subst hb; exact ⟨_, ho₂⟩
        by_cases hb' : own' b
        · obtain ⟨o, e⟩ := itr.here _ _ hJ₁ b hb'; exact ⟨o, st₂.keep b o hb e⟩
        · obtain ⟨o, e⟩ := H.bnd b w; exact ⟨o, st₂.keep b o hb (stp.keep b o hb' e)⟩, H.low⟩
    refine ih (i + 1) _ R _ _ (by omega) hlt H₂ (itr.frame _ _ _ (fun b => b = D) (fun b w => w ▸ hDF) hJ₁ st₂) ho₂ ?_ fun s' vs' n' st' ho' hv' => ?_
    · rw [Array.toList_push, List.take_add_one, hd]
      exact (((hv.step stp how).snoc hval).step st₂ fun b w => w ▸ hVD)
    · exact hR s' vs' n' (((stp.mono fun b w => .inr w).trans (st₂.mono fun b w => .inl w)).trans st') ho' hv'

/-- a set, brought into a list -/
theorem collect_set {a : Addr} {es : Array (Int × Value)} {V : Rgn} {l : List PV} {Q : List Value → Shared → Prop} (hA : AOk A 8) (H : Hp X V s) (ha : ¬ V a) (hw : SetWell X.P s.heap a es) (hz : es.size ≤ 4096) (hv : Vals X.P V s.heap l (es.toList.map (·.2)))
    (hQ : ∀ s' vs l', Step None s s' → l'.Perm l → Vals X.P V s'.heap l' vs → Q vs s') : wpAny X.mo A (collect (.ref a)) Q E s := by
  obtain ⟨ep, t, ho, hf, hled, hpl⟩ := hw
  have hln : l.length = es.size := by have := hv.length; simpa using this
  have hsn : s.heap.get? s.heap.objs.size = none := get?_size _
  generalize hD : s.heap.objs.size = D at hsn
  unfold collect
  refine wpAny_bind (wpAny_runValue (codeAny_builtin F.entry_proto_collect ?_))
  rw [Around.under_plainId F.plain_proto_collect _]
  show wpAny _ A.in1 (newList [] >>= fun l => again (.builtin "list.__iadd__" ⟨[l, .ref a], []⟩)) _ _ s
  refine wpAny_bind (wpAny_newObj_type ?_)
  rw [hD]
  refine wpAny_pure ⟨plainId_quiet F.plain_list_iadd _, codeAny_builtin F.entry_list_iadd ?_⟩
  rw [Around.under_plainId F.plain_list_iadd _]
  have hne : a ≠ D := fun e => by rw [e, hsn] at ho; cases ho
  have h1 : Builtin.List.listSameRef (.ref D) (.ref a) = false := by simp [Builtin.List.listSameRef, Ne.symm hne]
  have st₁ : Step None s { s with heap := s.heap.push { cls := .type "list", data := .seq ([] : List Value).toArray } } := Step.push _ (t := s.toks)
  have hS₁ : (s.heap.push { cls := .type "list", data := .seq ([] : List Value).toArray }).get? D = some (seqO tList #[] 0) := by rw [← hD]; exact Heap.get?_push_size _ rfl
  have ho₁ := st₁.kp _ _ ho
  show wpAny _ A.in1 (Builtin.List.listExtendWith (.ref D) (.ref a) (.ref D)) _ _ _
  unfold Builtin.List.listExtendWith
  refine wpAny_bind (wpAny_typeOf (T := "set") ⟨_, ho₁, rfl⟩ ?_)
  rw [if_neg (by rw [h1]; decide)]
  have hVD : ¬ V D := fun w => by obtain ⟨o, e⟩ := H.bnd D w; rw [hsn] at e; cases e
  -- the region with the new list in it
  have H₁ : Hp X (fun b => V b ∨ b = D) { s with heap := s.heap.push { cls := .type "list", data := .seq ([] : List Value).toArray } } :=
    ⟨(H.stepN st₁).keep, fun b w => w.elim ((H.stepN st₁).bnd b) fun w => ⟨_, w ▸ hS₁⟩, fun b w => w.elim (H.low b) fun w => w ▸ none_of_keep (H.keep D) hsn⟩
  have hv₁ : Vals X.P (fun b => V b ∨ b = D) (s.heap.push { cls := .type "list", data := .seq ([] : List Value).toArray }) l (es.toList.map (·.2)) := (hv.grow fun b w => w.imp id fun (w : b = D) => w ▸ hsn).keeps fun b o _ e => st₁.kp b o e
  refine wpAny_bind (wpAny_mono (pyIter_set hA.in1.handled H₁ (fun w => w.elim ha hne) ho₁ hf hled (hpl.imp (fun e => by omega) id) hz hv₁) (fun it s₂ h₂ => ?_) fun _ _ x => x)
  obtain ⟨l', own', gn, J, hp, itr, hJ, st₂, hown, hgn, r, o, rfl, hro, hr, hrc⟩ := h₂
  have hr_ne : ∀ b o, s.heap.get? b = some o → ¬ own' b := fun b o e w => by
    have := hown b w
    rw [st₁.kp b o e] at this; cases this
  have ho₂ := st₂.keep a _ (fun h => h) ho₁
  have hS₂ := st₂.keep D _ (fun h => h) hS₁
  have hT₂ : s₂.TypeIs (.ref a) "set" := ⟨_, ho₂, rfl⟩
  refine wpAny_bind (wpAny_holding ?_)
  unfold Builtin.List.listLengthHint
  refine wpAny_bind (wpAny_specialOf hT₂ F.slot_set_len.lookup ?_)
  dsimp only
  rw [show splitId "set.__len__" = some ("set", "__len__") by decide +kernel]
  dsimp only
  refine wpAny_bind (wpAny_isInstance (b := true) hT₂ sub_set_self ?_)
  rw [if_neg (by decide)]
  refine if_true_ (by decide +kernel) ?_
  refine wpAny_bind (wpAny_typeOf hT₂ (wpAny_pure ?_))
  refine if_true_ (by decide +kernel) ?_
  refine wpAny_bind (wpAny_rule (wpAny_bind ?_))
  show wpAny _ A.in1 (updateSeq D (·.push .none) >>= fun _ => updateSeq D (·.pop)) _ _ _
  refine wpAny_bind (wpAny_updateSeq hS₂ rfl ?_ (by decide) (by decide))
  have hS₃ := Heap.get?_update_self (Obj.mapSeq (·.push Value.none)) hS₂ rfl
  refine wpAny_updateSeq hS₃ rfl ?_ (by decide) (by decide)
  have hS₄ := Heap.get?_update_self (Obj.mapSeq (·.pop)) hS₃ rfl
  have st₄ : Step (fun b => b = D) s₂ { s₂ with heap := (s₂.heap.update D (Obj.mapSeq (·.push Value.none))).update D (Obj.mapSeq (·.pop)) } := Step.same (t := s₂.toks) ((Heap.SameBut.update _ D _).trans (Heap.SameBut.update _ D _)) rfl
  have hVF : ∀ b, (V b ∨ b = D) ∨ own' b → ((V b ∨ b = D) ∨ s₂.heap.get? b = none) ∨ own' b := fun b w => w.imp .inl id
  have H₂ : Hp X (fun b => (V b ∨ b = D) ∨ own' b) { s₂ with heap := (s₂.heap.update D (Obj.mapSeq (·.push Value.none))).update D (Obj.mapSeq (·.pop)) } :=
    ⟨fun b o e => st₄.keep b o (fun w => by have := H₁.low b (.inr w); rw [this] at e; cases e) (st₂.keep b o (fun h => h) (H₁.keep b o e)), fun b w => by
      by_cases hb : b = D
      · subst hb; exact ⟨_, hS₄⟩
      · rcases w with w | w
        · obtain ⟨o, e⟩ := H₁.bnd b w; exact ⟨o, st₄.keep b o hb (st₂.keep b o (fun h => h) e)⟩
        · obtain ⟨o, e⟩ := itr.here 0 s₂ hJ b w; exact ⟨o, st₄.keep b o hb e⟩, fun b w => w.elim (H₁.low b) fun w => (itr.out b w).2⟩
  have hgn0 : gn = fun _ => False := funext fun i => propext ⟨fun w => itr.nog (by decide) i w, fun w => w.elim⟩
  subst hgn0
  have hll : l'.length ≤ 4096 := by rw [hp.length_eq, hln]; exact hz
  refine wpAny_pure ⟨plainId_quiet F.plain_extend_loop _, extend_loop itr (hA.mono (by decide)) (.inl (.inr rfl)) hVF (fun b w => .inr w) (.inl (.inr rfl)) hll l'.length 0 _ _ _ _ rfl (Nat.zero_le _) H₂ (itr.frame 0 _ _ _ (fun b w => .inl (.inr w)) hJ st₄) hS₄ (by simp) fun s₅ vs n st₅ ho₅ hv₅ => ?_⟩
  show wpAny _ A (load D >>= _) _ _ s₅
  refine wpAny_bind (wpAny_load ho₅ (wpAny_pure ?_))
  refine hQ s₅ vs.toList l' ?_ hp (hv₅.less fun b w => .inl (.inl w))
  have stall : Step (fun b => b = D ∨ own' b) s s₅ := (((st₁.all _).trans (st₂.step.all _)).trans (st₄.mono fun b w => .inl w)).trans st₅
  refine stall.old fun b w => .inr ?_
  rcases w with w | w
  · exact w ▸ hsn
  · exact none_of_keep (fun o e => st₁.kp b o e) (hown b w)
end
end Mine
namespace Mine
open PySem PySem.W PySem.Calls PyProof.Rows

section
variable {X : Wd} {A : Around} {E : Value → Shared → Prop} {s : Shared}

/-- the set of the strs met so far -/
structure StrSet (X : Wd) (h : Heap) (S : Addr) (es : Array (Int × Value)) (l : List PV) : Prop where
  well : SetWell X.P h S es
  el : ElemsOf (sk X) es.toList
  nd : es.toList.Pairwise fun e f => ∀ x, (sk X).is x e.2 = true → (sk X).is x f.2 = false
  mem : ∀ x, (∃ e ∈ es.toList, (sk X).is x e.2 = true) ↔ PV.str x ∈ l
  size : es.size ≤ l.length

theorem SetWell.at {P : Params} {h h' : Heap} {a : Addr} {es : Array (Int × Value)} (x : SetWell P h a es) (hk : ∀ o, h.get? a = some o → h'.get? a = some o) : SetWell P h' a es := by
  obtain ⟨ep, t, ho, r⟩ := x
  exact ⟨ep, t, hk _ ho, r⟩
theorem StrSet.at {h h' : Heap} {S : Addr} {es : Array (Int × Value)} {l : List PV} (x : StrSet X h S es l) (hk : ∀ o, h.get? S = some o → h'.get? S = some o) : StrSet X h' S es l := ⟨x.well.at hk, x.el, x.nd, x.mem, x.size⟩

theorem is_iff {x : Str} {v : Value} : (sk X).is x v = true ↔ ∃ t, v = .str x t := by
  constructor
  · intro h
    exact Value.isStrOf_shape h
  · rintro ⟨t, rfl⟩
    show Value.isStrOf x (.str x t) = true
    simp [Value.isStrOf]

theorem set_loop {b S I : Addr} {items : Array Value} {nl : Nat} {l : List PV} {V : Rgn} (hVS : V S) (hVI : V I) (hSI : S ≠ I) (hbI : b ≠ I) (hbS : b ≠ S) (hl : ∀ d ∈ l, isStrPV d) (hz : l.length ≤ 4000) (hh : A.handled = none) :
    ∀ (k i : Nat) (s : Shared) (es : Array (Int × Value)) (R : Result → Shared → Prop), l.length - i = k → i ≤ l.length → s.heap.IsListIter I b i → s.heap.get? b = some (seqO tList items nl) → Vals X.P V s.heap l items.toList →
      StrSet X s.heap S es (l.take i) →
      (∀ s' es', Step (fun x => x = S ∨ x = I) s s' → StrSet X s'.heap S es' l → R (.ok (.ret .none)) s') →
      codeAny X.mo A (.builtin "set.update.loop" ⟨[.ref S, .ref I], []⟩) R s := by
  intro k
  induction k with
  | zero =>
    intro i s es R hk hi hit hb hv hS hR
    have hi' : i = l.length := by omega
    subst hi'
    refine codeAny_builtin F.entry_set_update_loop ?_
    rw [Around.under_plainId F.plain_set_update_loop _]
    show wpAny _ A.in1 (pyNext (.ref I) >>= _) _ _ s
    have hx : items[l.length]? = none := by have := hv.length; rw [Array.getElem?_eq_none]; simp at this; omega
    refine wpAny_bind (wpAny_pyNext_list_end (by exact hh) hit (Heap.IsList.of hb) hx fun h' he => ?_)
    show wpAny _ A.in1 (ret Value.none) _ _ _
    have st : Step (fun x => x = S ∨ x = I) s { s with heap := h' } := Step.heap (t := s.toks) fun c o n e => he c o (fun w => n (.inr w)) e
    rw [List.take_length] at hS
    exact wpAny_pure (hR _ es st (hS.at fun o e => he S o hSI e))
  | succ k ih =>
    intro i s es R hk hi hit hb hv hS hR
    have hlt : i < l.length := by omega
    have hd : l[i]? = some l[i] := List.getElem?_eq_getElem hlt
    obtain ⟨v, hv', hval⟩ := hv.get hd
    obtain ⟨x, hx⟩ := hl _ (List.mem_of_getElem? hd)
    rw [hx] at hval
    obtain ⟨u, rfl⟩ := val_str.mp hval
    rw [Array.getElem?_toList] at hv'
    refine codeAny_builtin F.entry_set_update_loop ?_
    rw [Around.under_plainId F.plain_set_update_loop _]
    show wpAny _ A.in1 (pyNext (.ref I) >>= _) _ _ s
    refine wpAny_bind (wpAny_pyNext_list_item hit (Heap.IsList.of hb) hv' fun h₁ hit₁ hs₁ => ?_)
    have st₁ : Step (fun x => x = I) s { s with heap := h₁ } := Step.same (t := s.toks) hs₁ rfl
    have hS₁ := hS.at fun o e => (hs₁.2 S hSI).trans e
    show wpAny _ A.in1 (holding [Value.str x u] (setAdd S (.str x u)) >>= _) _ _ _
    have hsz : es.size + 1 < scanBound := by
      have h1 := hS.size
      have h2 : (l.take i).length ≤ 4000 := by simp; omega
      have : scanBound = 4096 := rfl
      omega
    refine wpAny_bind (wpAny_holding (set_add_str (s := { s with heap := h₁ }) hS₁.well hS₁.el hsz fun h₂ tk es' hs₂ hw' hel' hcase bb => ?_))
    have st₂ : Step (fun x => x = S) { s with heap := h₁ } { s with heap := h₂, toks := tk } := Step.same hs₂ rfl
    have htake : l.take (i + 1) = l.take i ++ [.str x] := by rw [List.take_add_one, hd, hx]; rfl
    have hS₂ : StrSet X h₂ S es' (l.take (i + 1)) := by
      rw [htake]
      rcases hcase with ⟨hin, rfl⟩ | ⟨hno, hp⟩
      · refine ⟨hw', hel', hS.nd, fun y => ?_, by have := hS.size; simp at this ⊢; omega⟩
        rw [hS.mem y, List.mem_append]
        constructor
        · exact .inl
        · rintro (w | w)
          · exact w
          · simp only [List.mem_singleton, PV.str.injEq] at w
            subst w
            exact (hS.mem y).mp hin
      · refine ⟨hw', hel', ?_, fun y => ?_, ?_⟩
        · have hsym : ∀ {e f : Int × Value}, (∀ x, (sk X).is x e.2 = true → (sk X).is x f.2 = false) → ∀ x, (sk X).is x f.2 = true → (sk X).is x e.2 = false := fun {e f} h x hf => by
            cases he : (sk X).is x e.2 with
            | false => rfl
            | true => rw [h x he] at hf; cases hf
          refine (hp.pairwise_iff (fun {e f} => hsym)).mpr (List.pairwise_append.mpr ⟨hS.nd, List.pairwise_singleton .., fun e he f hf y hy => ?_⟩)
          simp only [List.mem_singleton] at hf
          subst hf
          cases hq : (sk X).is y (Value.str x u) with
          | false => rfl
          | true =>
            obtain ⟨t, e'⟩ := is_iff.mp hq
            cases e'
            exact absurd ⟨e, he, hy⟩ hno
        · constructor
          · rintro ⟨e, he, hy⟩
            rcases List.mem_append.mp (hp.mem_iff.mp he) with w | w
            · exact List.mem_append_left _ ((hS.mem y).mp ⟨e, w, hy⟩)
            · simp only [List.mem_singleton] at w
              subst w
              obtain ⟨t, e'⟩ := is_iff.mp hy
              cases e'
              exact List.mem_append_right _ (List.mem_singleton.mpr rfl)
          · intro hy
            rcases List.mem_append.mp hy with w | w
            · obtain ⟨e, he, hy⟩ := (hS.mem y).mpr w
              exact ⟨e, hp.mem_iff.mpr (List.mem_append_left _ he), hy⟩
            · simp only [List.mem_singleton, PV.str.injEq] at w
              subst w
              exact ⟨_, hp.mem_iff.mpr (List.mem_append_right _ (List.mem_singleton.mpr rfl)), is_iff.mpr ⟨u, rfl⟩⟩
        · have h1 := hp.length_eq
          have h2 := hS.size
          simp at h1 h2 ⊢
          omega
    have stt : Step (fun x => x = S ∨ x = I) s { s with heap := h₂, toks := tk } := (st₁.mono fun _ w => .inr w).trans (st₂.mono fun _ w => .inl w)
    refine wpAny_pure ⟨plainId_quiet F.plain_set_update_loop _, ih (i + 1) _ es' R (by omega) hlt ?_ (stt.keep b _ (fun w => w.elim hbS hbI) hb) ?_ hS₂ fun s' es'' st' hS' => hR s' es'' (stt.trans st') hS'⟩
    · obtain ⟨o, ho, r⟩ := hit₁
      exact ⟨o, st₂.keep I o (Ne.symm hSI) ho, r⟩
    · exact hv.step stt fun c w => w.elim (fun w => w ▸ hVS) fun w => w ▸ hVI

/-- set(list of strs) -/
theorem set_strs {V : Rgn} {l : List PV} {lv : Value} {Q : Value → Shared → Prop} (hA : A.handled = none) (H : Hp X V s) (hl : ∀ d ∈ l, isStrPV d) (hz : l.length ≤ 4000) (hv : Val X.P V s.heap (.list l) lv)
    (hQ : ∀ S es s', Step None s s' → s.heap.get? S = none → StrSet X s'.heap S es l → Q (.ref S) s') : wpAny X.mo A (call (.type "set") [lv]) Q E s := by
  obtain ⟨b, nl, items, rfl, nb, ho, hvs⟩ := val_seq.mp hv
  have hsn : s.heap.get? s.heap.objs.size = none := get?_size _
  have hsn1 : s.heap.get? (s.heap.objs.size + 1) = none := get?_none_of_le (Nat.le_succ _)
  have hb0 : b ≠ s.heap.objs.size := fun e => by rw [e, hsn] at ho; cases ho
  have hb1 : b ≠ s.heap.objs.size + 1 := fun e => by rw [e, hsn1] at ho; cases ho
  refine set_of_list ho (fun s' => Step None s s' ∧ ∃ es, StrSet X s'.heap s.heap.objs.size es l) (fun s₁ hs₁ A' hA' _ _ => ?_) fun s' ⟨st, es, hS⟩ => hQ _ es s' st hsn hS
  subst hs₁
  have keep : ∀ c o, s.heap.get? c = some o → ((s.heap.push (setO #[] 0 (.fresh 0 0 (!X.w.params.followText "set-order")))).push { cls := .type "list_iterator", data := .fields #[.ref b, .int 0 0] }).get? c = some o := fun c o e => Heap.get?_push_of_some _ (Heap.get?_push_of_some _ e)
  have hz1 : (s.heap.push (setO #[] 0 (.fresh 0 0 (!X.w.params.followText "set-order")))).objs.size = s.heap.objs.size + 1 := Heap.size_push ..
  refine set_loop (V := fun c => V c ∨ c = s.heap.objs.size ∨ c = s.heap.objs.size + 1) (b := b) (.inr (.inl rfl)) (.inr (.inr rfl)) (Nat.ne_of_lt (Nat.lt_succ_self _)) hb1 hb0 hl hz (hA'.trans hA) l.length 0 _ #[] _ rfl (Nat.zero_le _) ?_ (keep _ _ ho) ?_ ⟨⟨0, _, Heap.get?_push_of_some _ (Heap.get?_push_size _ rfl), rfl, rfl, .inl rfl⟩, fun e he => by simp at he, List.Pairwise.nil, fun x => by simp, by simp⟩ fun s' es' st hS => ⟨rfl, ?_, es', hS⟩
  · have := Heap.get?_push_size (s.heap.push (setO #[] 0 (.fresh 0 0 (!X.w.params.followText "set-order")))) (o := { cls := .type "list_iterator", data := .fields #[.ref b, .int 0 0] }) rfl
    rw [hz1] at this; exact ⟨_, this, rfl, rfl⟩
  · refine (hvs.grow fun c w => ?_).keeps fun c o _ e => keep c o e
    rcases w with w | w | w
    · exact .inl w
    · exact .inr (w ▸ hsn)
    · exact .inr (w ▸ hsn1)
  · have st0 : Step None s { s with heap := (s.heap.push (setO #[] 0 (.fresh 0 0 (!X.w.params.followText "set-order")))).push { cls := .type "list_iterator", data := .fields #[.ref b, .int 0 0] } } := Step.heap (t := s.toks) fun c o _ e => keep c o e
    refine ((st0.all _).trans st).old fun c w => .inr ?_
    rcases w with w | w
    · exact w ▸ hsn
    · exact w ▸ hsn1
end
end Mine
namespace Mine
open PySem PySem.W PySem.Calls PyProof.Rows

theorem StrsAre.vals {P : Params} {V : Rgn} {h : Heap} : ∀ {vs : List Value} {ss : List Str}, StrsAre vs ss → Vals P V h (ss.map .str) vs
  | _, _, .nil => by simp
  | _, _, .cons y t hs => by simp only [List.map_cons, vals_cons', val_str]; exact ⟨⟨t, rfl⟩, StrsAre.vals hs⟩
theorem Vals.strs {P : Params} {V : Rgn} {h : Heap} : ∀ {l : List PV} {vs : List Value}, (∀ d ∈ l, isStrPV d) → Vals P V h l vs → ∃ ss : List Str, l = ss.map .str ∧ StrsAre vs ss
  | [], vs, _, hv => by have := vals_nil.mp hv; subst this; exact ⟨[], rfl, .nil⟩
  | d :: l, vs, hl, hv => by
    obtain ⟨v, r, rfl, h1, h2⟩ := vals_cons.mp hv
    obtain ⟨x, rfl⟩ := hl d (by simp)
    obtain ⟨t, rfl⟩ := val_str.mp h1
    obtain ⟨ss, rfl, hs⟩ := Vals.strs (fun d hd => hl d (by simp [hd])) h2
    exact ⟨x :: ss, rfl, .cons x t hs⟩

section
variable {X : Wd} {A : Around} {E : Value → Shared → Prop} {s : Shared}

/-- sorted(..), once what is sorted has been brought together -/
theorem sorted_src {v : Value} {V : Rgn} {C : List Str → Prop} {Q : Value → Shared → Prop} (H : Hp X V s) (hcol : wpAny X.mo A.in1 (collect v) (fun vs s₁ => ∃ ss, Step None s s₁ ∧ StrsAre vs ss ∧ vs.length < 64 ∧ C ss) E s)
    (hQ : ∀ s' r ss ss', C ss → ss'.Perm ss → sortedS ss' = true → Step None s s' → Val X.P V s'.heap (.list (ss'.map .str)) (.ref r) → Q (.ref r) s') : wpAny X.mo A (call (.builtin "sorted") [v]) Q E s := by
  refine Calls.call_function_entry kind_sorted plain_sorted entry_sorted (args_sorted1 _) ?_
  unfold Builtin.«sorted»
  refine wpAny_bind (m := checkCount "sorted" 1 1 _) (wpAny_pure ?_)
  refine wpAny_bind (wpAny_mono hcol (fun vs s₁ ⟨ss, st, hS, h64, hC⟩ => ?_) fun _ _ x => x)
  refine wpAny_bind (wpAny_newList ?_ (by
    have : sizeLine ≥ 64 := by decide
    omega))
  have hsn : s₁.heap.get? s₁.heap.objs.size = none := get?_size _
  have hs0 : s.heap.get? s₁.heap.objs.size = none := none_of_keep (fun o e => st.kp _ o e) hsn
  have hoL : (s₁.heap.push (seqObj "list" vs.toArray 0)).get? s₁.heap.objs.size = some (seqObj "list" vs.toArray 0) := Heap.get?_push_size _ rfl
  refine wpAny_bind (wpAny_holding (wpAny_call_entry slot_list_sort (s := { s₁ with heap := s₁.heap.push (seqObj "list" vs.toArray 0) }) ⟨_, hoL, rfl⟩ entry_list_sort
    (list_sort_treeK (s := { s₁ with heap := s₁.heap.push (seqObj "list" vs.toArray 0) }) (κ := PyProof.Rows.strKind) strKind_oneLt hoL hS.keysOf (fun v₁ v₂ rest e => keyKind_strs (by rw [← e]; exact hS)) h64 fun st' hp hso => ⟨_, rfl, ?_⟩) (args_list_sort _)))
  obtain ⟨ss', h1, h2, h3⟩ := sorted_out_str hS hp hso
  obtain ⟨e, he⟩ := sortedHeap_at (out := (arrOf st').map (·.2)) hoL
  refine wpAny_pure ⟨_, rfl, hQ _ _ ss ss' hC h2 h3 ?_ (val_seq.mpr ⟨_, e, _, rfl, fun w => ?_, he, StrsAre.vals h1⟩)⟩
  · refine st.trans (Step.heap (t := s₁.toks) fun b o _ e => ?_)
    have hlt := Heap.lt_size e
    rw [sortedHeap_old (Nat.ne_of_lt hlt) (by rw [Heap.size_push]; exact Nat.lt_succ_of_lt hlt)]
    exact Heap.get?_push_of_some _ e
  · obtain ⟨o, e'⟩ := H.bnd _ w
    rw [hs0] at e'; cases e'

def SortedOf (l : List PV) (d : PV) : Prop := ∃ ss : List Str, d = .list (ss.map .str) ∧ sortedS ss = true ∧ (ss.map PV.str).Perm l
def SortedSetOf (l : List PV) (d : PV) : Prop := ∃ ss : List Str, d = .list (ss.map .str) ∧ sortedS ss = true ∧ ss.Nodup ∧ ∀ x, x ∈ ss ↔ PV.str x ∈ l

/-- sorted(list of strs) -/
theorem fc_sorted {n : Nat} {l : List PV} {P : PV → Prop} (hl : ∀ d ∈ l, isStrPV d) (hz : l.length < 64) (h : ∀ d, SortedOf l d → P d) : FC X n (.builtin "sorted") [.list l] P := fun A E s V vs hA H hv => by
  obtain ⟨v, r, rfl, h1, hv⟩ := vals_cons.mp hv
  have := vals_nil.mp hv
  subst this
  obtain ⟨b, m, ws, rfl, nb, ho, hw⟩ := val_seq.mp h1
  obtain ⟨ss, rfl, hs⟩ := hw.strs hl
  have hwl := hw.length
  have hl' : s.heap.IsList b ws.toList.toArray := by simpa using Heap.IsList.of ho
  have hsl : ws.toList.length ≤ sizeLine := Nat.le_trans (by omega : ws.toList.length ≤ 64) (by decide)
  refine sorted_src (C := fun ss' => ss' = ss) H (collect_list hl' ?_ hsl) fun s' r ss' ss'' hC hp hso st hval => ⟨st, _, h _ ⟨ss'', rfl, hso, ?_⟩, hval⟩
  · refine ⟨ss, Step.heap (t := s.toks) fun c o _ e => ?_, hs, by omega, rfl⟩
    rw [Heap.get?_update_ne _ _ _ _ (Nat.ne_of_lt (Heap.lt_size e))]
    exact Heap.get?_push_of_some _ e
  · subst hC
    exact hp.map _

/-- sorted(set(list of strs)) -/
theorem sorted_set {V : Rgn} {l : List PV} {lv : Value} {P : PV → Prop} (hA : AOk A 9) (H : Hp X V s) (hl : ∀ d ∈ l, isStrPV d) (hz : l.length < 64) (hv : Val X.P V s.heap (.list l) lv) (h : ∀ d, SortedSetOf l d → P d) (Q : Value → Shared → Prop)
    (hQ : ∀ v s', Res X V P s v s' → Q v s') (hin : X.K.In s.heap → True := fun _ => trivial) :
    wpAny X.mo A (call (.type "set") [lv]) (fun sv s₁ => Step None s s₁ ∧ wpAny X.mo A (call (.builtin "sorted") [sv]) Q E s₁) E s := by
  refine set_strs hA.handled H hl (by omega) hv fun S es s₁ st hS0 hS => ⟨st, ?_⟩
  have H₁ := H.stepN st
  have hSV : ¬ V S := fun w => by obtain ⟨o, e⟩ := H.bnd S w; rw [hS0] at e; cases e
  have hes : ∀ d ∈ es.toList.map (fun e => PV.str (strOf e.2)), isStrPV d := fun d hd => by obtain ⟨e, _, rfl⟩ := List.mem_map.mp hd; exact ⟨_, rfl⟩
  have hev : Vals X.P V s₁.heap (es.toList.map fun e => PV.str (strOf e.2)) (es.toList.map (·.2)) := by
    refine Vals.map_iff fun e he => ?_
    obtain ⟨k, hk⟩ := hS.el.keys e he
    obtain ⟨t, e2⟩ := is_iff.mp hk
    rw [e2]
    exact val_str.mpr ⟨t, rfl⟩
  refine sorted_src (C := fun ss => (ss.map PV.str).Perm (es.toList.map fun e => PV.str (strOf e.2))) H₁ (collect_set hA.in1 H₁ hSV hS.well (by have := hS.size; omega) hev fun s' vs l' st' hp hv' => ?_) fun s' r ss ss' hC hp hso st' hval => hQ _ _ ⟨st.trans st', _, h _ ⟨ss', rfl, hso, ?_, fun x => ?_⟩, hval⟩
  · obtain ⟨ss, rfl, hs⟩ := hv'.strs fun d hd => hes d (hp.mem_iff.mp hd)
    have := hv'.length
    have h2 := hp.length_eq
    have h3 := hS.size
    exact ⟨ss, st', hs, by simp at h2 this; omega, hp⟩
  · refine (hp.nodup_iff).mpr ?_
    have e1 : (es.toList.map fun e => PV.str (strOf e.2)) = (es.toList.map fun e => strOf e.2).map PV.str := by simp
    rw [e1] at hC
    have h2 : ss.Perm (es.toList.map fun e => strOf e.2) := by
      have := hC.map (fun d => match d with | .str x => x | _ => ⟨#[]⟩)
      simpa [Function.comp_def] using this
    refine h2.nodup_iff.mpr ?_
    rw [List.nodup_iff_pairwise_ne, List.pairwise_map]
    refine hS.nd.imp_of_mem fun {e f} he hf hx heq => ?_
    obtain ⟨k, hk⟩ := hS.el.keys e he
    obtain ⟨k', hk'⟩ := hS.el.keys f hf
    obtain ⟨t, e2⟩ := is_iff.mp hk
    obtain ⟨t', e3⟩ := is_iff.mp hk'
    rw [e2, e3] at heq
    have : k = k' := heq
    subst this
    have := hx k hk
    rw [hk'] at this; cases this
  · rw [← hS.mem x]
    have h1 : x ∈ ss' ↔ PV.str x ∈ es.toList.map fun e => PV.str (strOf e.2) := by
      rw [hp.mem_iff, ← hC.mem_iff]
      simp
    rw [h1, List.mem_map]
    constructor
    · rintro ⟨e, he, hx⟩
      obtain ⟨k, hk⟩ := hS.el.keys e he
      obtain ⟨t, e2⟩ := is_iff.mp hk
      rw [e2] at hx
      have : k = x := by simpa [strOf] using hx
      exact ⟨e, he, this ▸ hk⟩
    · rintro ⟨e, he, hx⟩
      obtain ⟨t, e2⟩ := is_iff.mp hx
      exact ⟨e, he, by rw [e2]; rfl⟩
end
end Mine
namespace Mine
open PySem PySem.W PySem.Calls PyProof.Rows

section
variable {X : Wd} {n : Nat} {P : PV → Prop}
theorem fc_list {l : List PV} (hz : l.length ≤ 4096) (h : P (.list l)) : FC X n (.type "list") [.list l] P := fun A E s V vs hA H hv => by
  obtain ⟨v, r, rfl, h1, hv⟩ := vals_cons.mp hv
  have := vals_nil.mp hv
  subst this
  obtain ⟨b, m, ws, rfl, nb, ho, hw⟩ := val_seq.mp h1
  have e := hw.length
  have hz' : ws.size ≤ 4096 := by simp at e; omega
  refine call_list_seq b (.inl rfl) ho rfl rfl (fun h' c' hk hn => ?_) (Nat.le_trans hz' (by decide))
  exact ⟨Step.heap (t := s.toks) fun b o _ e => hk b o e, _, h, val_seq.mpr ⟨_, c', ws, rfl, H.fresh, hn, hw.keeps fun b o _ e => hk b o e⟩⟩
theorem fc_tuple {l : List PV} (hz : l.length ≤ 4096) (h : P (.tup l)) : FC X n (.type "tuple") [.list l] P := fun A E s V vs hA H hv => by
  obtain ⟨v, r, rfl, h1, hv⟩ := vals_cons.mp hv
  have := vals_nil.mp hv
  subst this
  obtain ⟨b, m, ws, rfl, nb, ho, hw⟩ := val_seq.mp h1
  have e := hw.length
  have hz' : ws.size ≤ 4096 := by simp at e; omega
  refine call_tuple_list (Heap.IsList.of ho) (fun h' hk => ?_) (Nat.le_trans hz' (by decide))
  have hk' : ∀ c o, s.heap.get? c = some o → (h'.push { cls := .type "tuple", data := .seq ws }).get? c = some o := fun c o e => Heap.get?_push_of_some _ (hk c o e)
  refine ⟨Step.heap (t := s.toks) fun c o _ e => hk' c o e, _, h, val_seq.mpr ⟨_, 0, ws, rfl, fun w => ?_, Heap.get?_push_size _ rfl, hw.keeps fun c o _ e => hk' c o e⟩⟩
  obtain ⟨o, e⟩ := H.bnd _ w
  have := hk _ _ e
  rw [get?_size] at this; cases this
theorem op_addl {l₁ l₂ : List PV} (hz : l₁.length + l₂.length ≤ 4096) (h : P (.list (l₁ ++ l₂))) : Op2 X n (binaryOp .Add) (.list l₁) (.list l₂) P := fun A E s V v₁ v₂ hA H h1 h2 => by
  obtain ⟨a, m, vs, rfl, na, ho, hv⟩ := val_seq.mp h1
  obtain ⟨b, m', ws, rfl, nb, ho', hw⟩ := val_seq.mp h2
  have e1 := hv.length
  have e2 := hw.length
  refine PySem.P.add_list ho ho' ?_ (Nat.le_trans (by simp at e1 e2; omega : vs.size + ws.size ≤ 4096) (by decide))
  refine ⟨Step.push _ (t := s.toks), _, h, val_seq.mpr ⟨_, 0, _, rfl, H.fresh, Heap.get?_push_size _ rfl, ?_⟩⟩
  rw [Array.toList_append]
  exact (hv.append hw).keeps fun c o _ e => Heap.get?_push_of_some _ e
end

section
variable {Y : Act} {q : Vw} {M V : Rgn} {P : PV → Prop}
/-- sorted(set(e)) -/
theorem PE.sortedSet {p1 p2 p3 p4 : Pos} {e : Expr} (fs : FnIs Y "sorted" (.builtin "sorted")) (ft : FnIs Y "set" (.type "set")) (hY : 9 ≤ Y.n) (hn : noStar [e] = true)
    (h : PE Y q e fun d => ∃ l, d = .list l ∧ (∀ d ∈ l, isStrPV d) ∧ l.length < 64 ∧ ∀ d, SortedSetOf l d → P d) :
    PE Y q (.Call (.Name "sorted" p1) [.Call (.Name "set" p2) [e] [] p3] [] p4) P := fun M V A E s hA G => by
  refine wpAny_Call_NameR (rd_fn G fs ?_)
  refine callWith_of (P := fun h => Y.K.In h) (by rfl) (fun h hh => Callee.looks (X := Y.toWd) (.inr (.inr ⟨_, rfl⟩)) hh) ?_
  show wpAny _ A (evalArgs _ true [(false, eval (.Call (.Name "set" p2) [e] [] p3) Y.env)] []) _ E s
  refine evalArgs_plain (spliced_cons ?_)
  refine call_any (R := fun ds => ∃ l, ds = [.list l] ∧ (∀ d ∈ l, isStrPV d) ∧ l.length < 64 ∧ ∀ d, SortedSetOf l d → P d) ft (.inr (.inl ⟨_, rfl⟩)) (PE.mono h fun d ⟨l, a, b⟩ => ⟨l, by rw [a], b⟩) hn hA G fun vs s₁ ds hds hv st₁ G₁ => ?_
  obtain ⟨l, rfl, hl, hz, hP⟩ := hds
  obtain ⟨v, r, rfl, h1, hv⟩ := vals_cons.mp hv
  have := vals_nil.mp hv
  subst this
  refine wpAny_mono (sorted_set (hA.mono hY) G₁.hp hl hz h1 hP _ fun v s' res => ?_) (fun sv s₂ ⟨st₂, h2⟩ => spliced_nil ⟨(G₁.stepN st₂).hp.inK, h2⟩) fun _ _ x => x
  exact Res.after st₁ res
end
end Mine
namespace Mine
open PySem PySem.W PySem.Calls PyProof.Rows

def freeCells (env : Env) : List (Str × NameKind) → List (Str × Addr) → List (Str × Addr)
  | [], acc => acc
  | (n, k) :: r, acc => if k = .free then freeCells env r ((n, (env.cells.lookup n).getD 0) :: acc) else freeCells env r acc

theorem closure_go {env : Env} : ∀ (names : List (Str × NameKind)) (acc : List (Str × Addr)), (∀ x ∈ names, x.2 = .free → (env.cells.lookup x.1).isSome = true) →
    (forIn names acc fun (x : Str × NameKind) r => (if x.2 == .free then do let c ← cellOf env x.1; pure (ForInStep.yield ((x.1, c) :: r)) else pure (ForInStep.yield r) : Sem (ForInStep (List (Str × Addr))))) = pure (freeCells env names acc)
  | [], acc, _ => by rw [List.forIn_nil]; rfl
  | (n, k) :: r, acc, h => by
    rw [List.forIn_cons]
    have hr := fun acc => closure_go r acc fun x hx => h x (List.mem_cons_of_mem _ hx)
    unfold freeCells
    by_cases hk : k = .free
    · subst hk
      obtain ⟨c, hc⟩ := Option.isSome_iff_exists.mp (h (n, .free) List.mem_cons_self rfl)
      have hc' : env.cells.lookup n = some c := hc
      simp only [beq_self_eq_true, if_true]
      unfold cellOf
      rw [hc']
      simp only [pure_bind, Option.getD_some]
      exact hr _
    · have : (k == NameKind.free) = false := by simpa using hk
      simp only [this, Bool.false_eq_true, if_false, if_neg hk, pure_bind]
      exact hr _
theorem closureFor_eq {scope : Scope} {env : Env} (h : ∀ x ∈ scope.names, x.2 = .free → (env.cells.lookup x.1).isSome = true) : closureFor scope env = pure (freeCells env scope.names []) := by
  unfold closureFor
  have := closure_go scope.names [] h
  simp only [bind_pure]
  rw [← this]

theorem freeCells_sub {env : Env} : ∀ {names : List (Str × NameKind)} {acc : List (Str × Addr)}, (∀ x ∈ names, x.2 = .free → (env.cells.lookup x.1).isSome = true) → (∀ n c, acc.lookup n = some c → env.cells.lookup n = some c) → ∀ n c, (freeCells env names acc).lookup n = some c → env.cells.lookup n = some c
  | [], acc, _, ha, n, c, e => ha n c e
  | (m, k) :: r, acc, h, ha, n, c, e => by
    unfold freeCells at e
    have hr := fun x hx => h x (List.mem_cons_of_mem _ hx)
    split at e
    · rename_i hk
      refine freeCells_sub hr (fun n' c' e' => ?_) n c e
      rw [List.lookup_cons] at e'
      cases hx : n' == m with
      | true =>
        rw [hx] at e'
        cases e'
        obtain ⟨c, hc⟩ := Option.isSome_iff_exists.mp (h (m, k) List.mem_cons_self hk)
        have hc' : env.cells.lookup m = some c := hc
        rw [eq_of_beq hx, hc']; rfl
      | false => rw [hx] at e'; exact ha _ _ e'
    · exact freeCells_sub hr ha n c e
theorem freeCells_acc {env : Env} {x : Str} {c : Addr} (hx : env.cells.lookup x = some c) : ∀ {names : List (Str × NameKind)} {acc : List (Str × Addr)}, acc.lookup x = some c → (freeCells env names acc).lookup x = some c
  | [], _, h => h
  | (m, k) :: r, acc, h => by
    unfold freeCells
    split
    · refine freeCells_acc hx ?_
      rw [List.lookup_cons]
      cases hm : x == m with
      | true => rw [← eq_of_beq hm, hx]; rfl
      | false => exact h
    · exact freeCells_acc hx h
theorem freeCells_has {env : Env} {x : Str} {c : Addr} (hx : env.cells.lookup x = some c) : ∀ {names : List (Str × NameKind)} {acc : List (Str × Addr)}, (x, NameKind.free) ∈ names → (freeCells env names acc).lookup x = some c
  | (m, k) :: r, acc, h => by
    unfold freeCells
    rcases List.mem_cons.mp h with h | h
    · cases h
      rw [if_pos rfl]
      refine freeCells_acc hx ?_
      rw [List.lookup_cons, beq_self_eq_true, hx]; rfl
    · split
      · exact freeCells_has hx h
      · exact freeCells_has hx h

theorem comp_shape {Y : Act} {scope : Scope} (h : ∀ x ∈ scope.names, x.2 = .free → (Y.env.cells.lookup x.1).isSome = true) (hc : ∀ y ∈ scope.names, y.2 ≠ .cell) (hk : scope.kind = .function) (hn : ∀ y ∈ scope.names, y.2 = .local → scope.names.lookup y.1 = some .local) :
    CompShape Y scope (freeCells Y.env scope.names []) :=
  ⟨closureFor_eq h, freeCells_sub h (fun n c e => by simp at e), hc, hk, hn⟩

theorem relabel_other {env : Env} {k : NameKind} (hk : k ≠ .free) : ∀ {names : List (Str × NameKind)} {x : Str}, names.lookup x = some k →
    (names.map fun (n, k) => if (k == NameKind.free && env.scope.kind == .function && env.kindOf n == some .cell) then (n, NameKind.cell) else (n, k)).lookup x = some k
  | [], _, h => by simp at h
  | (n, k') :: r, x, h => by
    rw [List.lookup_cons] at h
    show List.lookup x ((if (k' == NameKind.free && env.scope.kind == .function && env.kindOf n == some .cell) = true then (n, NameKind.cell) else (n, k')) :: _) = _
    cases hx : x == n with
    | true =>
      rw [hx] at h
      cases h
      rw [if_neg (by simp [hk]), List.lookup_cons, hx]
    | false =>
      rw [hx] at h
      have ih := relabel_other (env := env) hk (names := r) h
      split <;> (rw [List.lookup_cons, hx]; exact ih)
theorem relabel_free {env : Env} {x : Str} (hf : env.scope.kind = .function) (hx : env.kindOf x = some .cell) : ∀ {names : List (Str × NameKind)}, names.lookup x = some .free →
    (names.map fun (n, k) => if (k == NameKind.free && env.scope.kind == .function && env.kindOf n == some .cell) then (n, NameKind.cell) else (n, k)).lookup x = some .cell
  | [], h => by simp at h
  | (n, k') :: r, h => by
    rw [List.lookup_cons] at h
    show List.lookup x ((if (k' == NameKind.free && env.scope.kind == .function && env.kindOf n == some .cell) = true then (n, NameKind.cell) else (n, k')) :: _) = _
    cases hn : x == n with
    | true =>
      rw [hn] at h
      cases h
      have e := eq_of_beq hn
      rw [if_pos (by rw [← e, hx, hf]; rfl), List.lookup_cons, hn]
    | false =>
      rw [hn] at h
      have ih := relabel_free hf hx (names := r) h
      split <;> (rw [List.lookup_cons, hn]; exact ih)

theorem ck_other {env : Env} {scope : Scope} {cl : List (Str × Addr)} {C : Addr} {x : Str} {k : NameKind} (hk : k ≠ .free) (h : scope.names.lookup x = some k) : (compEnvC scope cl C env).kindOf x = some k := relabel_other hk h
theorem ck_cell {env : Env} {scope : Scope} {cl : List (Str × Addr)} {C : Addr} {x : Str} (hf : env.scope.kind = .function) (hx : env.kindOf x = some .cell) (h : scope.names.lookup x = some .free) : (compEnvC scope cl C env).kindOf x = some .cell := relabel_free hf hx h
theorem inh_cell {q : Vw} {env : Env} {scope : Scope} {C : Addr} {x : Str} {c : Addr} (hf : env.scope.kind = .function) (hx : env.kindOf x = some .cell) (hc : env.cells.lookup x = some c) (h : scope.names.lookup x = some .free) :
    (inh q env (compEnvC scope (freeCells env scope.names []) C env)).ρ x = q.ρ x :=
  inh_of (c := c) (freeCells_has hc (mem_of_lookup h)) hc (.inl (ck_cell hf hx h)) (.inl hx)
theorem cc_cell {env : Env} {scope : Scope} {C : Addr} {x : Str} {c : Addr} (hc : env.cells.lookup x = some c) (h : scope.names.lookup x = some .free) : (compEnvC scope (freeCells env scope.names []) C env).cells.lookup x = some c := freeCells_has hc (mem_of_lookup h)

/-- what a comprehension over encoded data says -/
theorem compok_gen {Y : Act} {q : Vw} {elt t : Expr} {ifs : List Expr} {rest : List Comprehension} {scope : Scope} {cl : List (Str × Addr)} {α : Type} (xs : List α) (enc : α → PV) (g : α → List PV) (hz : (xs.map g).flatten.length ≤ 4096)
    (h : ∀ C x, x ∈ xs → ∃ q'', PA (Y.comp scope cl C) (inh q Y.env (compEnvC scope cl C Y.env)) t (enc x) q'' ∧ (inh q Y.env (compEnvC scope cl C Y.env)).le q'' ∧ PTS (Y.comp scope cl C) q'' ifs fun b => (b = false → g x = []) ∧ (b = true → GI (Y.comp scope cl C) elt rest q'' (g x))) :
    CompOk Y q elt t ifs rest scope cl (xs.map enc) (xs.map g) := by
  refine ⟨by simp, hz, fun C i d o hd ho => ?_⟩
  rw [List.getElem?_map] at hd ho
  cases hx : xs[i]? with
  | none => rw [hx] at hd; cases hd
  | some x =>
    rw [hx] at hd ho
    cases hd
    cases ho
    exact h C x (List.mem_of_getElem? hx)

theorem compok_pair {Y : Act} {q : Vw} {elt : Expr} {x y : Str} {px py pos : Pos} {k : Nat} {ifs : List Expr} {rest : List Comprehension} {scope : Scope} {cl : List (Str × Addr)} {α : Type} (xs : List α) (e1 e2 : α → PV) (g : α → List PV) (hz : (xs.map g).flatten.length ≤ 4096)
    (hx : scope.names.lookup x = some .local) (hy : scope.names.lookup y = some .local) (hne : ¬ y = x)
    (h : ∀ C a q'', a ∈ xs → q''.ρ x = some (.fz (e1 a)) → q''.ρ y = some (.fz (e2 a)) → (∀ z, ¬ z = x → ¬ z = y → q''.ρ z = (inh q Y.env (compEnvC scope cl C Y.env)).ρ z) →
      PTS (Y.comp scope cl C) q'' ifs fun b => (b = false → g a = []) ∧ (b = true → GI (Y.comp scope cl C) elt rest q'' (g a))) :
    CompOk Y q elt (.Tuple [.Name x px, .Name y py] k pos) ifs rest scope cl (xs.map fun a => .tup [e1 a, e2 a]) (xs.map g) := by
  refine compok_gen xs _ g hz fun C a ha => ?_
  have hx' : (compEnvC scope cl C Y.env).kindOf x = some .local := ck_other (by decide) hx
  have hy' : (compEnvC scope cl C Y.env).kindOf y = some .local := ck_other (by decide) hy
  have n1 := inh_none (q := q) (env := Y.env) hx'
  have n2 := inh_none (q := q) (env := Y.env) hy'
  have s2 : ((inh q Y.env (compEnvC scope cl C Y.env)).set x (.fz (e1 a))).ρ y = none := by rw [Vw.set_ρ, if_neg hne]; exact n2
  refine ⟨_, PA.tup ⟨_, PA.name (.inl hx'), _, PA.name (.inl hy'), rfl⟩, Vw.le_trans (Vw.le_set n1) (Vw.le_set s2), h C a _ ha ?_ ?_ fun z h1 h2 => ?_⟩
  · rw [Vw.set_ρ, if_neg (fun e => hne e.symm), Vw.set_ρ, if_pos rfl]
  · rw [Vw.set_ρ, if_pos rfl]
  · rw [Vw.set_ρ, if_neg h2, Vw.set_ρ, if_neg h1]
theorem compok_name {Y : Act} {q : Vw} {elt : Expr} {x : Str} {px : Pos} {ifs : List Expr} {rest : List Comprehension} {scope : Scope} {cl : List (Str × Addr)} {α : Type} (xs : List α) (enc : α → PV) (g : α → List PV) (hz : (xs.map g).flatten.length ≤ 4096)
    (hx : scope.names.lookup x = some .local)
    (h : ∀ C a q'', a ∈ xs → q''.ρ x = some (.fz (enc a)) → (∀ z, ¬ z = x → q''.ρ z = (inh q Y.env (compEnvC scope cl C Y.env)).ρ z) →
      PTS (Y.comp scope cl C) q'' ifs fun b => (b = false → g a = []) ∧ (b = true → GI (Y.comp scope cl C) elt rest q'' (g a))) :
    CompOk Y q elt (.Name x px) ifs rest scope cl (xs.map enc) (xs.map g) := by
  refine compok_gen xs _ g hz fun C a ha => ?_
  have hx' : (compEnvC scope cl C Y.env).kindOf x = some .local := ck_other (by decide) hx
  exact ⟨_, PA.name (.inl hx'), Vw.le_set (inh_none hx'), h C a _ ha (by rw [Vw.set_ρ, if_pos rfl]) fun z h1 => by rw [Vw.set_ρ, if_neg h1]⟩
theorem pts_elt {Y : Act} {q : Vw} {elt : Expr} {o : List PV} (h : PE Y q elt fun d => o = [d]) : PTS Y q [] fun b => (b = false → o = []) ∧ (b = true → GI Y elt [] q o) := by
  show (true = false → o = []) ∧ (true = true → PE Y q elt fun d => o = [d])
  exact ⟨(fun e => by cases e), fun _ => h⟩
theorem pts_if {Y : Act} {q : Vw} {elt c : Expr} {o : List PV} (h : PT Y q c fun b => (b = false → o = []) ∧ (b = true → PE Y q elt fun d => o = [d])) : PTS Y q [c] fun b => (b = false → o = []) ∧ (b = true → GI Y elt [] q o) := by
  show PT Y q c fun b => (b = true → (true = false → o = []) ∧ (true = true → PE Y q elt fun d => o = [d])) ∧ (b = false → (false = false → o = []) ∧ (false = true → PE Y q elt fun d => o = [d]))
  exact PT.mono h fun b hb => ⟨fun e => ⟨(fun e => by cases e), fun _ => hb.2 e⟩, fun e => ⟨fun _ => hb.1 e, (fun e => by cases e)⟩⟩

theorem swaps_true {elt : Expr} {gens : List Comprehension} {scope : Scope} {cpos xp : Pos} {x : Str} {line : Nat} {env : Env} (hf : env.scope.kind = .function) (hk : env.kindOf x = some .local) (hl : (xp.line == cpos.line) = true)
    (hn : (scope.names.any fun (n, k) => n == x && (k == .local || k == .cell)) = false) : swapsWith (.ListComp elt gens scope cpos) (some (.Name x xp)) line env = pure true := by
  unfold swapsWith
  have hb : (env.blockKind == ScopeKind.function) = true := by unfold Env.blockKind; rw [hf]; rfl
  show (pure (env.blockKind == .function && env.kindOf x == some .local && xp.line == cpos.line && !(scope.names.any fun (n, k) => n == x && (k == .local || k == .cell))) : Sem Bool) = pure true
  rw [hb, hk, hl, hn]
  rfl

theorem flat_one {α : Type} (xs : List α) (f : α → PV) : (xs.map fun x => [f x]).flatten = xs.map f := by
  induction xs with
  | nil => rfl
  | cons a l ih => simp only [List.map_cons, List.flatten_cons, ih]; rfl
theorem flat_if {α : Type} (xs : List α) (p : α → Bool) (f : α → PV) : (xs.map fun x => if p x then [f x] else []).flatten = (xs.filter p).map f := by
  induction xs with
  | nil => rfl
  | cons a l ih =>
    simp only [List.map_cons, List.flatten_cons, ih, List.filter_cons]
    split <;> simp
end Mine
namespace Mine
open PySem PySem.W PySem.Calls PyProof.Rows

structure Wk extends Wd where
  hK : K = Mine.hd.heap_39 w.params

section
variable {X : Wk}
theorem Wk.g {X : Wk} {x : Str} {v : Option Value} (h : nsIn (Mine.hd.heap_39 X.w.params) mainGlobals x = some v) : nsIn X.K mainGlobals x = some v := by rw [X.hK]; exact h
theorem fnis_b {X : Wk} {Y : Act} {x : Str} {v : Value} (hY : Y.toWd = X.toWd) (hk : Y.env.kindOf x = some .globalImplicit) (h : nsIn (Mine.hd.heap_39 X.w.params) mainGlobals x = some none) (hb : bootBuiltins x = some v) (hn : x ≠ "__name__" := by decide) : FnIs Y x v :=
  ⟨hk, .inr ⟨by rw [hY, X.hK]; exact h, hb, hn⟩⟩
theorem fnis_g {X : Wk} {Y : Act} {x : Str} {v : Value} (hY : Y.toWd = X.toWd) (hk : Y.env.kindOf x = some .globalImplicit) (h : nsIn (Mine.hd.heap_39 X.w.params) mainGlobals x = some (some v)) : FnIs Y x v :=
  ⟨hk, .inl (by rw [hY, X.hK]; exact h)⟩
end

def symN : Nat → Str
  | 0 => "s" | 1 => "a" | 2 => "b" | 3 => "X" | 4 => "Y" | _ => "Z"
def sy (n : Nat) : PV := .str (symN n)
abbrev Rl := Str × List Str
def names3 : List Str := ["s", "a", "b"]
def syms6 : List Str := ["s", "a", "b", "X", "Y", "Z"]
def encR (r : Rl) : PV := .tup [.str r.1, .list (r.2.map .str)]
def encRs (R : List Rl) : PV := .list (R.map encR)
def GoodR (r : Rl) : Prop := r.1 ∈ names3 ∧ r.2.length ≤ 4 ∧ ∀ x ∈ r.2, x ∈ syms6
theorem symN3 {k : Nat} (h : k < 3) : symN k ∈ names3 := by
  match k, h with
  | 0, _ => decide
  | 1, _ => decide
  | 2, _ => decide
theorem symN6 {k : Nat} (h : k < 6) : symN k ∈ syms6 := by
  match k, h with
  | 0, _ => decide
  | 1, _ => decide
  | 2, _ => decide
  | 3, _ => decide
  | 4, _ => decide
  | 5, _ => decide
def Good (R : List Rl) : Prop := R.length ≤ 6 ∧ ∀ r ∈ R, GoodR r

theorem static_seq {X : Wk} {a : Addr} {c : Value} {vs : Array Value} {n : Nat} {l : List PV} (hl : (Mine.hd.heap_39 X.w.params).lookup a = some (seqO c vs n)) (hv : ∀ V h, Vals X.P V h l vs.toList) (V : Rgn) (h' : Heap) (hk : ∀ b o, X.b₀.get? b = some o → h'.get? b = some o) (hlow : ∀ x, V x → X.b₀.get? x = none) :
    Val X.P V h' (.seq c l) (.ref a) := by
  have : X.b₀.get? a = some (seqO c vs n) := X.inK _ _ (by rw [X.hK]; exact hl)
  exact val_seq.mpr ⟨a, n, vs, rfl, fun w => (by have q := hlow a w; rw [this] at q; cases q), hk _ _ this, hv V h'⟩

theorem q0_here {ρs : Str → Option PV} {x : Str} {d : PV} (h : ρs x = some d) : (q0 ρs).ρ x = some (.fz d) := by unfold q0; dsimp only; rw [h]; rfl
theorem set_here {q : Vw} {x : Str} {sl : Slot} : (q.set x sl).ρ x = some sl := by rw [Vw.set_ρ, if_pos rfl]
theorem set_there {q : Vw} {x y : Str} {sl : Slot} {r : Option Slot} (h : q.ρ y = r) (hn : ¬ y = x := by decide) : (q.set x sl).ρ y = r := by rw [Vw.set_ρ, if_neg hn]; exact h

theorem glob_symbols {X : Wk} {Y : Act} {q : Vw} {pos : Pos} (hY : Y.toWd = X.toWd) (hk : Y.env.kindOf "_law_symbols" = some .globalImplicit) : PE Y q (.Name "_law_symbols" pos) fun d => d = .list ((List.range 6).map sy) := by
  refine PE.glob (fnis_g hY hk (v := .ref 424) (by rfl)) (fun V h' h1 h2 => ?_) rfl
  have hP : Y.P = X.P := congrArg Wd.P hY
  have hb : Y.b₀ = X.b₀ := congrArg Wd.b₀ hY
  rw [hP]
  rw [hb] at h1 h2
  refine static_seq (vs := #[.str "s" 840, .str "a" 841, .str "b" 842, .str "X" 843, .str "Y" 844, .str "Z" 845]) (n := 0) (by rfl) (fun V h => ?_) V h' h1 h2
  show Vals X.P V h [sy 0, sy 1, sy 2, sy 3, sy 4, sy 5] _
  simp only [vals_cons', vals_nil, sy, val_str, symN, and_true]
  exact ⟨⟨_, rfl⟩, ⟨_, rfl⟩, ⟨_, rfl⟩, ⟨_, rfl⟩, ⟨_, rfl⟩, ⟨_, rfl⟩⟩

theorem comp_nofree {Y : Act} {scope : Scope} (h : ∀ y ∈ scope.names, y.2 ≠ .free) (hc : ∀ y ∈ scope.names, y.2 ≠ .cell) (hk : scope.kind = .function) (hn : ∀ y ∈ scope.names, y.2 = .local → scope.names.lookup y.1 = some .local) : CompShape Y scope [] :=
  ⟨closureFor_none h, fun n c e => by simp at e, hc, hk, hn⟩

/-- one value for each element -/
theorem compok_map {Y : Act} {q : Vw} {elt t : Expr} {scope : Scope} {cl : List (Str × Addr)} {l : List PV} (f : PV → PV) (hz : l.length ≤ 4096)
    (h : ∀ C d, d ∈ l → ∃ q'', PA (Y.comp scope cl C) (inh q Y.env (compEnvC scope cl C Y.env)) t d q'' ∧ (inh q Y.env (compEnvC scope cl C Y.env)).le q'' ∧ PE (Y.comp scope cl C) q'' elt fun r => r = f d) :
    CompOk Y q elt t [] [] scope cl l (l.map fun d => [f d]) := by
  refine ⟨by simp, by rw [flat_map]; simpa using hz, fun C i d o hd ho => ?_⟩
  obtain ⟨q'', hp, hle, he⟩ := h C d (List.mem_of_getElem? hd)
  refine ⟨q'', hp, hle, ?_⟩
  show (true = false → o = []) ∧ (true = true → PE (Y.comp scope cl C) q'' elt fun d => o = [d])
  refine ⟨(fun q => by cases q), fun _ => ?_⟩
  rw [List.getElem?_map, hd] at ho
  cases ho
  exact PE.mono he fun r hr => by rw [hr]
where
  flat_map : ∀ {l : List PV}, (l.map fun d => [f d]).flatten = l.map f := by
    intro l
    induction l with
    | nil => rfl
    | cons a l ih => simp only [List.map_cons, List.flatten_cons, ih]; rfl
end Mine
namespace Mine
open PySem PySem.W PySem.Calls PyProof.Rows
theorem kd {env : Env} {x : Str} {k : Option NameKind} {nm : List (Str × NameKind)} (h : env.scope.names = nm) (e : nm.lookup x = k) : env.kindOf x = k := by unfold Env.kindOf; rw [h]; exact e
theorem sy_at {k : Nat} (h : k < 6) : ((List.range 6).map sy)[k]? = some (sy k) := by
  simp [h]
theorem fmod_nat (a : Int) (b : Nat) (hb : 0 < b) : ∃ k : Nat, a.fmod b = k ∧ k < b := by
  have e : a.fmod b = a % (b : Int) := Int.fmod_eq_emod_of_nonneg a (by omega)
  have h1 := Int.emod_nonneg a (b := (b : Int)) (by omega)
  have h2 := Int.emod_lt_of_pos a (b := (b : Int)) (by omega)
  exact ⟨(a % (b : Int)).toNat, by rw [e]; omega, by omega⟩

theorem lawRules {X : Wk} (ns : List Int) (hns : ns.length ≤ 63) : FC X.toWd 10 (.ref 429) [.list (ns.map .int)] (fun d => ∃ R, Good R ∧ d = encRs R) := by
  refine fc_enter (n := 9) (by decide) (names := ["numbers"]) (by rw [X.hK]; rfl) rfl rfl (fun vals hv => match vals, hv with | [a], _ => rfl) rfl (by decide)
    (fun L x hx => by simp only [List.mem_singleton] at hx; subst hx; exact .inl (by rfl)) (by rw [X.hK]; rfl) rfl rfl rfl rfl rfl fun L V env he => ?_
  have hk := congrArg (fun e : Env => e.scope.names) he
  dsimp only [callEnvC, newEnv] at hk
  have hi : interactive env = false := by rw [he]; rfl
  have fl : FnIs (X.act env V 9 (by decide)) "len" (.builtin "len") := fnis_b (X := X) rfl (kd hk (by rfl)) (by rfl) (by rfl)
  have cl : Callee X.toWd (.builtin "len") := .inr (.inr ⟨_, rfl⟩)
  clear he
  have loc : ∀ {x : Str}, env.kindOf x = some .local → Storable (X.act env V 9 (by decide)) x := fun h => .inl h
  refine PS.seq (PS1.new (loc (kd hk (by rfl))) (.list _) ⟨rfl, ?_⟩ (by rfl))
  refine PS.seq (PS1.assign (loc (kd hk (by rfl))) (PE.cint ⟨rfl, ?_⟩) (by rfl))
  refine PS.seq (PS1.mono (PS1.while_ (Φ := fun f q => f = .next ∧ ∃ R, Good R ∧ q.ρ "rules" = some (.mt (encRs R))) (fun n q => ∃ (place : Nat) (R : List Rl), n = ns.length - place ∧ Good R ∧ q.ρ "numbers" = some (.fz (.list (ns.map .int))) ∧ q.ρ "rules" = some (.mt (encRs R)) ∧ q.ρ "place" = some (.fz (.int place)))
    ns.length ⟨0, [], by simp, ⟨by simp, fun r h => nomatch h⟩, set_there (set_there (q0_here (by rfl))), set_there set_here, set_here⟩ ?_) ?_)
  · rintro n q ⟨place, R, rfl, hR, h1, h2, h3⟩
    refine PT.and_ (PT.cmp (PE.name h3 (PE.call fl cl (PE.name h1 (fc_len_list (by simp; omega) (op_lt ⟨_, rfl, fun _ => ⟨fun _ => ⟨rfl, R, hR, h2⟩, fun q => by cases q⟩, fun hlt => ?_⟩))))))
    have hlt : place < ns.length := by simpa using hlt
    refine PT.cmp (PE.lenM fl (PM.name h2) (by have := hR.1; simp; omega) (PE.cint (op_lt ⟨_, rfl, fun _ => ⟨rfl, R, hR, h2⟩, fun h6 => ?_⟩)))
    have h6 : R.length < 6 := by simp at h6; omega
    have hgd : (ns.map PV.int)[place]? = some (.int ns[place]) := by rw [List.getElem?_map, List.getElem?_eq_getElem hlt]; rfl
    have hlen : (ns.map PV.int).length ≤ 4096 := by simp; omega
    obtain ⟨c, hc, hc5⟩ := fmod_nat (ns[place].fdiv 3) 5 (by decide)
    have num : ∀ {q' : Vw} {p1 p2 p3 : Pos} {P : PV → Prop}, q'.ρ "numbers" = some (.fz (.list (ns.map .int))) → q'.ρ "place" = some (.fz (.int place)) → P (.int ns[place]) → PE (X.act env V 9 (by decide)) q' (.Subscript (.Name "numbers" p1) (.Name "place" p2) p3) P :=
      fun h1 h3 hp => PE.item (PE.name h1 ⟨tList, _, rfl, .inl rfl, hlen, PE.name h3 ⟨place, _, rfl, hgd, hp⟩⟩)
    refine PS.seq (PS1.assign (loc (kd hk (by rfl))) (PE.bin (PE.bin (num h1 h3 (PE.cint (op_fdiv (by decide) (by decide) (PE.cint (op_mod (by decide) ⟨rfl, ?_⟩))))))) (by rfl))
    have e5 : (5 : Int) = ((5 : Nat) : Int) := rfl
    rw [e5, hc]
    have g1 := set_there (x := "count") (sl := .fz (.int c)) h1 (by decide)
    have g2 := set_there (x := "count") (sl := .fz (.int c)) h2 (by decide)
    have g3 := set_there (x := "count") (sl := .fz (.int c)) h3 (by decide)
    have g4 : (q.set "count" (.fz (.int c))).ρ "count" = some (.fz (.int c)) := set_here
    generalize q.set "count" (.fz (.int c)) = q at g1 g2 g3 g4 ⊢
    obtain ⟨o, ho, ho3⟩ := fmod_nat ns[place] 3 (by decide)
    refine PS.seq (PS1.append g2 (by have := hR.1; simp; omega) (PE.tup ?_) (by rfl) (by rfl) (by rfl) (by rfl) hi)
    refine PE.item (PE.mono (glob_symbols (X := X) rfl (kd hk (by rfl))) ?_)
    rintro _ rfl
    refine ⟨tList, _, rfl, .inl rfl, by simp, PE.bin (num g1 g3 (PE.cint (op_mod (by decide) ⟨o, sy o, ?_, sy_at (by omega), ?_⟩)))⟩
    · show PV.int (ns[place].fmod ((3 : Nat) : Int)) = _
      rw [ho]
    refine PE.listcomp (cl := []) (comp_nofree (by decide) (by decide) rfl (by decide)) (.inl ⟨by decide, _, _, rfl⟩) (IterE.seq (PE.slice (PE.name g1 ⟨tList, _, rfl, .inl rfl, hlen, ?_⟩))) (fun _ => rfl)
    refine PE.bin (PE.name g3 (PE.cint (op_add ⟨place + 1, rfl, PE.bin (PE.bin (PE.name g3 (PE.cint (op_add (PE.name g4 (op_add ⟨place + 1 + c, rfl, ?_⟩))))))⟩)))
    have hcut : cut (ns.map PV.int) (some (place + 1)) (some (place + 1 + c)) = (cut ns (some (place + 1)) (some (place + 1 + c))).map PV.int := by simp [cut, List.map_take, List.map_drop]
    refine ⟨tList, _, rfl, .inl rfl, ?_⟩
    rw [hcut]
    have hcl : (cut ns (some (place + 1)) (some (place + 1 + c))).length ≤ 4 := by simp [cut]; omega
    generalize cut ns (some (place + 1)) (some (place + 1 + c)) = zs at hcl
    let f : PV → PV := fun d => match d with | .int n => sy (n.fmod 6).toNat | _ => .none
    refine ⟨_, compok_map f (by simp; omega) fun C d hd => ?_, ?_⟩
    · obtain ⟨z, hz, rfl⟩ := List.mem_map.mp hd
      refine ⟨_, PA.name (.inl (by rfl)), Vw.le_set (inh_none (by rfl)), PE.item (PE.mono (glob_symbols (X := X) rfl (by rfl)) ?_)⟩
      rintro _ rfl
      obtain ⟨k, hk6, hkl⟩ := fmod_nat z 6 (by decide)
      refine ⟨tList, _, rfl, .inl rfl, by simp, PE.bin (PE.name set_here (PE.cint (op_mod (by decide) ⟨k, sy k, ?_, sy_at hkl, ?_⟩)))⟩
      · show PV.int (z.fmod ((6 : Nat) : Int)) = _
        rw [hk6]
      · show sy k = sy (z.fmod ((6 : Nat) : Int)).toNat
        rw [hk6]; rfl
    · rw [compok_map.flat_map]
      refine ⟨by simp, rfl, ?_⟩
      have hmap : (zs.map PV.int).map f = (zs.map fun z => symN (z.fmod 6).toNat).map .str := by simp [f, Function.comp_def, sy]
      rw [hmap]
      have hR' : Good (R ++ [(symN o, zs.map fun z => symN (z.fmod 6).toNat)]) := by
        refine ⟨by simp; omega, fun r hr => ?_⟩
        rcases List.mem_append.mp hr with hr | hr
        · exact hR.2 r hr
        · simp only [List.mem_singleton] at hr
          subst hr
          refine ⟨symN3 ho3, by simp; omega, fun x hx => ?_⟩
          obtain ⟨z, _, rfl⟩ := List.mem_map.mp hx
          obtain ⟨k, hk6, hkl⟩ := fmod_nat z 6 (by decide)
          have e6 : z.fmod 6 = k := hk6
          rw [e6]; exact symN6 (by simpa using hkl)
      have henc : PV.list (R.map encR ++ [.tup [sy o, .list ((zs.map fun z => symN (z.fmod 6).toNat).map .str)]]) = encRs (R ++ [(symN o, zs.map fun z => symN (z.fmod 6).toNat)]) := by simp [encRs, encR, sy]
      rw [henc]
      generalize R ++ [(symN o, zs.map fun z => symN (z.fmod 6).toNat)] = R' at hR' ⊢
      have i1 := set_there (x := "rules") (sl := .mt (encRs R')) g1 (by decide)
      have i2 : (q.set "rules" (.mt (encRs R'))).ρ "rules" = some (.mt (encRs R')) := set_here
      have i3 := set_there (x := "rules") (sl := .mt (encRs R')) g3 (by decide)
      have i4 := set_there (x := "rules") (sl := .mt (encRs R')) g4 (by decide)
      generalize q.set "rules" (.mt (encRs R')) = q at i1 i2 i3 i4 ⊢
      refine PS.seq (PS1.assign (loc (kd hk (by rfl))) (PE.bin (PE.bin (PE.name i3 (PE.cint (op_add (PE.name i4 (op_add ⟨rfl, PS.nil ?_⟩))))))) (by rfl))
      exact ⟨_, by omega, place + 1 + c, R', rfl, hR', set_there i1, set_there i2, set_here⟩
  · rintro f q ⟨rfl, R, hR, h⟩
    exact ⟨rfl, PS.freeze h (PS.cons (Ψ := fun f q => f = .ret (encRs R)) (PS1.ret (PE.name set_here rfl)) (fun _ h => nomatch h) fun f _ _ h => by subst h; exact ⟨R, hR, rfl⟩)⟩
end Mine
namespace Mine
open PySem PySem.W PySem.Calls PyProof.Rows

inductive Nul (R : List Rl) : Str → Prop
  | mk (r : Rl) (h : r ∈ R) (hx : ∀ x ∈ r.2, Nul R x) : Nul R r.1

/-- what _law_nullable gives -/
def IsNul (R : List Rl) (d : PV) : Prop := ∃ E : List Str, d = .list (E.map .str) ∧ sortedS E = true ∧ E.Nodup ∧ ∀ x, x ∈ E ↔ Nul R x

theorem str_list_flat {l : List Str} : ∀ x ∈ l.map PV.str, Flat x := fun x hx => by obtain ⟨y, _, rfl⟩ := List.mem_map.mp hx; trivial
theorem comp_shape0 {Y : Act} {scope : Scope} (h : ∀ x ∈ scope.names, x.2 ≠ .free) (hc : ∀ y ∈ scope.names, y.2 ≠ .cell) (hk : scope.kind = .function) (hn : ∀ y ∈ scope.names, y.2 = .local → scope.names.lookup y.1 = some .local) :
    CompShape Y scope (freeCells Y.env scope.names []) := comp_shape (fun x hx e => absurd e (h x hx)) hc hk hn
open Classical in
theorem eq_decide_str (a b : Str) : (a == b) = decide (PV.str a = PV.str b) := by
  by_cases h : a = b
  · subst h; simp
  · simp [h]

theorem nodup_len : ∀ (l k : List Str), l.Nodup → (∀ x ∈ l, x ∈ k) → l.length ≤ k.length
  | [], _, _, _ => Nat.zero_le _
  | a :: l, k, hn, hs => by
    have ha := hs a List.mem_cons_self
    have hn' := List.nodup_cons.mp hn
    have := nodup_len l (k.erase a) hn'.2 fun x hx => (List.mem_erase_of_ne (fun e : x = a => hn'.1 (e ▸ hx))).mpr (hs x (List.mem_cons_of_mem _ hx))
    rw [List.length_erase_of_mem ha] at this
    have hp : 0 < k.length := List.length_pos_of_mem ha
    simp; omega

def NewOk (R : List Rl) (F N : List Str) : Prop := N.Nodup ∧ ∀ x, x ∈ N ↔ x ∉ F ∧ ∃ r ∈ R, r.1 = x ∧ ∀ y ∈ r.2, y ∈ F
def restF (F : List Str) (r : Rl) : List Str := r.2.filter fun x => !decide (x ∈ F)
def leftF (R : List Rl) (F : List Str) : PV := .list (R.map fun r => .tup [.str r.1, .list ((restF F r).map .str)])
theorem restF_nil (r : Rl) : restF [] r = r.2 := by simp [restF]
theorem restF_isEmpty (F : List Str) (r : Rl) : (restF F r).isEmpty = true ↔ ∀ y ∈ r.2, y ∈ F := by
  rw [List.isEmpty_iff, restF, List.filter_eq_nil_iff]
  simp
theorem restF_more (F N : List Str) (r : Rl) : (restF F r).filter (fun x => !decide (x ∈ F ++ N)) = restF (F ++ N) r := by
  rw [restF, restF, List.filter_filter]
  congr 1
  funext x
  simp [List.mem_append]
  intro h _; exact h
theorem mem_strs {x : Str} {l : List Str} : PV.str x ∈ l.map PV.str ↔ x ∈ l := by simp
theorem newOk_of {R : List Rl} {F : List Str} {L : List Str} {d : PV} (h : SortedSetOf (L.map PV.str) d) (hL : ∀ x, x ∈ L ↔ x ∉ F ∧ ∃ r ∈ R, r.1 = x ∧ ∀ y ∈ r.2, y ∈ F) : ∃ N, d = .list (N.map .str) ∧ NewOk R F N := by
  obtain ⟨ss, rfl, _, hn, hm⟩ := h
  exact ⟨ss, rfl, hn, fun x => by rw [hm, mem_strs, hL]⟩
theorem nul_step {R : List Rl} {F N : List Str} (hF : ∀ x ∈ F, Nul R x) (hN : NewOk R F N) : ∀ x ∈ F ++ N, Nul R x := fun x hx => by
  rcases List.mem_append.mp hx with h | h
  · exact hF x h
  · obtain ⟨_, r, hr, rfl, hy⟩ := (hN.2 x).mp h
    exact .mk r hr fun y h => hF y (hy y h)
theorem nul_nodup {R : List Rl} {F N : List Str} (hF : F.Nodup) (hN : NewOk R F N) : (F ++ N).Nodup := by
  rw [List.nodup_append]
  exact ⟨hF, hN.1, fun a ha b hb e => by subst e; exact ((hN.2 a).mp hb).1 ha⟩
theorem nul_len {R : List Rl} {F : List Str} (hR : Good R) (hn : F.Nodup) (hF : ∀ x ∈ F, Nul R x) : F.length ≤ 3 :=
  nodup_len F names3 hn fun x hx => by
    obtain ⟨r, hr, _⟩ := hF x hx
    exact (hR.2 r hr).1
theorem nul_done {R : List Rl} {F : List Str} (hN : NewOk R F []) : ∀ x, Nul R x → x ∈ F := fun x h => by
  induction h with
  | mk r hr hx ih =>
    by_cases h : r.1 ∈ F
    · exact h
    · exact absurd ((hN.2 r.1).mpr ⟨h, r, hr, rfl, ih⟩) (by simp)

theorem if_elt {Y : Act} {q : Vw} {elt : Expr} {a : PV} {b : Bool} (h : b = true → PE Y q elt fun d => d = a) : (b = false → (if b then [a] else []) = []) ∧ (b = true → PE Y q elt fun d => (if b then [a] else []) = [d]) :=
  ⟨fun e => by rw [e]; rfl, fun e => PE.mono (h e) fun d hd => by rw [e, hd]; rfl⟩
theorem len_if {α : Type} (xs : List α) (p : α → Bool) (f : α → PV) (hz : xs.length ≤ 4096) : (xs.map fun x => if p x then [f x] else []).flatten.length ≤ 4096 := by
  rw [flat_if, List.length_map]
  exact Nat.le_trans (List.length_filter_le _ _) hz
theorem len_one {α : Type} (xs : List α) (f : α → PV) (hz : xs.length ≤ 4096) : (xs.map fun x => [f x]).flatten.length ≤ 4096 := by
  rw [flat_one, List.length_map]
  exact hz
theorem comp_shape1 {Y : Act} {scope : Scope} (z : Str) {c : Addr} (hz : Y.env.cells.lookup z = some c) (h : ∀ x ∈ scope.names, x.2 = .free → x.1 = z) (hc : ∀ y ∈ scope.names, y.2 ≠ .cell) (hk : scope.kind = .function) (hn : ∀ y ∈ scope.names, y.2 = .local → scope.names.lookup y.1 = some .local) :
    CompShape Y scope (freeCells Y.env scope.names []) := comp_shape (fun x hx e => by rw [h x hx e, hz]; rfl) hc hk hn
open Classical in
theorem flat_notin (F : List Str) (l : List Str) : (l.map fun x => if (!decide (PV.str x ∈ F.map PV.str)) = true then [PV.str x] else []).flatten = (l.filter fun x => !decide (x ∈ F)).map .str := by
  rw [flat_if]
  congr 1
  apply List.filter_congr
  intro x _
  simp
open Classical in
theorem eqs_strs {X : Wd} {m : Nat} {F : List Str} {x : Str} : ∀ y ∈ F.map PV.str, EqOk X m y (.str x) (decide (y = .str x)) := fun y hy => by
  obtain ⟨z, _, rfl⟩ := List.mem_map.mp hy
  have := eqok_str (X := X) (n := m) z x
  rwa [eq_decide_str] at this

open Classical in
theorem lawNullable {X : Wk} (R : List Rl) (hR : Good R) : FC X.toWd 15 (.ref 434) [encRs R] (IsNul R) := by
  refine fc_enter (n := 14) (by decide) (names := ["rules"]) (by rw [X.hK]; rfl) rfl rfl (fun vals hv => match vals, hv with | [a], _ => rfl) rfl (by decide)
    (fun L x hx => by simp only [List.mem_singleton] at hx; subst hx; exact .inl (by rfl)) (by rw [X.hK]; rfl) rfl rfl rfl rfl rfl fun L V env he => ?_
  have hk := congrArg (fun e : Env => e.scope.names) he
  dsimp only [callEnvC, newEnv] at hk
  have hf : env.scope.kind = .function := by rw [he]; rfl
  have hc : env.cells.lookup ("found" : Str) = some (L + 1) := by rw [he]; rfl
  clear he
  have hlen : ∀ {F : List Str}, F.length ≤ 3 → (F.map PV.str).length ≤ 4096 := fun h => by simp; omega
  have fso : ∀ {Y : Act}, Y.toWd = X.toWd → Y.env.kindOf "sorted" = some .globalImplicit → FnIs Y "sorted" (.builtin "sorted") := fun h k => fnis_b (X := X) h k (by rfl) (by rfl)
  have fse : ∀ {Y : Act}, Y.toWd = X.toWd → Y.env.kindOf "set" = some .globalImplicit → FnIs Y "set" (.type "set") := fun h k => fnis_b (X := X) h k (by rfl) (by rfl)
  have fli : ∀ {Y : Act}, Y.toWd = X.toWd → Y.env.kindOf "list" = some .globalImplicit → FnIs Y "list" (.type "list") := fun h k => fnis_b (X := X) h k (by rfl) (by rfl)
  have loc : ∀ {x : Str}, env.kindOf x = some .local → Storable (X.act env V 14 (by decide)) x := fun h => .inl h
  have kfound : env.kindOf "found" = some .cell := kd hk (by rfl)
  have sfound : Storable (X.act env V 14 (by decide)) "found" := .inr ⟨kfound, _, hc, .inr ⟨_, hc⟩⟩
  -- left = ..
  refine PS.seq (PS1.assignComp (nm := .seq) (loc (kd hk (by rfl))) (comp_shape0 (by decide) (by decide) rfl (by decide)) (.inr ⟨_, _, _, rfl⟩) (IterE.seq (PE.name (q0_here (by rfl)) ⟨tList, _, rfl, .inl rfl, _,
    compok_pair R (fun r => .str r.1) (fun r => .list (r.2.map .str)) (fun r => [encR r]) (by rw [flat_one]; have := hR.1; simp; omega) (by rfl) (by rfl) (by decide) (fun C r q'' hr h1 h2 h3 => pts_elt (PE.tup (PE.name h1 (PE.call (fli rfl (ck_other (by decide) (by rfl))) (.inr (.inl ⟨_, rfl⟩)) (PE.name h2 (fc_list (by have := (hR.2 r hr).2.1; simp; omega) ⟨by simp, rfl⟩)))))), ?_⟩)) (fun _ => rfl) (swaps_true hf (kd hk (by rfl)) (by rfl) (by rfl)))
  rw [flat_one]
  refine ⟨rfl, ?_⟩
  refine PS.seq (PS1.assign sfound (PE.list (es := []) ⟨by decide, rfl, ?_⟩) (by rfl))
  have hz : R.length ≤ 4096 := by have := hR.1; omega
  -- new = sorted(set([..]))
  refine PS.seq (PS1.assign (x := "new") (loc (kd hk (by rfl))) (PE.sortedSet (fso rfl (kd hk (by rfl))) (fse rfl (kd hk (by rfl))) (by show 9 ≤ 14; decide) rfl (PE.listcomp (nm := .seq) (comp_shape0 (by decide) (by decide) rfl (by decide)) (.inr ⟨_, _, _, rfl⟩)
    (IterE.seq (PE.name (set_there set_here) ⟨tList, _, rfl, .inl rfl, _, compok_pair R (fun r => .str r.1) (fun r => .list (r.2.map .str)) (fun r => if (r.2.map PV.str).isEmpty then [.str r.1] else []) (len_if _ _ _ hz) (by rfl) (by rfl) (by decide) (fun C r q'' hr h1 h2 h3 => pts_if (PT.cmp (PE.name h2 (PE.list (es := []) ⟨by decide, op_eq_nil ⟨_, rfl, if_elt fun _ => PE.name h1 rfl⟩⟩)))), ?_⟩)) (fun _ => rfl))) (by rfl))
  refine ⟨_, rfl, ?_, ?_, fun d hd => ?_⟩
  · rw [flat_if]; intro d hd; obtain ⟨r, _, rfl⟩ := List.mem_map.mp hd; exact ⟨_, rfl⟩
  · rw [flat_if, List.length_map]; have := hR.1; have h2 := List.length_filter_le (fun r : Rl => (r.2.map PV.str).isEmpty) R; omega
  rw [flat_if] at hd
  obtain ⟨N₀, rfl, hN₀⟩ := newOk_of (R := R) (F := []) (L := (R.filter fun r => (r.2.map PV.str).isEmpty).map (·.1)) (d := d) (by simpa [Function.comp_def] using hd) (fun x => by
    simp only [List.mem_map, List.mem_filter, List.not_mem_nil, not_false_eq_true, true_and]
    constructor
    · rintro ⟨r, ⟨hr, he⟩, rfl⟩
      exact ⟨r, hr, rfl, fun y hy => by simp at he; rw [he] at hy; exact absurd hy (by simp)⟩
    · rintro ⟨r, hr, rfl, he⟩
      refine ⟨r, ⟨hr, ?_⟩, rfl⟩
      have : r.2 = [] := List.eq_nil_iff_forall_not_mem.mpr he
      rw [this]; rfl)
  refine ⟨rfl, ?_⟩
  refine PS.cons (PS1.while_ (Φ := fun f q => f = .next ∧ ∃ F : List Str, F.Nodup ∧ (∀ x, x ∈ F ↔ Nul R x) ∧ F.length ≤ 3 ∧ q.ρ "found" = some (.fz (.list (F.map .str)))) (fun n q => ∃ F N : List Str, n = 4 - F.length ∧ F.Nodup ∧ (∀ x ∈ F, Nul R x) ∧ NewOk R F N ∧ q.ρ "left" = some (.fz (leftF R F)) ∧ q.ρ "found" = some (.fz (.list (F.map .str))) ∧ q.ρ "new" = some (.fz (.list (N.map .str))))
    4 ⟨[], N₀, rfl, .nil, (fun x h => nomatch h), hN₀, ?_, set_there set_here, set_here⟩ ?_) (fun q h => ?_) (fun f q hne h => absurd h.1 hne)
  · refine (set_there (set_there set_here)).trans ?_
    simp only [leftF, restF_nil]; rfl
  · rintro n q ⟨F, N, rfl, hFn, hF, hN, h1, h2, h3⟩
    refine PT.cmp (PE.name h3 (PE.list (es := []) ⟨by decide, op_ne_nil ⟨_, rfl, fun e => ?_, fun e => ?_⟩⟩))
    · have hN0 : N = [] := by simpa using e
      subst hN0
      exact ⟨rfl, F, hFn, fun x => ⟨hF x, nul_done hN x⟩, nul_len hR hFn hF, h2⟩
    have hNe : N ≠ [] := by simpa using e
    have hNl : 0 < N.length := List.length_pos_iff.mpr hNe
    have hF' := nul_step hF hN
    have hFn' := nul_nodup hFn hN
    have hl' := nul_len hR hFn' hF'
    have hll : F.length + N.length ≤ 3 := by simpa using hl'
    refine PS.seq (PS1.assign sfound (PE.bin (PE.name h2 (PE.name h3 (op_addl (by simp; omega) ?_)))) (by rfl))
    rw [← List.map_append]
    refine ⟨rfl, ?_⟩
    have g1 := set_there (x := "found") (sl := .fz (.list ((F ++ N).map .str))) h1 (by decide)
    have g2 : (q.set "found" (.fz (.list ((F ++ N).map .str)))).ρ "found" = _ := set_here
    generalize q.set "found" (.fz (.list ((F ++ N).map .str))) = q at g1 g2 ⊢
    refine PS.seq (PS1.assignComp (nm := .seq) (x := "left") (loc (kd hk (by rfl))) (comp_shape1 "found" hc (by decide) (by decide) rfl (by decide)) (.inr ⟨_, _, _, rfl⟩)
      (IterE.seq (PE.name g1 ⟨tList, _, rfl, .inl rfl, _, compok_pair R (fun r => .str r.1) (fun r => .list ((restF F r).map .str)) (fun r => [.tup [.str r.1, .list ((restF (F ++ N) r).map .str)]]) (len_one _ _ hz) (by rfl) (by rfl) (by decide) (fun C r q'' hr h1 h2 h3 => pts_elt (PE.tup (PE.name h1 (PE.listcomp (nm := .seq) (comp_shape1 "found" (cc_cell hc (by rfl)) (by decide) (by decide) rfl (by decide)) (.inl ⟨by decide, _, _, rfl⟩) (IterE.seq (PE.name h2 ?_)) (fun _ => rfl))))), ?_⟩)) (fun _ => rfl) (swaps_true hf (kd hk (by rfl)) (by rfl) (by rfl)))
    · have hfd : q''.ρ "found" = some (.fz (.list ((F ++ N).map .str))) := (h3 _ (by decide) (by decide)).trans ((inh_cell hf kfound hc (by rfl)).trans g2)
      have hr4 := (hR.2 r hr).2.1
      have hr5 := List.length_filter_le (fun x => !decide (x ∈ F)) r.2
      refine ⟨tList, _, rfl, .inl rfl, _, compok_name (restF F r) .str _ (len_if _ _ _ (by simp only [restF]; omega)) (by rfl) (fun C' x q3 hx i1 i2 => pts_if (PT.cmp (PE.name i1 (PE.name ((i2 _ (by decide)).trans ((inh_cell (c := L + 1) rfl (ck_cell hf kfound (by rfl)) (cc_cell hc (by rfl)) (by rfl)).trans hfd)) (op_notin (.inl rfl) trivial str_list_flat eqs_strs ⟨_, rfl, if_elt fun _ => PE.name i1 rfl⟩))))), ?_⟩
      rw [flat_notin, restF_more]
      exact ⟨by simp, rfl⟩
    rw [flat_one]
    refine ⟨rfl, ?_⟩
    show PS _ (q.set "left" (.fz (leftF R (F ++ N)))) _ _
    have i1 : (q.set "left" (.fz (leftF R (F ++ N)))).ρ "left" = _ := set_here
    have i2 := set_there (x := "left") (sl := .fz (leftF R (F ++ N))) g2 (by decide)
    generalize q.set "left" (.fz (leftF R (F ++ N))) = q at i1 i2 ⊢
    refine PS.seq (PS1.assign (x := "new") (loc (kd hk (by rfl))) (PE.sortedSet (fso rfl (kd hk (by rfl))) (fse rfl (kd hk (by rfl))) (by show 9 ≤ 14; decide) rfl (PE.listcomp (nm := .seq) (comp_shape1 "found" hc (by decide) (by decide) rfl (by decide)) (.inr ⟨_, _, _, rfl⟩)
      (IterE.seq (PE.name i1 ⟨tList, _, rfl, .inl rfl, _, compok_pair R (fun r => .str r.1) (fun r => .list ((restF (F ++ N) r).map .str)) _ (len_if _ _ _ hz) (by rfl) (by rfl) (by decide) (fun C r q'' hr h1 h2 h3 => pts_if (PT.mono (P := fun b => b = (((restF (F ++ N) r).map PV.str).isEmpty && !decide (PV.str r.1 ∈ (F ++ N).map PV.str))) (PT.and_ (PT.cmp (PE.name h2 (PE.list (es := []) ⟨by decide, op_eq_nil ⟨_, rfl, (fun e => by rw [e]; rfl), fun e => PT.cmp (PE.name h1 (PE.name ((h3 _ (by decide) (by decide)).trans ((inh_cell hf kfound hc (by rfl)).trans i2)) (op_notin (.inl rfl) trivial str_list_flat eqs_strs ⟨_, rfl, by rw [e]; rfl⟩)))⟩⟩)))) fun b hb => by subst hb; exact if_elt fun _ => PE.name h1 rfl)), ?_⟩)) (fun _ => rfl))) (by rfl))
    refine ⟨_, rfl, ?_, ?_, fun d hd => ?_⟩
    · rw [flat_if]; intro d hd; obtain ⟨r, _, rfl⟩ := List.mem_map.mp hd; exact ⟨_, rfl⟩
    · rw [flat_if, List.length_map]; have := hR.1; have h2 := List.length_filter_le (fun r : Rl => ((restF (F ++ N) r).map PV.str).isEmpty && !decide (PV.str r.1 ∈ (F ++ N).map PV.str)) R; omega
    rw [flat_if] at hd
    obtain ⟨N₁, rfl, hN₁⟩ := newOk_of (R := R) (F := F ++ N) (L := (R.filter fun r => ((restF (F ++ N) r).map PV.str).isEmpty && !decide (PV.str r.1 ∈ (F ++ N).map PV.str)).map (·.1)) (d := d) (by simpa [Function.comp_def] using hd) (fun x => by
      simp only [List.mem_map, List.mem_filter, Bool.and_eq_true, List.isEmpty_map, restF_isEmpty, Bool.not_eq_true', decide_eq_false_iff_not, mem_strs]
      constructor
      · rintro ⟨r, ⟨hr, he, hn⟩, rfl⟩
        exact ⟨by simpa using hn, r, hr, rfl, he⟩
      · rintro ⟨hn, r, hr, rfl, he⟩
        exact ⟨r, ⟨hr, he, by simpa using hn⟩, rfl⟩)
    refine ⟨rfl, PS.nil ⟨4 - (F ++ N).length, by simp; omega, F ++ N, N₁, rfl, hFn', hF', hN₁, set_there i1, set_there i2, set_here⟩⟩
  · obtain ⟨_, F, hFn, hF, hl, h⟩ := h
    refine PS.cons (Ψ := fun f q => ∃ d, f = .ret d ∧ IsNul R d) (PS1.ret (PE.call (fso rfl (kd hk (by rfl))) (.inr (.inr ⟨_, rfl⟩)) (PE.name h (fc_sorted (fun d hd => by obtain ⟨x, _, rfl⟩ := List.mem_map.mp hd; exact ⟨x, rfl⟩) (by simp; omega) fun d hd => ?_)))) (fun q ⟨d, e, _⟩ => nomatch e) fun f q hne h => by obtain ⟨d, rfl, hd⟩ := h; exact hd
    obtain ⟨ss, rfl, hs, hp⟩ := hd
    have hp' : ss.Perm F := by
      have := hp.map (fun d => match d with | .str x => x | _ => ⟨#[]⟩)
      simpa [Function.comp_def] using this
    exact ⟨_, rfl, ss, rfl, hs, hp'.nodup_iff.mpr hFn, fun x => by rw [hp'.mem_iff, hF]⟩
end Mine
namespace Mine
open PySem PySem.W PySem.Calls PyProof.Rows

abbrev Pr := Str × Str
inductive Reach (S : List Pr) (x : Str) : Str → Prop
  | refl : Reach S x x
  | step {y z : Str} (h : Reach S x y) (hp : (y, z) ∈ S) : Reach S x z
def encP (S : List Pr) : PV := .list (S.map fun p => .tup [.str p.1, .str p.2])
/-- what _law_come gives -/
def IsCome (S : List Pr) (x : Str) (d : PV) : Prop := ∃ E : List Str, d = .list (E.map .str) ∧ E.Nodup ∧ ∀ y, y ∈ E ↔ Reach S x y

theorem come_sub {S : List Pr} {x : Str} : ∀ {y : Str}, Reach S x y → y ∈ x :: S.map (·.2)
  | _, .refl => List.mem_cons_self
  | _, .step h hp => List.mem_cons_of_mem _ (List.mem_map.mpr ⟨_, hp, rfl⟩)
theorem come_len {S : List Pr} {x : Str} {F : List Str} (hn : F.Nodup) (h : ∀ y ∈ F, Reach S x y) : F.length ≤ S.length + 1 := by
  have := nodup_len F (x :: S.map (·.2)) hn fun y hy => come_sub (h y hy)
  simpa using this

theorem comp_shape2 {Y : Act} {scope : Scope} (z z' : Str) {c c' : Addr} (hz : Y.env.cells.lookup z = some c) (hz' : Y.env.cells.lookup z' = some c') (h : ∀ x ∈ scope.names, x.2 = .free → x.1 = z ∨ x.1 = z') (hc : ∀ y ∈ scope.names, y.2 ≠ .cell) (hk : scope.kind = .function) (hn : ∀ y ∈ scope.names, y.2 = .local → scope.names.lookup y.1 = some .local) :
    CompShape Y scope (freeCells Y.env scope.names []) := comp_shape (fun x hx e => by rcases h x hx e with w | w <;> rw [w] <;> simp only [hz, hz'] <;> rfl) hc hk hn

open Classical in
theorem lawCome {X : Wk} (S : List Pr) (x : Str) (hS : S.length < 60) : FC X.toWd 15 (.ref 439) [encP S, .str x] (IsCome S x) := by
  refine fc_enter (n := 14) (by decide) (names := ["pairs", "x"]) (by rw [X.hK]; rfl) rfl rfl (fun vals hv => match vals, hv with | [a, b], _ => rfl) rfl (by decide)
    (fun L x hx => by simp only [List.mem_cons, List.mem_singleton, List.not_mem_nil, or_false] at hx; rcases hx with hx | hx <;> subst hx <;> exact .inl (by rfl)) (by rw [X.hK]; rfl) rfl rfl rfl rfl rfl fun L V env he => ?_
  have hk := congrArg (fun e : Env => e.scope.names) he
  dsimp only [callEnvC, newEnv] at hk
  have hf : env.scope.kind = .function := by rw [he]; rfl
  have hc : ∃ c, env.cells.lookup ("found" : Str) = some c := by rw [he]; exact ⟨_, rfl⟩
  have hc2 : ∃ c, env.cells.lookup ("place" : Str) = some c := by rw [he]; exact ⟨_, rfl⟩
  clear he
  obtain ⟨c, hc⟩ := hc
  obtain ⟨c2, hc2⟩ := hc2
  have fso : ∀ {Y : Act}, Y.toWd = X.toWd → Y.env.kindOf "sorted" = some .globalImplicit → FnIs Y "sorted" (.builtin "sorted") := fun h k => fnis_b (X := X) h k (by rfl) (by rfl)
  have fse : ∀ {Y : Act}, Y.toWd = X.toWd → Y.env.kindOf "set" = some .globalImplicit → FnIs Y "set" (.type "set") := fun h k => fnis_b (X := X) h k (by rfl) (by rfl)
  have fle : ∀ {Y : Act}, Y.toWd = X.toWd → Y.env.kindOf "len" = some .globalImplicit → FnIs Y "len" (.builtin "len") := fun h k => fnis_b (X := X) h k (by rfl) (by rfl)
  have kfound : env.kindOf "found" = some .cell := kd hk (by rfl)
  have kplace : env.kindOf "place" = some .cell := kd hk (by rfl)
  have sfound : Storable (X.act env V 14 (by decide)) "found" := .inr ⟨kfound, _, hc, .inr ⟨_, hc⟩⟩
  have splace : Storable (X.act env V 14 (by decide)) "place" := .inr ⟨kplace, _, hc2, .inr ⟨_, hc2⟩⟩
  refine PS.seq (PS1.assign sfound (PE.list (PE.name (q0_here (by rfl)) ⟨by simp, rfl, ?_⟩)) (by rfl))
  refine PS.seq (PS1.assign splace (PE.cint ⟨rfl, ?_⟩) (by rfl))
  refine PS.cons (PS1.while_ (Φ := fun f q => f = .next ∧ ∃ F : List Str, F.Nodup ∧ (∀ y, y ∈ F ↔ Reach S x y) ∧ q.ρ "found" = some (.fz (.list (F.map .str)))) (fun n q => ∃ (F : List Str) (i : Nat), n = S.length + 1 - i ∧ F.Nodup ∧ x ∈ F ∧ (∀ y ∈ F, Reach S x y) ∧ (∀ j y z, j < i → F[j]? = some y → (y, z) ∈ S → z ∈ F) ∧ i ≤ F.length ∧ q.ρ "pairs" = some (.fz (encP S)) ∧ q.ρ "found" = some (.fz (.list (F.map .str))) ∧ q.ρ "place" = some (.fz (.int i)))
    (S.length + 1) ⟨[x], 0, rfl, by simp, by simp, fun y hy => by simp at hy; subst hy; exact .refl, fun j y z h => by omega, by simp, set_there (set_there (q0_here (by rfl))), set_there set_here, set_here⟩ ?_) (fun q h => ?_) (fun f q hne h => absurd h.1 hne)
  · rintro n q ⟨F, i, rfl, hFn, hx, hF, hcl, hi, h1, h2, h3⟩
    have hlF := come_len hFn hF
    refine PT.cmp (PE.name h3 (PE.call (fle rfl (kd hk (by rfl))) (.inr (.inr ⟨_, rfl⟩)) (PE.name h2 (fc_len_list (by simp; omega) (op_lt ⟨_, rfl, fun e => ?_, fun e => ?_⟩)))))
    · have : i = F.length := by simp at e; omega
      subst this
      refine ⟨rfl, F, hFn, fun y => ⟨hF y, fun h => ?_⟩, h2⟩
      induction h with
      | refl => exact hx
      | step h hp ih =>
        obtain ⟨j, hj⟩ := List.mem_iff_getElem?.mp ih
        exact hcl j _ _ (List.getElem?_eq_some_iff.mp hj).1 hj hp
    have hlt : i < F.length := by simpa using e
    have hgd : (F.map PV.str)[i]? = some (.str F[i]) := by rw [List.getElem?_map, List.getElem?_eq_getElem hlt]; rfl
    refine PS.seq (PS1.assign sfound (PE.bin (PE.name h2 (PE.sortedSet (fso rfl (kd hk (by rfl))) (fse rfl (kd hk (by rfl))) (by show 9 ≤ 14; decide) rfl (PE.listcomp (nm := .seq) (comp_shape2 "found" "place" hc hc2 (by decide) (by decide) rfl (by decide)) (.inr ⟨_, _, _, rfl⟩)
      (IterE.seq (PE.name h1 ⟨tList, _, rfl, .inl rfl, _, compok_pair S (fun p => .str p.1) (fun p => .str p.2) _ (len_if _ _ _ (by omega)) (by rfl) (by rfl) (by decide) (fun C r q'' hr i1 i2 i3 => pts_if (PT.mono (P := fun b => b = ((r.1 == F[i]) && !decide (PV.str r.2 ∈ F.map PV.str))) (PT.and_ (PT.cmp (PE.name i1 (PE.item (PE.name ((i3 _ (by decide) (by decide)).trans ((inh_cell hf kfound hc (by rfl)).trans h2)) ⟨tList, _, rfl, .inl rfl, (by simp; omega), PE.name ((i3 _ (by decide) (by decide)).trans ((inh_cell hf kplace hc2 (by rfl)).trans h3)) ⟨i, _, rfl, hgd, op_eq_str ⟨_, rfl, (fun e => by rw [e]; rfl), fun e => PT.cmp (PE.name i2 (PE.name ((i3 _ (by decide) (by decide)).trans ((inh_cell hf kfound hc (by rfl)).trans h2)) (op_notin (.inl rfl) trivial str_list_flat eqs_strs ⟨_, rfl, by rw [e]; rfl⟩)))⟩⟩⟩))))) fun b hb => by subst hb; exact if_elt fun _ => PE.name i2 rfl)), ?_⟩)) (fun _ => rfl)))))  (by rfl))
    refine ⟨_, rfl, ?_, ?_, fun d hd => ?_⟩
    · rw [flat_if]; intro d hd; obtain ⟨r, _, rfl⟩ := List.mem_map.mp hd; exact ⟨_, rfl⟩
    · rw [flat_if, List.length_map]; have h2 := List.length_filter_le (fun r : Pr => (r.1 == F[i]) && !decide (PV.str r.2 ∈ F.map PV.str)) S; omega
    rw [flat_if] at hd
    obtain ⟨N, rfl, _, hNn, hNm⟩ := hd
    have hN : ∀ z, z ∈ N ↔ (F[i], z) ∈ S ∧ z ∉ F := fun z => by
      rw [hNm]
      simp only [List.mem_map, List.mem_filter, Bool.and_eq_true, beq_iff_eq, Bool.not_eq_true', decide_eq_false_iff_not, PV.str.injEq]
      constructor
      · rintro ⟨⟨a, b⟩, ⟨hr, ha, hb⟩, rfl⟩
        dsimp only at ha hb ⊢
        subst ha
        exact ⟨hr, by simpa using hb⟩
      · rintro ⟨hr, hz⟩
        exact ⟨(F[i], z), ⟨hr, rfl, by simpa using hz⟩, rfl⟩
    have hF' : ∀ y ∈ F ++ N, Reach S x y := fun y hy => by
      rcases List.mem_append.mp hy with h | h
      · exact hF y h
      · exact .step (hF _ (List.getElem_mem hlt)) ((hN y).mp h).1
    have hFn' : (F ++ N).Nodup := by
      rw [List.nodup_append]
      exact ⟨hFn, hNn, fun a ha b hb e => by subst e; exact ((hN a).mp hb).2 ha⟩
    have hl' := come_len hFn' hF'
    have hll : F.length + N.length ≤ S.length + 1 := by simpa using hl'
    refine op_addl (by simp; omega) ?_
    rw [← List.map_append]
    refine ⟨rfl, ?_⟩
    have g1 := set_there (x := "found") (sl := .fz (.list ((F ++ N).map .str))) h1 (by decide)
    have g2 : (q.set "found" (.fz (.list ((F ++ N).map .str)))).ρ "found" = _ := set_here
    have g3 := set_there (x := "found") (sl := .fz (.list ((F ++ N).map .str))) h3 (by decide)
    generalize q.set "found" (.fz (.list ((F ++ N).map .str))) = q at g1 g2 g3 ⊢
    refine PS.seq (PS1.assign splace (PE.bin (PE.name g3 (PE.cint (op_add ⟨rfl, PS.nil ?_⟩)))) (by rfl))
    refine ⟨S.length + 1 - (i + 1), by omega, F ++ N, i + 1, rfl, hFn', List.mem_append_left _ hx, hF', fun j y z hj hy hz => ?_, by simp; omega, set_there g1, set_there g2, set_here⟩
    have hjF : j < F.length := by omega
    rw [List.getElem?_append_left hjF] at hy
    by_cases hji : j < i
    · exact List.mem_append_left _ (hcl j y z hji hy hz)
    · have : j = i := by omega
      subst this
      rw [List.getElem?_eq_getElem hlt] at hy
      cases hy
      by_cases hzF : z ∈ F
      · exact List.mem_append_left _ hzF
      · exact List.mem_append_right _ ((hN z).mpr ⟨hz, hzF⟩)
  · obtain ⟨_, F, hFn, hF, h⟩ := h
    exact PS.cons (Ψ := fun f q => ∃ d, f = .ret d ∧ IsCome S x d) (PS1.ret (PE.name h ⟨_, rfl, F, rfl, hFn, hF⟩)) (fun q ⟨d, e, _⟩ => nomatch e) fun f q hne h => by obtain ⟨d, rfl, hd⟩ := h; exact hd
end Mine
namespace Mine
open PySem PySem.W PySem.Calls PyProof.Rows

section
variable {prog : Program} {w : World} {A : Around} {s : Shared}
theorem codeAny_call_cellsD {R : Result → Shared → Prop} {a : Addr} {o : Obj} {fd : FuncData} {body : List Stmt} {args : Args} {binds : List (Str × Value)}
    (hroom : A.depth < recursionLimit) (ho : s.heap.get? a = some o) (hdata : o.data = .func fd) (hlim : s.heap.NoLimit) (hcd : s.heap.CodeRec fd.code fd.qualname)
    (hbody : fd.body = .stmts body) (hbind : BindsTo s fd args binds) (hclo : fd.closure = [])
    (hkind : ∀ x ∈ binds, fd.scope.names.lookup x.1 = some .local ∨ (fd.scope.names.lookup x.1 = some .cell ∧ ((cellsFrom (s.heap.objs.size + 1) fd.scope.names []).lookup x.1).isSome = true))
    (h : ∀ s₁, InCallC s (callEnvC fd s.heap.objs.size a).locals (bindL (callEnvC fd s.heap.objs.size a).kindOf binds fun _ => none) (callEnvC fd s.heap.objs.size a).cells
        (bindC (callEnvC fd s.heap.objs.size a).kindOf binds fun _ => none) s₁ →
      wpAny (model prog w) (A.deeper (callEnvC fd s.heap.objs.size a)) (execs body (callEnvC fd s.heap.objs.size a)) (fun f s' => R (.ok (.ret (match f with | .ret v => v | _ => .none))) s')
        (fun e s' => wpAny (model prog w) (A.deeper (callEnvC fd s.heap.objs.size a)) (leaving (callEnvC fd s.heap.objs.size a) e) (fun _ s'' => R (.error e) s'') (fun e' s'' => R (.error e') s'') s') s₁)
    (hco : fd.scope.isCoroutine = false := by rfl) (hgen : fd.scope.isGenerator = false := by rfl) (hk : fd.scope.kind = .function := by rfl) :
    codeAny (model prog w) A (.call (.ref a) args) R s := by
  refine codeAny_call_function hroom ho hdata hco hgen hbody hcd (hbind _ _ _ _ ?_)
  rw [hclo]
  refine wpAny_newFunctionEnv_cells hk hkind fun env he s' x => ?_
  subst he
  exact ⟨hlim.keeps x.toInCall.keep, codeAny_func (h s' x)⟩
end

/-- what stays, whatever is done beside it -/
def Stab (S : Rgn) (I : Rgn → Heap → Prop) : Prop := ∀ (V₁ V₂ : Rgn) (h₁ h₂ : Heap), I V₁ h₁ → (∀ b o, S b → h₁.get? b = some o → h₂.get? b = some o) → (∀ b o, ¬ V₁ b → h₁.get? b = some o → ¬ V₂ b ∧ h₂.get? b = some o) → I V₂ h₂

/-- what a call leaves -/
def OutS (X : Wd) (V : Rgn) (Φ : AF → Vw → Prop) (S : Rgn) (s : Shared) (v : Value) (s' : Shared) : Prop :=
  ∃ af q', Φ af q' ∧ (match af with | .ret d => Val X.P V s'.heap d v | _ => v = .none) ∧ Step S s s' ∧ q'.I V s'.heap ∧ (∀ x, V x → ∃ o, s'.heap.get? x = some o)

section
variable {X : Wd}
theorem enter_envS {V : Rgn} {s s₁ : Shared} {env : Env} {ρs : Str → Option PV} {n : Nat} {S : Rgn} {I : Rgn → Heap → Prop} (hn : 4 ≤ n) (H : Hp X V s) (kind : env.scope.kind = .function) (glob : env.globals = mainGlobals) (blt : env.builtins = builtinsNs)
    (hk : ∀ b o, s.heap.get? b = some o → s₁.heap.get? b = some o) (hnew : ∀ b, own env b → s.heap.get? b = none) (ns : ∃ m, s₁.heap.Ns env.locals m) (cell : ∀ n c, env.cells.lookup n = some c → c ≠ env.locals ∧ ∃ v, s₁.heap.IsCell c v)
    (apart : ∀ n n' c, env.cells.lookup n = some c → env.cells.lookup n' = some c → n = n') (rd : ∀ x d, ρs x = some d → ∃ v, Reads1 env s₁.heap x v ∧ Val X.P V s.heap d v)
    (hS : ∀ b, S b → V b) (hI : I V s.heap) (hst : Stab S I) :
    EnvOk (X.act env V n hn) ⟨⟨S, (q0 ρs).ρ, I⟩, fun b => own env b ∨ S b, fun b => V b ∨ own env b⟩ s₁ := by
  have G := enter_env (X := X) hn H kind glob blt hk hnew ns cell apart rd
  have hSn : ∀ b, S b → ¬ own env b := fun b h w => by obtain ⟨o, e⟩ := H.bnd b (hS b h); rw [hnew b w] at e; cases e
  exact {
    kind := G.kind
    glob := G.glob
    blt := G.blt
    keep := G.keep
    bnd := G.bnd
    mv := fun b h => h.elim .inr fun h => .inl (hS b h)
    uv := G.uv
    om := fun b h => .inl h
    ou := G.ou
    oo := G.oo
    lo := G.lo
    low := G.low
    ns := G.ns
    cell := G.cell
    apart := G.apart
    slots := fun x sl e => by
      obtain ⟨v, r, hv⟩ := G.slots x sl e
      refine ⟨v, r, ?_⟩
      cases sl with
      | fz d => exact hv
      | mt d =>
        have : (q0 ρs).ρ x = some (.mt d) := e
        unfold q0 at this
        dsimp only at this
        cases h : ρs x <;> rw [h] at this <;> cases this
    dist := G.dist
    sm := fun b h => .inr h
    os := hSn
    inv := hst V _ s.heap s₁.heap hI (fun b o _ e => hk b o e) fun b o n e => ⟨fun w => w.elim n fun w => (by rw [hnew b w] at e; cases e), hk b o e⟩
    stab := hst }

/-- a call of a function of the program, with a store -/
theorem call_enter {n : Nat} (hn : 4 ≤ n) {a : Addr} {cls : Value} {dd : Option Addr} {sl : Array (Option Value)} {fd : FuncData} {ds : List PV} {names : List Str} {body : List Stmt} {S : Rgn} {I : Rgn → Heap → Prop} {Φ : AF → Vw → Prop}
    {A : Around} {E : Value → Shared → Prop} {s : Shared} {V : Rgn} {vs vs' : List Value} {Q : Value → Shared → Prop} (hA : AOk A (n + 1)) (H : Hp X V s) (hv : Vals X.P V s.heap ds vs')
    (hl : X.K.lookup a = some ⟨cls, dd, .func fd, sl⟩) (hbody : fd.body = .stmts body) (hlen : names.length = ds.length) (hbind : BindsTo s fd ⟨vs, []⟩ (names.zip vs')) (hclo : fd.closure = [])
    (hnd : names.Nodup) (hkind : ∀ L x, x ∈ names → fd.scope.names.lookup x = some .local ∨ (fd.scope.names.lookup x = some .cell ∧ ((cellsFrom (L + 1) fd.scope.names []).lookup x).isSome = true))
    (hcd : codeIn X.K fd.code fd.qualname = true) (hg : fd.globals = mainGlobals) (hb : fd.builtins = builtinsNs)
    (hco : fd.scope.isCoroutine = false) (hgen : fd.scope.isGenerator = false) (hk : fd.scope.kind = .function)
    (hS : ∀ b, S b → V b) (hI : I V s.heap) (hst : Stab S I)
    (h : ∀ L env, env = callEnvC fd L a → PS (X.act env V n hn) ⟨S, (q0 (look (names.zip ds))).ρ, I⟩ body Φ)
    (k : ∀ v s', OutS X V Φ S s v s' → Q v s') : wpAny X.mo A (call (.ref a) vs) Q E s := by
  have hK := H.inK
  have hvl := hv.length
  refine wpAny_call (codeAny_call_cellsD hA.room (hK _ _ hl) rfl H.nolimit (codeRec_of hK hcd) hbody hbind hclo (fun x hx => ?_) (fun s₁ hc => ?_) hco hgen hk)
  · have : x.1 ∈ names := (List.of_mem_zip hx).1
    exact hkind _ _ this
  have hns := hc.toInCall.ns
  have hfr := hc.toInCall.fresh
  have hnew : ∀ b, own (callEnvC fd s.heap.objs.size a) b → s.heap.get? b = none := fun b w => by
    rcases w with rfl | ⟨n, e⟩
    · exact get?_none_of_le hfr
    · exact get?_none_of_le (Nat.le_of_lt (Nat.lt_of_le_of_lt hfr (hc.above n b (mem_of_lookup e))))
  have st : Step None s s₁ := by
    obtain ⟨h', tk, e⟩ := hc.toInCall.same
    have k := hc.toInCall.keep
    rw [e] at k ⊢
    exact Step.heap fun b o _ q => k b o q
  have zn : ((names.zip vs').map (·.1)) = names := by rw [List.map_fst_zip]; rw [← hvl, hlen]; exact Nat.le_refl _
  have G : EnvOk (X.act (callEnvC fd s.heap.objs.size a) V n hn) ⟨⟨S, (q0 (look (names.zip ds))).ρ, I⟩, fun b => own (callEnvC fd s.heap.objs.size a) b ∨ S b, fun b => V b ∨ own (callEnvC fd s.heap.objs.size a) b⟩ s₁ := by
    refine enter_envS hn H hk hg hb hc.toInCall.keep hnew ⟨_, hns⟩ (fun n c e => ⟨Nat.ne_of_gt (hc.above n c (mem_of_lookup e)), _, hc.cell n c e⟩) (fun n n' c e e' => pair_apart hc.apart (mem_of_lookup e) (mem_of_lookup e')) (fun x d e => ?_) hS hI hst
    obtain ⟨v, hm, hd⟩ := look_zip hv e
    refine ⟨v, ?_, hd⟩
    have hxn : x ∈ names := (List.of_mem_zip hm).1
    rcases hkind s.heap.objs.size x hxn with hl | ⟨hl, hs⟩
    · exact .inl ⟨hl, _, hns, bindL_get (k := (callEnvC fd s.heap.objs.size a).kindOf) hl (by rw [zn]; exact hnd) hm⟩
    · have hl' : (callEnvC fd s.heap.objs.size a).kindOf x = some .cell := hl
      obtain ⟨c, hc'⟩ := Option.isSome_iff_exists.mp hs
      have hcell := hc.cell x c hc'
      rw [bindC_get (k := (callEnvC fd s.heap.objs.size a).kindOf) (by rw [hl']; intro q; cases q) (by rw [zn]; exact hnd) hm] at hcell
      exact .inr ⟨.inl hl', c, hc', hcell⟩
  refine wpAny_mono (h s.heap.objs.size _ rfl _ _ _ _ s₁ (hA.deeper _) G) (fun f s' p => k _ _ ?_) fun _ _ x => x
  obtain ⟨af, a', hΦ, hf, G', g⟩ := p
  have hU : ∀ b, V b → a'.V b := fun b w => G'.uv b w
  have stp : Step S s s' := ((st.all _).trans g.st).old fun b w => w.elim (fun w => .inr (hnew b w)) .inl
  refine ⟨af, a'.toVw, hΦ, ?_, stp, G'.stab _ _ _ _ G'.inv (fun b o _ e => e) (fun b o n e => ⟨fun w => n (hU b w), e⟩), fun x w => G'.bnd x (hU x w)⟩
  cases af with
  | ret d => obtain ⟨v, rfl, hv⟩ := hf; exact hv.less hU
  | next => cases hf; rfl
  | brk => cases hf; rfl
  | cont => cases hf; rfl
end
end Mine
namespace Mine
open PySem PySem.W PySem.Calls PyProof.Rows

/-- where an OrderedSet lies -/
structure OS where
  a : Addr
  da : Addr
  dd : Addr
def OS.has (o : OS) : Rgn := fun b => b = o.a ∨ b = o.da ∨ b = o.dd
def nones (ks : List PV) : List PV := ks.map fun _ => .none
abbrev instO (da : Addr) : Obj := { cls := cSet, dict := some da, data := .plain }
abbrev dObj (hd : Int) (kd : Tok) (dd : Addr) : Obj := dictO #[⟨hd, .str (Str.ofString "d") kd, .ref dd⟩] 1
structure OsAt (P : Params) (V : Rgn) (h : Heap) (o : OS) (ks : List PV) : Prop where
  inst : h.get? o.a = some (instO o.da)
  dict : ∃ hd kd, h.get? o.da = some (dObj hd kd o.dd)
  top : Top P V h (.dict ks (nones ks)) o.dd
inductive Ky where
  | nul
  | fst (d : PV)
  | fol (d : PV)
abbrev Sto := Ky → Option OS
abbrev Cts := Ky → List PV
def stoS (os : Sto) : Rgn := fun b => ∃ k o, os k = some o ∧ o.has b
def stoI (P : Params) (os : Sto) (ct : Cts) : Rgn → Heap → Prop := fun V h => ∀ k o, os k = some o → OsAt P V h o (ct k)
theorem OsAt.at {P : Params} {V V' : Rgn} {h h' : Heap} {o : OS} {ks : List PV} (x : OsAt P V h o ks) (hk : ∀ b o, ¬ V b → h.get? b = some o → ¬ V' b ∧ h'.get? b = some o) (hr : ∀ b ob, o.has b → h.get? b = some ob → h'.get? b = some ob) : OsAt P V' h' o ks :=
  ⟨hr _ _ (.inl rfl) x.inst, let ⟨hd, kd, e⟩ := x.dict; ⟨hd, kd, hr _ _ (.inr (.inl rfl)) e⟩, x.top.at hk fun ob e => hr _ ob (.inr (.inr rfl)) e⟩
theorem sto_stab {P : Params} {os : Sto} {ct : Cts} : Stab (stoS os) (stoI P os ct) := fun V₁ V₂ h₁ h₂ x h1 h2 k o e => (x k o e).at h2 fun b ob w e' => h1 b ob ⟨k, o, e, w⟩ e'

section
variable {X : Wk}
theorem cls_set_ga : findIn (Mine.hd.heap_39 X.w.params) (.ref 101) "__getattribute__" = some (some (.builtin "object.__getattribute__")) := by rfl
theorem cls_set_d : findIn (Mine.hd.heap_39 X.w.params) (.ref 101) "d" = some none := by rfl
theorem cls_set_find {hd : Int} {kd : Tok} {dd : Addr} : findObj (Mine.hd.heap_39 X.w.params) 101 (some (dObj hd kd dd)) "d" = some (.value (.ref dd)) := by rfl
theorem OsAt.inAt {P : Params} {V : Rgn} {h : Heap} {o : OS} {ks : List PV} (x : OsAt P V h o ks) : ∃ hd kd, InstAt h o.a (instO o.da) 101 (some (dObj hd kd o.dd)) :=
  let ⟨hd, kd, e⟩ := x.dict
  ⟨hd, kd, x.inst, rfl, rfl, e⟩
/-- o.d -/
theorem get_d {A : Around} {E : Value → Shared → Prop} {s : Shared} {V : Rgn} {o : OS} {ks : List PV} {expr : Bool} {Q : Value → Shared → Prop} (H : Hp X.toWd V s) (x : OsAt X.P V s.heap o ks) (h : Q (.ref o.dd) { s with toks := s.toks + 1 }) :
    wpAny X.mo A (getAttr (.ref o.a) "d" expr) Q E s := by
  obtain ⟨hd, kd, I⟩ := x.inAt
  exact get_value (K := Mine.hd.heap_39 X.w.params) (by rw [← X.hK]; exact H.inK) I cls_set_ga cls_set_find rfl h
theorem meth_fn {name : Str} {f : Addr} {A : Around} {E : Value → Shared → Prop} {s : Shared} {V : Rgn} {o : OS} {ks : List PV} {pl : Sem Bool} {Q : Value × List Value → Shared → Prop} (H : Hp X.toWd V s) (x : OsAt X.P V s.heap o ks)
    (hf : findIn (Mine.hd.heap_39 X.w.params) (.ref 101) name = some (some (.ref f))) (ht : typeIn (Mine.hd.heap_39 X.w.params) (.ref f) = some (.type "function")) (hs : ∀ hd kd, shadowIn (some (dObj hd kd o.dd)) name = some false) (h : Q (.ref f, [.ref o.a]) s) :
    wpAny X.mo A (getMethod (.ref o.a) name pl) Q E s := by
  obtain ⟨hd, kd, I⟩ := x.inAt
  exact method_fn (K := Mine.hd.heap_39 X.w.params) (by rw [← X.hK]; exact H.inK) I cls_set_ga (by rfl) hf ht (hs hd kd) h
theorem spec_fn {name : Str} {f : Addr} {A : Around} {E : Value → Shared → Prop} {s : Shared} {V : Rgn} {o : OS} {ks : List PV} {args : List Value} {Q : Option Value → Shared → Prop} (H : Hp X.toWd V s) (x : OsAt X.P V s.heap o ks)
    (hf : findIn (Mine.hd.heap_39 X.w.params) (.ref 101) name = some (some (.ref f))) (ht : typeIn (Mine.hd.heap_39 X.w.params) (.ref f) = some (.type "function")) (h : wpAny X.mo A (call (.ref f) (.ref o.a :: args)) (fun v => Q (some v)) E s) :
    wpAny X.mo A (callSpecial? (.ref o.a) name args) Q E s := by
  obtain ⟨hd, kd, I⟩ := x.inAt
  exact special_fn (K := Mine.hd.heap_39 X.w.params) (by rw [← X.hK]; exact H.inK) I hf ht h
example : findIn (Mine.hd.heap_39 X.w.params) (.ref 101) "update" = some (some (.ref 79)) := by rfl
example : typeIn (Mine.hd.heap_39 X.w.params) (.ref 79) = some (.type "function") := by rfl
example (dd : Addr) : ∀ hd kd, shadowIn (some (dObj hd kd dd)) "update" = some false := fun _ _ => by rfl
end
end Mine
namespace Mine
open PySem PySem.W PySem.Calls PyProof.Rows

structure Sep (os : Sto) : Prop where
  self : ∀ k o, os k = some o → o.a ≠ o.da ∧ o.a ≠ o.dd ∧ o.da ≠ o.dd
  apart : ∀ k k' o o' b, os k = some o → os k' = some o' → o.has b → o'.has b → k = k'
open Classical in
noncomputable def ctSet (ct : Cts) (k : Ky) (ks : List PV) : Cts := fun k' => if k' = k then ks else ct k'
theorem ctSet_self {ct : Cts} {k : Ky} {ks : List PV} : ctSet ct k ks k = ks := by unfold ctSet; rw [if_pos rfl]
theorem ctSet_ne {ct : Cts} {k k' : Ky} {ks : List PV} (h : k' ≠ k) : ctSet ct k ks k' = ct k' := by unfold ctSet; rw [if_neg h]
abbrev stoV (P : Params) (os : Sto) (ct : Cts) (ρ : Str → Option Slot) : Vw := ⟨stoS os, ρ, stoI P os ct⟩

theorem OsAt.some {P : Params} {V : Rgn} {h : Heap} {o : OS} {ks : List PV} (x : OsAt P V h o ks) : ∀ b, o.has b → ∃ ob, h.get? b = some ob := by
  rintro b (rfl | rfl | rfl)
  · exact ⟨_, x.inst⟩
  · obtain ⟨hd, kd, e⟩ := x.dict; exact ⟨_, e⟩
  · obtain ⟨n, es, e, _⟩ := x.top; exact ⟨_, e⟩

section
variable {Y : Act} {M V : Rgn} {s s' : Shared} {os : Sto} {ct : Cts} {ρ : Str → Option Slot}
theorem EnvOk.stoSet {k : Ky} {o : OS} {ks : List PV} (G : EnvOk Y ⟨stoV Y.P os ct ρ, M, V⟩ s) (hk : os k = some o) (sep : Sep os) (st : Step o.has s s') (hat : OsAt Y.P V s'.heap o ks) : EnvOk Y ⟨stoV Y.P os (ctSet ct k ks) ρ, M, V⟩ s' := by
  have hS : ∀ b, o.has b → stoS os b := fun b w => ⟨k, o, hk, w⟩
  have hV : ∀ b, o.has b → V b := fun b w => G.mv b (G.sm b (hS b w))
  have no : ∀ b, own Y.env b → ¬ o.has b := fun b w e => G.os b (hS b e) w
  have ho : ∀ b ob, own Y.env b → s.heap.get? b = some ob → s'.heap.get? b = some ob := fun b ob w e => st.keep b ob (no b w) e
  exact {
    kind := G.kind
    glob := G.glob
    blt := G.blt
    keep := fun b ob e => st.keep b ob (fun w => by rw [G.low b (hV b w)] at e; cases e) (G.keep b ob e)
    bnd := fun b hb => by
      by_cases w : o.has b
      · exact hat.some b w
      · obtain ⟨ob, e⟩ := G.bnd b hb
        exact ⟨ob, st.keep b ob w e⟩
    mv := G.mv
    uv := G.uv
    om := G.om
    ou := G.ou
    oo := G.oo
    lo := G.lo
    low := G.low
    ns := by
      obtain ⟨m, ob, es, ep, h, r⟩ := G.ns
      exact ⟨m, ob, es, ep, ho _ _ (.inl rfl) h, r⟩
    cell := fun n c e => by
      obtain ⟨h1, v, ob, h, r⟩ := G.cell n c e
      exact ⟨h1, v, ob, ho _ _ (.inr ⟨n, e⟩) h, r⟩
    apart := G.apart
    slots := fun y sl e => by
      obtain ⟨v, rv, h⟩ := G.slots y sl e
      refine ⟨v, rv.keeps ho, ?_⟩
      cases sl with
      | fz d => exact Val.keeps (d := d) (V := V) h fun b ob n e => st.keep b ob (fun w => n (hV b w)) e
      | mt d =>
        obtain ⟨r, e, a1, a2, a3, a4, t⟩ := h
        exact ⟨r, e, a1, a2, a3, a4, Top.at (V := V) (fun b ob n e => ⟨n, st.keep b ob (fun w => n (hV b w)) e⟩) t fun ob e => st.keep r ob (fun w => a4 (hS r w)) e⟩
    dist := fun x y d e v hn hx hy h1 h2 => by
      obtain ⟨v1, r1, _⟩ := G.slots x _ hx
      obtain ⟨v2, r2, _⟩ := G.slots y _ hy
      have u1 := (r1.keeps ho : Reads1 Y.env s'.heap x v1).uniq h1
      have u2 := (r2.keeps ho : Reads1 Y.env s'.heap y v2).uniq h2
      subst u1 u2
      exact G.dist x y d e _ hn hx hy r1 r2
    sm := G.sm
    os := G.os
    inv := fun k' o' e' => by
      by_cases w : k' = k
      · subst w
        rw [hk] at e'
        cases e'
        rw [ctSet_self]
        exact hat
      · rw [ctSet_ne w]
        exact (G.inv k' o' e').at (fun b ob n e => ⟨n, st.keep b ob (fun w => n (hV b w)) e⟩) fun b ob w' e => st.keep b ob (fun w'' => w (sep.apart _ _ _ _ b e' hk w' w'')) e
    stab := sto_stab }

theorem selfD_raw {X : Wk} {q : Vw} {x : Str} {px pos : Pos} {o : OS} {ks : List PV} {A : Around} {E : Value → Shared → Prop} (hY : Y.toWd = X.toWd) (hx : q.ρ x = some (.fz (.ptr o.a))) (hI : ∀ V h, q.I V h → OsAt Y.P V h o ks) (G : EnvOk Y ⟨q, M, V⟩ s)
    (hd : (x == ("__debug__" : Str)) = false := by decide) (hc : (x == ("__classdict__" : Str)) = false := by decide) : wpAny Y.mo A (eval (.Attribute (.Name x px) "d" pos) Y.env) (fun v s' => v = .ref o.dd ∧ Step None s s') E s := by
  obtain ⟨u, hu, hv⟩ := G.slots x _ hx
  have hv : Val Y.P V s.heap (.ptr o.a) u := hv
  have := val_ptr.mp hv
  subst this
  refine Attribute_Name_ (rd_name G hu ?_ hd hc)
  have hP : Y.P = X.P := congrArg Wd.P hY
  have hm : Y.mo = X.mo := congrArg Wd.mo hY
  have hat := hI _ _ G.inv
  have H : Hp X.toWd V s := hY ▸ G.hp
  rw [hm]
  exact get_d (X := X) H (hP ▸ hat) ⟨rfl, Step.toks⟩
theorem PM.selfD {X : Wk} {q : Vw} {x : Str} {px pos : Pos} {o : OS} {ks : List PV} (hY : Y.toWd = X.toWd) (hx : q.ρ x = some (.fz (.ptr o.a))) (hS : ∀ b, o.has b → q.S b) (hI : ∀ V h, q.I V h → OsAt Y.P V h o ks)
    (hd : (x == ("__debug__" : Str)) = false := by decide) (hc : (x == ("__classdict__" : Str)) = false := by decide) : PM Y q (.Attribute (.Name x px) "d" pos) (.dict ks (nones ks)) := fun M V A E s hA G =>
  wpAny_mono (selfD_raw (X := X) hY hx hI G hd hc) (fun v s' ⟨e, st⟩ => ⟨st, o.dd, e, G.hp.nosys (G.mv _ (G.sm _ (hS _ (.inr (.inr rfl))))), (hI _ _ (G.stepN st).inv).top⟩) fun _ _ z => z

/-- x in a place that is a dict -/
theorem PE.inM {q : Vw} {l r : Expr} {pos : Pos} {ok : PV → Prop} {n : Nat} {ks ds : List PV} {P : PV → Prop} (D : DKey Y.toWd n ok) (hn : n + 1 ≤ Y.n) (hr : PM Y q r (.dict ks ds)) (hks : ∀ x ∈ ks, ok x) (hnd : ks.Nodup)
    (h : PE Y q l fun k => ok k ∧ ∀ b, (b = true ↔ k ∈ ks) → P (.bool b)) (hm : behindInMarks .In r = false := by with_unfolding_all rfl) : PE Y q (.Compare l [.In] [r] pos) P := fun M V A E s hA G => by
  refine wpAny_Compare1 (h.use hA G fun v₁ s₁ k hk x₁ st₁ G₁ => wpAny_mono (hr M V A E s₁ hA G₁) (fun v₂ s₂ h₂ => ?_) fun _ _ z => z) hm
  obtain ⟨st₂, r, rfl, sm, ht⟩ := h₂
  exact dict_in D (hA.mono hn) (G₁.stepN st₂).hp hk.1 hks hnd (x₁.stepN st₂) ht sm fun tk b hb => ⟨(st₁.trans st₂).trans Step.toks, _, hk.2 b hb, val_bool.mpr rfl⟩
end
end Mine
namespace Mine
open PySem PySem.W PySem.Calls PyProof.Rows

open Classical in
noncomputable def add1 (ks : List PV) (k : PV) : List PV := if k ∈ ks then ks else ks ++ [k]
noncomputable def addAll (ks l : List PV) : List PV := l.foldl add1 ks
theorem dput_add1 {ks ks' ds' : List PV} {k : PV} (h : DPut ks (nones ks) k .none ks' ds') : ks' = add1 ks k ∧ ds' = nones ks' := by
  rcases h with ⟨i, hi, rfl, rfl⟩ | ⟨hn, rfl, rfl⟩
  · refine ⟨by rw [add1, if_pos (List.mem_of_getElem? hi)], ?_⟩
    apply List.ext_getElem?
    intro j
    rw [List.getElem?_set, nones]
    split
    · rename_i e
      subst e
      have : i < ks'.length := (List.getElem?_eq_some_iff.mp hi).1
      simp [this]
    · rfl
  · exact ⟨by rw [add1, if_neg hn], by simp [nones]⟩
theorem mem_add1 {ks : List PV} {k x : PV} : x ∈ add1 ks k ↔ x ∈ ks ∨ x = k := by
  unfold add1
  split
  · rename_i h
    exact ⟨.inl, fun w => w.elim id fun e => e ▸ h⟩
  · simp
theorem nodup_add1 {ks : List PV} {k : PV} (h : ks.Nodup) : (add1 ks k).Nodup := by
  unfold add1
  split
  · exact h
  · rename_i hn
    rw [List.nodup_append]
    exact ⟨h, by simp, fun a ha b hb e => by simp at hb; subst hb; subst e; exact hn ha⟩
theorem mem_addAll {l : List PV} : ∀ {ks : List PV} {x : PV}, x ∈ addAll ks l ↔ x ∈ ks ∨ x ∈ l := by
  induction l with
  | nil => simp [addAll]
  | cons a l ih =>
    intro ks x
    show x ∈ addAll (add1 ks a) l ↔ _
    rw [ih, mem_add1, List.mem_cons]
    constructor
    · rintro ((h | h) | h)
      · exact .inl h
      · exact .inr (.inl h)
      · exact .inr (.inr h)
    · rintro (h | h | h)
      · exact .inl (.inl h)
      · exact .inl (.inr h)
      · exact .inr h
theorem nodup_addAll {l : List PV} : ∀ {ks : List PV}, ks.Nodup → (addAll ks l).Nodup := by
  induction l with
  | nil => exact id
  | cons a l ih => exact fun h => ih (nodup_add1 h)
theorem len_add1 {ks : List PV} {k : PV} : ks.length ≤ (add1 ks k).length ∧ (add1 ks k).length ≤ ks.length + 1 ∧ ((add1 ks k).length = ks.length ↔ k ∈ ks) := by
  unfold add1
  split
  · rename_i h; exact ⟨Nat.le_refl _, Nat.le_succ _, by simp [h]⟩
  · rename_i h; simp [h]
theorem len_addAll {l : List PV} : ∀ {ks : List PV}, ks.length ≤ (addAll ks l).length ∧ (addAll ks l).length ≤ ks.length + l.length ∧ ((addAll ks l).length = ks.length → ∀ x ∈ l, x ∈ ks) := by
  induction l with
  | nil => intro ks; exact ⟨Nat.le_refl _, Nat.le_refl _, fun _ x h => nomatch h⟩
  | cons a l ih =>
    intro ks
    obtain ⟨h1, h2, h3⟩ := ih (ks := add1 ks a)
    obtain ⟨g1, g2, g3⟩ := len_add1 (ks := ks) (k := a)
    show _ ≤ (addAll (add1 ks a) l).length ∧ (addAll (add1 ks a) l).length ≤ _ ∧ ((addAll (add1 ks a) l).length = _ → _)
    refine ⟨Nat.le_trans g1 h1, by simp; omega, fun e x hx => ?_⟩
    have e1 : (add1 ks a).length = ks.length := by omega
    have e2 : (addAll (add1 ks a) l).length = (add1 ks a).length := by omega
    have ha := g3.mp e1
    rcases List.mem_cons.mp hx with rfl | hx
    · exact ha
    · exact (mem_add1.mp (h3 e2 x hx)).elim id fun w => w ▸ ha
theorem addAll_same {l : List PV} : ∀ {ks : List PV}, (∀ x ∈ l, x ∈ ks) → addAll ks l = ks := by
  induction l with
  | nil => intro ks _; rfl
  | cons a l ih =>
    intro ks h
    have : add1 ks a = ks := by unfold add1; rw [if_pos (h a List.mem_cons_self)]
    show addAll (add1 ks a) l = ks
    rw [this]
    exact ih fun x hx => h x (List.mem_cons_of_mem _ hx)

section
variable {Y : Act} {M V : Rgn} {s s' : Shared} {os : Sto} {ct : Cts} {ρ : Str → Option Slot}
/-- o.d[i] = None -/
theorem PS1.setD {X : Wk} {x : Str} {px ap spos pos : Pos} {i e : Expr} {k : Ky} {o : OS} {ok : PV → Prop} {n : Nat} {Φ : AF → Vw → Prop} (D : DKey Y.toWd n ok) (hn : n + 1 ≤ Y.n) (hY : Y.toWd = X.toWd) (hk : os k = some o) (sep : Sep os)
    (hx : ρ x = some (.fz (.ptr o.a))) (hks : ∀ x ∈ ct k, ok x) (hnd : (ct k).Nodup) (hz : (ct k).length ≤ 4096)
    (h : PE Y (stoV Y.P os ct ρ) e fun dv => dv = .none ∧ PE Y (stoV Y.P os ct ρ) i fun kd => ok kd ∧ Φ .next (stoV Y.P os (ctSet ct k (add1 (ct k) kd)) ρ)) (hs : swapsWith e (some (.Subscript (.Attribute (.Name x px) "d" ap) i spos)) pos.line Y.env = pure false)
    (hd : (x == ("__debug__" : Str)) = false := by decide) (hc : (x == ("__classdict__" : Str)) = false := by decide) : PS1 Y (stoV Y.P os ct ρ) (.Assign [.Subscript (.Attribute (.Name x px) "d" ap) i spos] e pos) Φ := fun M V A E s hA G => by
  refine wpAny_Assign_Subscript (h.use hA G fun v s₁ dv hp hv st₁ G₁ => ?_) hs
  obtain ⟨rfl, hi⟩ := hp
  have hS : ∀ b, o.has b → stoS os b := fun b w => ⟨k, o, hk, w⟩
  refine wpAny_mono (selfD_raw (X := X) hY (q := stoV Y.P os ct ρ) hx (fun V h w => w k o hk) G₁ hd hc) (fun v₂ s₂ h₂ => ?_) fun _ _ z => z
  obtain ⟨rfl, st₂⟩ := h₂
  have G₂ := G₁.stepN st₂
  refine hi.use hA G₂ fun kv s₃ kd hk' hkv st₃ G₃ => ?_
  have hat := G₃.inv k o hk
  refine dict_setItem D (hA.mono hn) G₃.hp hk'.1 hks hnd hkv ((hv.stepN st₂).stepN st₃) hat.top (G₃.mv _ (G₃.sm _ (hS _ (.inr (.inr rfl))))) hz fun tk h' ks' ds' hput hs' ht' => ?_
  obtain ⟨rfl, rfl⟩ := dput_add1 hput
  have st₄ : Step o.has s₃ { s₃ with heap := h', toks := tk } := (Step.same (t := tk) hs' rfl).mono fun b w => w ▸ .inr (.inr rfl)
  obtain ⟨d1, d2, d3⟩ := sep.self k o hk
  refine ⟨.next, ⟨stoV Y.P os (ctSet ct k (add1 (ct k) kd)) ρ, M, V⟩, hk'.2, rfl, G₃.stoSet hk sep st₄ ⟨(hs'.2 _ d2).trans hat.inst, ?_, ht'⟩,
    ((((st₁.trans st₂).trans st₃).all _).trans (st₄.mono fun b w => G₃.sm b (hS b w))), fun b w => .inl w, fun b w => .inl w, fun b w _ => w⟩
  obtain ⟨hd, kd', e⟩ := hat.dict
  exact ⟨hd, kd', (hs'.2 _ d3).trans e⟩
end
end Mine
namespace Mine
open PySem PySem.W PySem.Calls PyProof.Rows

section
variable {M : Model} {A : Around} {R : GenEnd} {Y : Protocol} {n : Nat} {s₀ : Shared} {c : Code} {fs : List Frame} {s : Shared} {env : Env}
  {K : Flow → Sem Fin} {H : Value → Sem Fin} {gd : Bool → Bool} {lv : List Value → List Value}

/-- what a loop of its own comes back to -/
def backOf (env : Env) (K : Flow → Sem Fin) (H : Value → Sem Fin) (gd : Bool → Bool) (lv : List Value → List Value) : Result → Sem Fin := fun r =>
  ((match r with | .ok f => (.pure f : Sem Flow) | .error e => .raise e).onRaise fun (x : Value) => do
        if (← field x 1) == Value.none then unsupported "frame.own-activation:exception-without-traceback"
        setFlight x env.frame).wrap K H gd lv

theorem seg_For {target iter : Expr} {body orelse : List Stmt} {pos : Pos} (hs : ∀ x, foldedSetIterable iter env x = pure x)
    (h : wpAny M (A.over c fs) (eval iter env) (fun x s₁ => wpAny M (A.over c fs) (pyIter x) (fun it s₂ => ∀ p, Seg M A R Y n s₀ (.forLoop target it body orelse env) (M.den (.forLoop target it body orelse env))
      (.ret (backOf env K H gd lv) none (gd false) (lv []) c p [] :: fs) s₂) (fun x s' => Seg M A R Y n s₀ c (H x) fs s') s₁) (fun x s' => Seg M A R Y n s₀ c (H x) fs s') s) :
    Seg M A R Y n s₀ c ((exec (.For target iter body orelse pos) env).wrap K H gd lv) fs s := by
  rw [exec_For]
  refine seg_at ?_
  show Seg M A R Y n s₀ c ((eval iter env >>= _).wrap K H gd lv) fs s
  rw [Sem.bind_eq_wrap', Sem.wrap_wrap]
  refine seg_wrap (wpAny_mono h (fun x s₁ h₁ => ?_) fun _ _ x => x)
  rw [hs x]
  refine seg_at ?_
  show Seg M A R Y n s₀ c ((holding [x] (pyIter x) >>= _).wrap K H gd lv) fs s₁
  rw [Sem.bind_eq_wrap', Sem.wrap_wrap]
  refine seg_wrap (wpAny_holding (wpAny_mono h₁ (fun it s₂ h₂ => ?_) fun _ _ x => x))
  exact seg_call h₂

end

/-- how an error leaves a loop of the tree -/
def notes (env : Env) : Value → Sem Fin := fun e => (do noteFrame e env; theTreesLotGoes e : Sem Unit).wrap (fun _ => .raise e) .raise id id
def turned (target : Expr) (it : Value) (body : List Stmt) (env : Env) : Flow → Sem Fin := fun f => match f with
  | .next | .cont => .pure (.again (.forLoop target it body [] env))
  | .brk => .pure (.done .next)
  | .ret v => .pure (.done (.ret v))

section
variable {prog : Program} {w : World} {A : Around} {R : GenEnd} {Y : Protocol} {n : Nat} {s₀ : Shared} {fs : List Frame} {s : Shared} {env : Env}
theorem seg_forLoop {target : Expr} {it : Value} {body : List Stmt}
    (h : wpAny (model prog w) (A.over (.forLoop target it body [] env) fs) (pyNext it) (fun r s' => match r with
      | none => Seg (model prog w) A R Y n s₀ (.forLoop target it body [] env) (.pure (.again (.block [] env))) fs s'
      | some v => wpAny (model prog w) (A.over (.forLoop target it body [] env) fs) (letOwnedTupleGo target it v) (fun _ s₁ => wpAny (model prog w) (A.over (.forLoop target it body [] env) fs) (assign target env v) (fun _ s₂ =>
          Seg (model prog w) A R Y n s₀ (.forLoop target it body [] env) ((execs body env).wrap (turned target it body env) (notes env) id id) fs s₂)
          (fun x s' => Seg (model prog w) A R Y n s₀ (.forLoop target it body [] env) (notes env x) fs s') s₁) (fun x s' => Seg (model prog w) A R Y n s₀ (.forLoop target it body [] env) (notes env x) fs s') s')
      (fun x s' => Seg (model prog w) A R Y n s₀ (.forLoop target it body [] env) (notes env x) fs s') s) :
    Seg (model prog w) A R Y n s₀ (.forLoop target it body [] env) ((model prog w).den (.forLoop target it body [] env)) fs s := by
  show Seg _ A R Y n s₀ _ ((forTurn target it body [] env).onRaise (fun x => do noteFrame x env; theTreesLotGoes x)) fs s
  have hn : ∀ e, ((do noteFrame e env; theTreesLotGoes e : Sem Unit).bind fun _ => (.raise e : Sem Fin)) = notes env e := fun e => by rw [Sem.bind_eq_wrap]; rfl
  unfold forTurn
  rw [Sem.onRaise_eq_wrap, funext hn]
  refine seg_at ?_
  show Seg _ A R Y n s₀ _ (((pyNext it).onRaise (fun _ => standAt { target.pos with line := 0 }) >>= _).wrap .pure (notes env) id id) fs s
  rw [Sem.bind_eq_wrap', Sem.wrap_wrap]
  refine seg_wrap (wpAny_onRaise (wpAny_mono h (fun r s₁ h₁ => ?_) fun _ _ h' => wpAny_standAt h'))
  cases r with
  | none => exact h₁
  | some v =>
    show Seg _ A R Y n s₀ _ ((letOwnedTupleGo target it v >>= _).wrap .pure (notes env) id id) fs s₁
    rw [Sem.bind_eq_wrap', Sem.wrap_wrap]
    refine seg_wrap (wpAny_mono h₁ (fun _ s₂ h₂ => ?_) fun _ _ h' => h')
    show Seg _ A R Y n s₀ _ ((assign target env v >>= _).wrap .pure (notes env) id id) fs s₂
    rw [Sem.bind_eq_wrap', Sem.wrap_wrap]
    refine seg_wrap (wpAny_mono h₂ (fun _ s₃ h₃ => ?_) fun _ _ h' => h')
    show Seg _ A R Y n s₀ _ ((execs body env >>= _).wrap .pure (notes env) id id) fs s₃
    rw [Sem.bind_eq_wrap', Sem.wrap_wrap]
    rw [Sem.wrap_congr (execs body env) _ _ (K' := turned target it body env) (H' := notes env) (fun f => by cases f <;> rfl) (fun e => by rfl)]
    exact h₃
/-- the end of a loop -/
theorem seg_block_nil (hq : (Code.block [] env).quiet = true := by rfl) (h : Seg (model prog w) A R Y n s₀ (.block [] env) (.pure (.done .next)) fs s) {c : Code} : Seg (model prog w) A R Y n s₀ c (.pure (.again (.block [] env))) fs s := by
  refine seg_again hq ?_
  exact h
end
end Mine
namespace Mine
open PySem PySem.W PySem.Calls PyProof.Rows

section
variable {M : Model} {A : Around} {E : Value → Shared → Prop} {s : Shared} {K : Frag} {x C f : Addr} {ox : Obj} {od : Option Obj}
/-- iter(x), where the class of x has an __iter__ of the program -/
theorem iter_own {Q : Value → Shared → Prop} (X : K.In s.heap) (I : InstAt s.heap x ox C od) (hs : findIn K (.ref C) "__iter__" = some (some (.ref f))) (hf : typeIn K (.ref f) = some (.type "function"))
    (h : wpAny M A (call (.ref f) [.ref x]) (fun it s' => wpAny M A (specialOf it "__next__") (fun r s₂ => ∃ g, r = some g ∧ Q it s₂) E s') E s) : wpAny M A (pyIter (.ref x)) Q E s := by
  have tail : wpAny M A (call (.ref f) [.ref x] >>= fun v => pure (some v)) (fun r s' => ∃ it, r = some it ∧ wpAny M A (specialOf it "__next__") (fun r s₂ => ∃ g, r = some g ∧ Q it s₂) E s') E s :=
    wpAny_bind (wpAny_mono h (fun v s' h' => wpAny_pure ⟨v, rfl, h'⟩) fun _ _ z => z)
  have asked : ∀ no : Sem Value, wpAny M A (callSpecialIfBoundUnlessNone? (.ref x) "__iter__" no) (fun r s' => ∃ it, r = some it ∧ wpAny M A (specialOf it "__next__") (fun r s₂ => ∃ g, r = some g ∧ Q it s₂) E s') E s := by
    intro no
    have tail2 : wpAny M A (if (Value.ref f == Value.none) = true then (no >>= fun v => pure (some v)) else (call (.ref f) [.ref x] >>= fun v => pure (some v))) (fun r s' => ∃ it, r = some it ∧ wpAny M A (specialOf it "__next__") (fun r s₂ => ∃ g, r = some g ∧ Q it s₂) E s') E s := by
      rw [if_neg (show ¬ ((Value.ref f == Value.none) = true) from Bool.false_ne_true)]
      exact tail
    simp only [callSpecialIfBoundUnlessNone?, bindSpecialIfBound?]
    refine wpAny_holding (wpAny_bind (wpAny_bind (wpAny_bind (I.type.here ((looks_findIn X hs).here (wpAny_bind (wpAny_askSetting (wpAny_ite ?_))))))))
    split
    · exact wpAny_bind ((bind_fn X _ hf).here (wpAny_pure (by exact tail2)))
    · exact wpAny_tryCatch (wpAny_bind ((bind_fn X _ hf).here (wpAny_pure (by exact tail2))))
  unfold pyIter
  refine wpAny_bind (wpAny_bind (I.type.here ((looks_findIn X hs).here ?_)))
  show wpAny M A (callSpecialIfBoundUnlessNone? (.ref x) "__iter__" _ >>= _) Q E s
  refine wpAny_bind (wpAny_mono (asked _) (fun r s' hr => ?_) fun _ _ z => z)
  obtain ⟨it, rfl, hv⟩ := hr
  refine wpAny_bind (wpAny_mono hv (fun r s₂ hr => ?_) fun _ _ z => z)
  obtain ⟨g, rfl, hq⟩ := hr
  exact wpAny_pure hq
end

section
variable {prog : Program} {w : World} {A : Around} {E : Value → Shared → Prop} {s : Shared} {d it : Addr} {es : Array DictEntry} {ep i : Nat}
theorem keyiter_new {Q : Value → Shared → Prop} (hd : (d == sysModules) = false) (ho : s.heap.get? d = some (dictO es ep))
    (hQ : Q (.ref s.heap.objs.size) { s with heap := s.heap.push { cls := .type "dict_keyiterator", data := .fields #[.ref d, .int 0 0, .int es.size 0, .int ep 0] } }) :
    wpAny (model prog w) A (pyIter (.ref d)) Q E s := by
  have hT : s.TypeIs (.ref d) "dict" := ⟨_, ho, rfl⟩
  refine wpAny_pyIter_slot hT F.slot_dict_iter (wpAny_call_entry F.slot_dict_iter hT F.entry_dict_iter ?_ (F.args_dict_iter_1 _))
  unfold Builtin.«dict.__iter__» Builtin.Dict.dictSlotNone
  refine wpAny_bind (wpAny_bind (wpAny_notOrdered_dict hT ?_))
  show wpAny _ _ (pure (Value.ref d)) _ _ s
  refine wpAny_pure ?_
  show wpAny _ _ (Builtin.Dict.showsAll d >>= _) _ _ s
  unfold Builtin.Dict.showsAll
  rw [if_neg (by rw [hd]; exact Bool.false_ne_true)]
  refine wpAny_bind (wpAny_pure (wpAny_bind (wpAny_dictEntries ho rfl (wpAny_bind (wpAny_dictEpoch ho rfl ?_)))))
  exact wpAny_bind (wpAny_newObj_type (wpAny_pure ⟨_, rfl, "dict_keyiterator", _, ⟨_, Heap.get?_push_size _ rfl, rfl⟩, F.slot_dict_keyiterator_next.lookup, hQ⟩))

theorem keyiter_item {e : DictEntry} {Q : Option Value → Shared → Prop} (hit : s.heap.IsKeyIter it d i es.size ep) (ho' : s.heap.get? d = some (dictO es ep)) (hx : es[i]? = some e)
    (hQ : ∀ h', h'.IsKeyIter it d (i + 1) es.size ep → Heap.SameBut it s.heap h' → Q (some e.key) { s with heap := h' }) : wpAny (model prog w) A (pyNext (.ref it)) Q E s := by
  obtain ⟨o, ho, hc, hd⟩ := id hit
  unfold pyNext
  refine wpAny_bind (wpAny_attempt (wpAny_callSpecial?_slot (name := Str.ofString "__next__") hit.typeIs F.slot_dict_keyiterator_next
    (wpAny_call_entry F.slot_dict_keyiterator_next hit.typeIs F.entry_dict_keyiterator_next ?_ (F.args_dict_keyiterator_next_1 _))))
  refine wpAny_bind (wpAny_pure (wpAny_bind (wpAny_bind ?_)))
  first | refine wpAny_bind (wpAny_typeNameOfWhole_keyiter hit.typeIs (wpAny_pure ?_)) | refine wpAny_bind (wpAny_typeNameOf_keyiter hit.typeIs (wpAny_pure ?_))
  refine wpAny_bind (wpAny_fieldsOf ho hd ?_)
  have hown : Builtin.Dict_items.ownsTuple "dict_keyiterator" = false := by decide
  simp only [hown, Bool.false_eq_true, if_false]
  show wpAny _ _ (if (Value.ref d == Value.none) = true then _ else _) _ _ s
  rw [if_neg (show ¬ ((Value.ref d == Value.none) = true) from Bool.false_ne_true)]
  refine wpAny_bind (wpAny_pure (wpAny_bind (wpAny_dictEntries ho' rfl ?_)))
  rw [if_neg (by simp)]
  refine wpAny_bind (wpAny_pure (wpAny_bind (wpAny_dictEpoch ho' rfl ?_)))
  rw [if_neg (by simp)]
  refine wpAny_pure ?_
  obtain ⟨hlt, rfl⟩ := Array.getElem?_eq_some_iff.mp hx
  simp only [show ¬ ((i : Int) < 0) from by omega, if_false, Int.toNat_natCast, Array.getElem?_eq_getElem hlt]
  refine wpAny_bind ?_
  first | refine wpAny_bind (wpAny_typeNameOfWhole_keyiter hit.typeIs (wpAny_pure ?_)) | refine wpAny_bind (wpAny_typeNameOf_keyiter hit.typeIs (wpAny_pure ?_))
  refine wpAny_bind (wpAny_isOneOf_keyiter hit.typeIs ?_)
  show wpAny _ _ (setField (.ref it) 1 (rawInt ((i : Int) + 1)) >>= _) _ _ s
  refine wpAny_bind (wpAny_setField ho hd (by simp) ?_)
  have hit' : (s.heap.update it (Obj.mapFields (·.setIfInBounds 1 (rawInt ((i : Int) + 1))))).IsKeyIter it d (i + 1) es.size ep :=
    ⟨_, Heap.get?_update_self _ ho (Obj.isFreed_of_fields (Obj.data_mapFields hd _)), (Obj.cls_mapFields ..).trans hc, by rw [Obj.data_mapFields hd]; simp [rawInt]⟩
  refine wpAny_bind (wpAny_holding ?_)
  refine wpAny_bind (wpAny_isOneOf_keyiter (s := { s with heap := s.heap.update it (Obj.mapFields (·.setIfInBounds 1 (rawInt ((i : Int) + 1)))) }) hit'.typeIs ?_)
  show wpAny _ _ (pure es[i].key) _ _ _
  exact wpAny_pure (wpAny_pure ⟨_, rfl, wpAny_pure (hQ _ hit' (Heap.SameBut.update ..))⟩)

theorem keyiter_end {Q : Option Value → Shared → Prop} (hh : A.handled = none) (hit : s.heap.IsKeyIter it d i es.size ep) (ho' : s.heap.get? d = some (dictO es ep)) (hx : es.size ≤ i)
    (hQ : ∀ h', Heap.ExtBut it s.heap h' → Q none { s with heap := h' }) : wpAny (model prog w) A (pyNext (.ref it)) Q E s := by
  obtain ⟨o, ho, hc, hd⟩ := id hit
  unfold pyNext
  refine wpAny_bind (wpAny_attempt (wpAny_callSpecial?_slot (name := Str.ofString "__next__") hit.typeIs F.slot_dict_keyiterator_next
    (wpAny_call_entry F.slot_dict_keyiterator_next hit.typeIs F.entry_dict_keyiterator_next ?_ (F.args_dict_keyiterator_next_1 _))))
  refine wpAny_bind (wpAny_pure (wpAny_bind (wpAny_bind ?_)))
  first | refine wpAny_bind (wpAny_typeNameOfWhole_keyiter hit.typeIs (wpAny_pure ?_)) | refine wpAny_bind (wpAny_typeNameOf_keyiter hit.typeIs (wpAny_pure ?_))
  refine wpAny_bind (wpAny_fieldsOf ho hd ?_)
  have hown : Builtin.Dict_items.ownsTuple "dict_keyiterator" = false := by decide
  simp only [hown, Bool.false_eq_true, if_false]
  show wpAny _ _ (if (Value.ref d == Value.none) = true then _ else _) _ _ s
  rw [if_neg (show ¬ ((Value.ref d == Value.none) = true) from Bool.false_ne_true)]
  refine wpAny_bind (wpAny_pure (wpAny_bind (wpAny_dictEntries ho' rfl ?_)))
  rw [if_neg (by simp)]
  refine wpAny_bind (wpAny_pure (wpAny_bind (wpAny_dictEpoch ho' rfl ?_)))
  rw [if_neg (by simp)]
  refine wpAny_pure ?_
  simp only [show ¬ ((i : Int) < 0) from by omega, if_false, Int.toNat_natCast, Array.getElem?_eq_none hx]
  refine wpAny_bind ?_
  first | refine wpAny_bind (wpAny_typeNameOfWhole_keyiter hit.typeIs (wpAny_pure ?_)) | refine wpAny_bind (wpAny_typeNameOf_keyiter hit.typeIs (wpAny_pure ?_))
  show wpAny _ _ (setField (.ref it) 0 .none >>= _) _ _ s
  refine wpAny_bind (wpAny_setField ho hd (by simp) ?_)
  show wpAny _ _ (newExc (.type "StopIteration") [] >>= _) _ _ _
  refine wpAny_bind ?_
  simp only [newExc, newTuple]
  refine wpAny_bind (wpAny_newObj_type ?_ (by size_fits))
  refine wpAny_bind (m := firstArgMember _ _) (wpAny_of_eq (a := Value.none) (by first | rfl | (simp only [firstArgMember]; rfl)) ?_)
  refine wpAny_newObj_type ?_ (by size_fits)
  simp only [raiseNew]
  refine wpAny_bind (wpAny_handled ?_)
  rw [show A.in1.handled = none from hh]
  refine wpAny_bind (wpAny_pure (wpAny_throw ?_))
  refine wpAny_bind (wpAny_isInstance (T := "StopIteration") (b := true) ⟨_, Heap.get?_push_size _ rfl, rfl⟩ isSubtype_stop ?_)
  exact wpAny_pure (hQ _ (((Heap.SameBut.update ..).extBut.push _).push _))
end
end Mine
namespace Mine
open PySem PySem.W PySem.Calls PyProof.Rows

structure SF (b₀ : Heap) (o : OS) (es : Array DictEntry) (ep : Nat) (L kit : Addr) (i : Nat) (s : Shared) : Prop where
  keep : ∀ b ob, b₀.get? b = some ob → s.heap.get? b = some ob
  inst : s.heap.get? o.a = some (instO o.da)
  dict : ∃ hd kd, s.heap.get? o.da = some (dObj hd kd o.dd)
  dd : s.heap.get? o.dd = some (dictO es ep)
  ns : ∃ m, s.heap.Ns L m
  kit : s.heap.IsKeyIter kit o.dd i es.size ep

structure StepK (L kit : Addr) (s s' : Shared) : Prop where
  keep : ∀ b ob, b ≠ L → b ≠ kit → s.heap.get? b = some ob → s'.heap.get? b = some ob
  os : s'.os = s.os
  gens : s'.gens = s.gens
theorem StepK.refl {L kit : Addr} {s : Shared} : StepK L kit s s := ⟨fun _ _ _ _ e => e, rfl, rfl⟩
theorem StepK.trans {L kit : Addr} {s₁ s₂ s₃ : Shared} (x : StepK L kit s₁ s₂) (y : StepK L kit s₂ s₃) : StepK L kit s₁ s₃ :=
  ⟨fun b ob h1 h2 e => y.keep b ob h1 h2 (x.keep b ob h1 h2 e), y.os.trans x.os, y.gens.trans x.gens⟩

def gR (L kit : Addr) : GenEnd := fun n s₀ r s₁ => r = .ok (.ret .none) ∧ (n = 0 ∧ StepK L kit s₀ s₁)
def gY (b₀ : Heap) (o : OS) (es : Array DictEntry) (ep : Nat) (L kit : Addr) : Protocol := fun m s₀ v s' kap =>
  ∃ i e, i + 1 + m = es.size ∧ es[i]? = some e ∧ v = e.key ∧ SF b₀ o es ep L kit (i + 1) s' ∧ StepK L kit s₀ s' ∧ ∀ s'', SF b₀ o es ep L kit (i + 1) s'' → kap (.send .none) s''

section
variable {prog : Program} {w : World} {A : Around} {b₀ : Heap} {o : OS} {es : Array DictEntry} {ep : Nat} {L kit : Addr} {env : Env}
  {K : Flow → Sem Fin} {H : Value → Sem Fin} {p1 p2 p3 p4 p5 p6 p7 p : Pos} {c : Code}

theorem gen_loop (hA : A.handled = none) (hL : env.locals = L) (hkind : env.scope.kind = .function) (hitem : env.kindOf ("item" : Str) = some .local) (hco : env.scope.isCoroutine = false) (hin : interactive env = false)
    (hne : L ≠ kit) (hLo : ¬ o.has L) (hko : ¬ o.has kit) (hbL : b₀.get? L = none) (hbk : b₀.get? kit = none) (hK : K .next = .pure (.done (.ret .none))) : ∀ (m i : Nat) (s₀ s : Shared), i + m = es.size → SF b₀ o es ep L kit i s → StepK L kit s₀ s →
    Seg (model prog w) A (gR L kit) (gY b₀ o es ep L kit) m s₀ (.forLoop (.Name "item" p1) (.ref kit) [.Expr (.Yield (some (.Name "item" p4)) p5) p6] [] env) ((model prog w).den (.forLoop (.Name "item" p1) (.ref kit) [.Expr (.Yield (some (.Name "item" p4)) p5) p6] [] env))
      [.ret (backOf env K H id id) none false [] c p []] s := by
  intro m
  induction m with
  | zero =>
    intro i s₀ s hi F st
    have hi' : i = es.size := by omega
    subst hi'
    have hh : (A.over (.forLoop (.Name "item" p1) (.ref kit) [.Expr (.Yield (some (.Name "item" p4)) p5) p6] [] env) [.ret (backOf env K H id id) none false [] c p []]).handled = none := by
      show (marksOver [.ret (backOf env K H id id) none false [] c p []] (A.handled, A.handled)).1 = none
      rw [hA]; rfl
    refine seg_forLoop (keyiter_end hh F.kit F.dd (Nat.le_refl _) fun h' he => ?_)
    refine seg_block_nil rfl ?_
    refine seg_leaf (.ok .next) ?_
    have hb : backOf env K H id id (.ok .next) = K .next := rfl
    rw [hb, hK]
    refine seg_end (.ok (.ret .none)) ⟨rfl, rfl, st.trans ⟨fun b ob _ h2 e => he b ob h2 e, rfl, rfl⟩⟩
  | succ m ih =>
    intro i s₀ s hi F st
    have hlt : i < es.size := by omega
    have hx : es[i]? = some es[i] := Array.getElem?_eq_getElem hlt
    refine seg_forLoop (keyiter_item F.kit F.dd hx fun h₁ hk₁ hs₁ => ?_)
    have st₁ : StepK L kit s { s with heap := h₁ } := ⟨fun b ob _ h2 e => (hs₁.2 b h2).trans e, rfl, rfl⟩
    refine wpAny_pure ?_
    obtain ⟨mm, hm⟩ := F.ns
    have hm₁ : h₁.Ns env.locals mm := by
      rw [hL]
      obtain ⟨ob, es', ep', e, r⟩ := hm
      exact ⟨ob, es', ep', (hs₁.2 L hne).trans e, r⟩
    refine wpAny_assign_Name (wpAny_storeName_local (s := { s with heap := h₁ }) hitem hm₁ (fun h₂ hn₂ hs₂ => ?_) (by rw [hkind]; rfl))
    rw [hL] at hs₂
    have no : ∀ b, o.has b → b ≠ L ∧ b ≠ kit := fun b w => ⟨fun e => hLo (e ▸ w), fun e => hko (e ▸ w)⟩
    have kp : ∀ b ob, b ≠ L → b ≠ kit → s.heap.get? b = some ob → h₂.get? b = some ob := fun b ob h1 h2 e => (hs₂.2 b h1).trans ((hs₁.2 b h2).trans e)
    have F₂ : SF b₀ o es ep L kit (i + 1) { s with heap := h₂, toks := s.toks + 1 } := {
      keep := fun b ob e => kp b ob (fun w => by rw [w, hbL] at e; cases e) (fun w => by rw [w, hbk] at e; cases e) (F.keep b ob e)
      inst := kp _ _ (no _ (.inl rfl)).1 (no _ (.inl rfl)).2 F.inst
      dict := by obtain ⟨hd, kd, e⟩ := F.dict; exact ⟨hd, kd, kp _ _ (no _ (.inr (.inl rfl))).1 (no _ (.inr (.inl rfl))).2 e⟩
      dd := kp _ _ (no _ (.inr (.inr rfl))).1 (no _ (.inr (.inr rfl))).2 F.dd
      ns := ⟨_, hL ▸ hn₂⟩
      kit := by
        obtain ⟨ok, e, r⟩ := hk₁
        exact ⟨ok, (hs₂.2 kit (Ne.symm hne)).trans e, r⟩ }
    have st₂ : StepK L kit s { s with heap := h₂, toks := s.toks + 1 } := ⟨kp, rfl, rfl⟩
    refine seg_execs_cons (seg_Expr_Yield (by rfl) rfl (by rfl) ?_ hco hin)
    refine wpAny_Name (wpAny_loadName_local hkind hitem hn₂ (if_pos rfl) ?_)
    intro kap hkap
    refine ⟨i, es[i], by omega, hx, rfl, F₂, st.trans st₂, fun s'' F'' => hkap .none s'' ?_⟩
    refine seg_again rfl ?_
    exact ih (i + 1) s'' s'' (by omega) F'' StepK.refl
end
end Mine
namespace Mine
open PySem PySem.W PySem.Calls PyProof.Rows

section
variable {X : Wk} {A : Around} {o : OS} {es : Array DictEntry} {ep : Nat} {L : Addr} {env : Env} {p1 p2 p3 p4 p5 p6 p7 : Pos}
abbrev iterBody (p1 p2 p3 p4 p5 p6 p7 : Pos) : List Stmt := [.For (.Name "item" p1) (.Attribute (.Name "self" p2) "d" p3) [.Expr (.Yield (some (.Name "item" p4)) p5) p6] [] p7]

theorem gen_start (hA : A.handled = none) (hL : env.locals = L) (hkind : env.scope.kind = .function) (hself : env.kindOf ("self" : Str) = some .local) (hitem : env.kindOf ("item" : Str) = some .local) (hco : env.scope.isCoroutine = false) (hin : interactive env = false)
    (hLo : ¬ o.has L) (hbL : X.b₀.get? L = none) (hsm : (o.dd == sysModules) = false) {s : Shared} (keep : ∀ b ob, X.b₀.get? b = some ob → s.heap.get? b = some ob) (inst : s.heap.get? o.a = some (instO o.da)) (dict : ∃ hd kd, s.heap.get? o.da = some (dObj hd kd o.dd))
    (dd : s.heap.get? o.dd = some (dictO es ep)) {m : Str → Option Value} (hm : s.heap.Ns L m) (hv : m "self" = some (.ref o.a)) :
    (GenState.fresh (.func (iterBody p1 p2 p3 p4 p5 p6 p7) env)).Goes X.mo A (gR L s.heap.objs.size) (gY X.b₀ o es ep L s.heap.objs.size) es.size (.send .none) s := by
  refine ⟨rfl, ?_⟩
  refine seg_func (seg_execs_cons (seg_For (fun _ => rfl) ?_))
  refine Attribute_Name_ (wpAny_Name (wpAny_loadName_local hkind hself (hL ▸ hm) hv ?_))
  obtain ⟨hd, kd, hda⟩ := dict
  have I : InstAt s.heap o.a (instO o.da) 101 (some (dObj hd kd o.dd)) := ⟨inst, rfl, rfl, hda⟩
  refine get_value (K := Mine.hd.heap_39 X.w.params) (by rw [← X.hK]; exact X.inK.keeps keep) I cls_set_ga cls_set_find rfl ?_
  refine keyiter_new (s := { s with toks := s.toks + 1 }) hsm dd fun p => ?_
  have hkn : s.heap.get? s.heap.objs.size = none := get?_size _
  have st : ∀ b ob, s.heap.get? b = some ob → (s.heap.push { cls := .type "dict_keyiterator", data := .fields #[.ref o.dd, .int 0 0, .int es.size 0, .int ep 0] }).get? b = some ob := fun b ob e => Heap.get?_push_of_some _ e
  have hLs : s.heap.get? L ≠ none := by obtain ⟨ob, _, _, e, _⟩ := hm; rw [e]; exact fun q => nomatch q
  have hne : L ≠ s.heap.objs.size := fun e => hLs (e ▸ hkn)
  have hko : ¬ o.has s.heap.objs.size := by
    rintro (e | e | e)
    · rw [e, inst] at hkn; cases hkn
    · rw [e, hda] at hkn; cases hkn
    · rw [e, dd] at hkn; cases hkn
  refine gen_loop (K := fun f => match f with
    | .next => (execs [] env).wrap (fun f => .pure (.done (.ret (match f with | .ret v => v | _ => .none)))) (fun e => (leaving env e).wrap (fun _ => .raise e) .raise id id) id id
    | f => .pure (.done (.ret (match f with | .ret v => v | _ => .none)))) (H := fun e => (leaving env e).wrap (fun _ => .raise e) .raise id id) hA hL hkind hitem hco hin hne hLo hko hbL (none_of_keep (keep _) hkn) rfl es.size 0 _ _ (Nat.zero_add _) ?_ ⟨fun b ob _ _ e => st b ob e, rfl, rfl⟩
  exact ⟨fun b ob e => st b ob (keep b ob e), st _ _ inst, ⟨hd, kd, st _ _ hda⟩, st _ _ dd, ⟨m, by obtain ⟨ob, es', ep', e, r⟩ := hm; exact ⟨ob, es', ep', st _ _ e, r⟩⟩, ⟨_, Heap.get?_push_size _ rfl, rfl, rfl⟩⟩
end
end Mine
namespace Mine
open PySem PySem.W PySem.Calls PyProof.Rows

structure GFix (X : Wk) (F : Rgn) (o : OS) (L G : Addr) (env : Env) : Prop where
  loc : env.locals = L
  kind : env.scope.kind = .function
  self : env.kindOf ("self" : Str) = some .local
  item : env.kindOf ("item" : Str) = some .local
  co : env.scope.isCoroutine = false
  inter : interactive env = false
  LG : L ≠ G
  oL : ¬ o.has L
  oG : ¬ o.has G
  bL : X.b₀.get? L = none
  bG : X.b₀.get? G = none
  sm : (o.dd == sysModules) = false
  oF : ∀ b, o.has b → ¬ F b

structure GBase (X : Wk) (F own : Rgn) (o : OS) (es : Array DictEntry) (ep : Nat) (G g : Nat) (l : List PV) (s : Shared) : Prop where
  gen : s.heap.IsGen G g
  inst : s.heap.get? o.a = some (instO o.da)
  dict : ∃ hd kd, s.heap.get? o.da = some (dObj hd kd o.dd)
  dd : s.heap.get? o.dd = some (dictO es ep)
  vals : Vals X.P (fun x => F x ∨ own x) s.heap l (es.toList.map (·.key))

def GAt (X : Wk) (A₀ : Around) (o : OS) (es : Array DictEntry) (ep : Nat) (L G g : Nat) (env : Env) (body : List Stmt) (own : Rgn) (i : Nat) (s : Shared) : Prop :=
  (i = 0 ∧ own = (fun b => b = L ∨ b = G) ∧ s.gens[g]? = some (.fresh (.func body env)) ∧ ∃ m, s.heap.Ns L m ∧ m "self" = some (.ref o.a)) ∨
  (∃ kit gs, own = (fun b => (b = L ∨ b = G) ∨ b = kit) ∧ ¬ o.has kit ∧ kit ≠ G ∧ X.b₀.get? kit = none ∧ 1 ≤ i ∧ s.gens[g]? = some gs ∧ (∃ m, s.heap.Ns L m) ∧ s.heap.IsKeyIter kit o.dd i es.size ep ∧
    ∀ s'', SF X.b₀ o es ep L kit i s'' → gs.Goes X.mo A₀.in1 (gR L kit) (gY X.b₀ o es ep L kit) (es.size - i) (.send .none) s'')

section
variable {X : Wk} {A₀ : Around} {F : Rgn} {o : OS} {es : Array DictEntry} {ep L G g : Nat} {env : Env} {l : List PV} {p1 p2 p3 p4 p5 p6 p7 : Pos}

theorem gens_set {s : Shared} {g : Nat} {x y gs : GenState} (h : s.gens[g]? = some gs) {s₁ : Shared} (e : s₁.gens = (s.setGen g x).gens) :
    (∀ i z, i ≠ g → s.gens[i]? = some z → (s₁.setGen g y).gens[i]? = some z) ∧ (∀ i z, (s₁.setGen g y).gens[i]? = some z → i = g ∨ s.gens[i]? = some z) ∧ (s₁.setGen g y).gens[g]? = some y := by
  have hlt : g < s.gens.size := (Array.getElem?_eq_some_iff.mp h).1
  have e' : (s₁.setGen g y).gens = (s.gens.setIfInBounds g x).setIfInBounds g y := by
    show s₁.gens.setIfInBounds g y = _
    rw [e]; rfl
  rw [e']
  refine ⟨fun i z hi hz => ?_, fun i z hz => ?_, ?_⟩
  · rw [Array.getElem?_setIfInBounds_ne (Ne.symm hi), Array.getElem?_setIfInBounds_ne (Ne.symm hi)]; exact hz
  · by_cases hi : i = g
    · exact .inl hi
    · rw [Array.getElem?_setIfInBounds_ne (Ne.symm hi), Array.getElem?_setIfInBounds_ne (Ne.symm hi)] at hz
      exact .inr hz
  · rw [Array.getElem?_setIfInBounds_self_of_lt]
    simpa using hlt

/-- one wake -/
theorem gen_run (fx : GFix X F o L G env) {A : Around} {E : Value → Shared → Prop} {s : Shared} {Q : Option Value → Shared → Prop} {own : Rgn} {kit : Addr} {gs : GenState} {i : Nat} (hA : AOk A 4) (hg : A = A₀) (hk : ∀ b ob, X.b₀.get? b = some ob → s.heap.get? b = some ob)
    (B : GBase X F own o es ep G g l s) (hgs : s.gens[g]? = some gs) (hgo : gs.Goes X.mo A₀.in1 (gR L kit) (gY X.b₀ o es ep L kit) (es.size - i) (.send .none) (s.setGen g .running))
    (hoo : ∀ b, own b → (b = L ∨ b = G) ∨ b = kit) (hof : ∀ b, ((b = L ∨ b = G) ∨ b = kit) → own b ∨ s.heap.get? b = none) (hok : ¬ o.has kit) (hkG : kit ≠ G) (hbk : X.b₀.get? kit = none)
    (hQ : ∀ v s', i < es.size → (∃ e, es[i]? = some e ∧ v = e.key) → StepG own (fun i => i = g) s s' → GBase X F (fun b => (b = L ∨ b = G) ∨ b = kit) o es ep G g l s' → GAt X A₀ o es ep L G g env (iterBody p1 p2 p3 p4 p5 p6 p7) (fun b => (b = L ∨ b = G) ∨ b = kit) (i + 1) s' → Q (some v) s')
    (hN : ∀ s', es.size ≤ i → StepG own (fun i => i = g) s s' → s'.gens[g]? = some .finished → Q none s') : wpAny X.mo A (pyNext (.ref G)) Q E s := by
  subst hg
  have hlim : s.heap.NoLimit := by obtain ⟨_, _, _, _, T⟩ := X.top; exact T.nolimit.keeps hk
  have keepO : ∀ {s₁ : Shared}, StepK L kit (s.setGen g .running) s₁ → ∀ b ob, ¬ own b → s.heap.get? b = some ob → s₁.heap.get? b = some ob := fun {s₁} st b ob n e =>
    st.keep b ob (fun w => (hof b (.inl (.inl w))).elim n fun q => by rw [q] at e; cases e) (fun w => (hof b (.inr w)).elim n fun q => by rw [q] at e; cases e) e
  refine wpAny_pyNext_gen (P := fun n s₀ s₁ => n = 0 ∧ StepK L kit s₀ s₁) (n := es.size - i) hA.handled hlim hA.room B.gen hgs hgo (fun v s₁ gs' hy => ?_) fun s₁ hp h' hk' => ?_
  · obtain ⟨i', e, hi, he, hv, F₁, st, hgo'⟩ := hy
    cases hn : es.size - i with
    | zero =>
      rw [hn] at hgo'
      exact (hgo' _ F₁).elim
    | succ m =>
      rw [hn] at hi hgo'
      have hii : i' = i := by omega
      subst hii
      obtain ⟨g1, g2, g3⟩ := gens_set (x := .running) (y := gs') hgs st.gens
      have kb : ∀ b ob, b ≠ L → b ≠ kit → s.heap.get? b = some ob → (s₁.setGen g gs').heap.get? b = some ob := st.keep
      refine hQ v _ (by omega) ⟨e, he, hv⟩ ⟨fun b ob n e => keepO st b ob n e, st.os, g1, fun j z hz => (g2 j z hz).imp id .inl⟩ ⟨?_, F₁.inst, F₁.dict, F₁.dd, ?_⟩ (.inr ⟨kit, gs', rfl, hok, hkG, hbk, by omega, g3, F₁.ns, F₁.kit, fun s'' F'' => ?_⟩)
      · obtain ⟨ob, nm, qn, e, r⟩ := B.gen
        exact ⟨ob, nm, qn, kb G _ (Ne.symm fx.LG) (Ne.symm hkG) e, r⟩
      · exact Vals.at (fun b ob n e => ⟨fun w => w.elim (fun w => n (.inl w)) fun w => (hof b w).elim (fun w => n (.inr w)) fun q => (by rw [q] at e; cases e), keepO st b ob (fun w => n (.inr w)) e⟩) l B.vals
      · have hm : es.size - (i' + 1) = m := by omega
        rw [hm]
        exact hgo' s'' F''
  · obtain ⟨hn, st⟩ := hp
    obtain ⟨g1, g2, g3⟩ := gens_set (x := .running) (y := .finished) hgs st.gens
    exact hN _ (by omega) ⟨fun b ob n e => hk' b ob (keepO st b ob n e), st.os, g1, fun j z hz => (g2 j z hz).imp id .inl⟩ g3

theorem gen_any (fx : GFix X F o L G env) {A : Around} {E : Value → Shared → Prop} {s : Shared} {Q : Option Value → Shared → Prop} {own : Rgn} {i : Nat} (hA : AOk A 4) (hg : A = A₀) (hk : ∀ b ob, X.b₀.get? b = some ob → s.heap.get? b = some ob)
    (B : GBase X F own o es ep G g l s) (hJ : GAt X A₀ o es ep L G g env (iterBody p1 p2 p3 p4 p5 p6 p7) own i s)
    (hQ : ∀ v s' own', i < es.size → (∃ e, es[i]? = some e ∧ v = e.key) → (∀ b, own b → own' b) → (∀ b, own' b → own b ∨ s.heap.get? b = none) → StepG own (fun i => i = g) s s' → GBase X F own' o es ep G g l s' → GAt X A₀ o es ep L G g env (iterBody p1 p2 p3 p4 p5 p6 p7) own' (i + 1) s' → Q (some v) s')
    (hN : ∀ s', es.size ≤ i → StepG own (fun i => i = g) s s' → s'.gens[g]? = some .finished → Q none s') : wpAny X.mo A (pyNext (.ref G)) Q E s := by
  rcases hJ with ⟨rfl, rfl, hgs, m, hm, hv⟩ | ⟨kit, gs, rfl, hok, hkG, hbk, hi, hgs, hns, hkit, hgo⟩
  · have hkn : s.heap.get? s.heap.objs.size = none := get?_size _
    have hof : ∀ b, ((b = L ∨ b = G) ∨ b = s.heap.objs.size) → (b = L ∨ b = G) ∨ s.heap.get? b = none := fun b w => w.imp id fun (w : b = s.heap.objs.size) => w ▸ hkn
    refine gen_run fx (kit := s.heap.objs.size) hA hg hk B hgs ?_ (fun b w => .inl w) hof ?_ ?_ (none_of_keep (hk _) hkn) (fun v s' h1 h2 h3 h4 h5 => hQ v s' _ h1 h2 (fun b w => .inl w) hof h3 h4 h5) hN
    · rw [Nat.sub_zero]
      subst hg
      exact gen_start (X := X) (A := A.in1) (s := s.setGen g .running) (show A.in1.handled = none from hA.handled) fx.loc fx.kind fx.self fx.item fx.co fx.inter fx.oL fx.bL fx.sm hk B.inst B.dict B.dd hm hv
    · rintro (e | e | e)
      · have := B.inst; rw [← e, hkn] at this; cases this
      · obtain ⟨hd, kd, this⟩ := B.dict; rw [← e, hkn] at this; cases this
      · have := B.dd; rw [← e, hkn] at this; cases this
    · intro e
      obtain ⟨ob, nm, qn, this, _⟩ := B.gen
      rw [← e, hkn] at this; cases this
  · exact gen_run fx (kit := kit) hA hg hk B hgs (hgo _ ⟨hk, B.inst, B.dict, B.dd, hns, hkit⟩) (fun b w => w) (fun b w => .inl w) hok hkG hbk (fun v s' h1 h2 h3 h4 h5 => hQ v s' _ h1 h2 (fun b w => w) (fun b w => .inl w) h3 h4 h5) hN

theorem Itr.genr (fx : GFix X F o L G env) :
    ItrD X.toWd A₀ F (fun b => b = L ∨ b = G) (fun i => i = g) .gen (.ref G) l fun own i s => GBase X F own o es ep G g l s ∧ GAt X A₀ o es ep L G g env (iterBody p1 p2 p3 p4 p5 p6 p7) own i s where
  next := fun A E s Q i d V own hA hg hd hk hV hb ⟨B, hJ⟩ k => by
    have hlen := B.vals.length
    have hil : i < l.length := (List.getElem?_eq_some_iff.mp hd).1
    refine gen_any fx hA (hg rfl) hk B hJ (fun v s' own' hi hv h1 h2 st B' hJ' => ?_) (fun s' h => absurd h (by simp at hlen; omega))
    obtain ⟨e, he, rfl⟩ := hv
    obtain ⟨u, hu, hval⟩ := B.vals.get hd
    have hue : u = e.key := by
      rw [List.getElem?_map, Array.getElem?_toList, he] at hu
      exact (Option.some.inj hu).symm
    subst hue
    have hval' : Val X.P (fun b => V b ∨ own' b) s'.heap d e.key := Val.at (fun b ob n e => ⟨fun w => w.elim (fun w => n (hV b w)) fun w => (h2 b w).elim (fun w => n (.inr w)) fun q => (by rw [q] at e; cases e), st.keep b ob (fun w => n (.inr w)) e⟩) d hval
    refine k e.key s' own' h1 h2 st hval' (fun _ => ⟨B', hJ'⟩) fun elts x1 pos E' Q' k' => ?_
    obtain ⟨ob, nm, qn, ho, hc, _⟩ := B'.gen
    exact letOwned_plain ho hc (by decide) (k' s' (StepG.refl _ _ _) hval' ⟨B', hJ'⟩)
  done := fun A E s Q own hA hg hk ⟨B, hJ⟩ k => by
    have hlen := B.vals.length
    exact gen_any fx hA (hg rfl) hk B hJ (fun v s' own' hi => absurd hi (by simp at hlen; omega)) fun s' _ st hf => k s' st fun i w => w ▸ hf
  frame := fun own i s s' W hW ⟨B, hJ⟩ st => by
    have kp : ∀ b ob, own b → s.heap.get? b = some ob → s'.heap.get? b = some ob := fun b ob w e => st.keep b ob (fun q => (hW b q).2 w) e
    have kO : ∀ b ob, o.has b → s.heap.get? b = some ob → s'.heap.get? b = some ob := fun b ob w e => st.keep b ob (fun q => fx.oF b w (hW b q).1) e
    have hG : own G ∧ own L := by
      rcases hJ with ⟨_, rfl, _⟩ | ⟨kit, gs, rfl, _⟩
      · exact ⟨.inr rfl, .inl rfl⟩
      · exact ⟨.inl (.inr rfl), .inl (.inl rfl)⟩
    refine ⟨⟨?_, kO _ _ (.inl rfl) B.inst, ?_, kO _ _ (.inr (.inr rfl)) B.dd, B.vals.step st fun b w => .inl (hW b w).1⟩, ?_⟩
    · obtain ⟨ob, nm, qn, e, r⟩ := B.gen
      exact ⟨ob, nm, qn, kp _ _ hG.1 e, r⟩
    · obtain ⟨hd, kd, e⟩ := B.dict
      exact ⟨hd, kd, kO _ _ (.inr (.inl rfl)) e⟩
    · rcases hJ with ⟨h0, h1, hgs, m, ⟨ob, es', ep', e, r⟩, hv⟩ | ⟨kit, gs, h1, hok, hkG, hbk, hi, hgs, ⟨m, ob, es', ep', e, r⟩, ⟨ok, ek, rk⟩, hgo⟩
      · exact .inl ⟨h0, h1, st.gkeep _ _ hgs, m, ⟨ob, es', ep', kp _ _ hG.2 e, r⟩, hv⟩
      · exact .inr ⟨kit, gs, h1, hok, hkG, hbk, hi, st.gkeep _ _ hgs, ⟨m, ob, es', ep', kp _ _ hG.2 e, r⟩, ⟨ok, kp _ _ (by rw [h1]; exact .inr rfl) ek, rk⟩, hgo⟩
  nog := fun h => absurd rfl h
  self := fun A E s Q own i ⟨B, _⟩ k => wpAny_pyIter_gen B.gen k
  here := fun own i s ⟨B, hJ⟩ a ha => by
    have hGo : ∃ ob, s.heap.get? G = some ob := let ⟨ob, _, _, e, _⟩ := B.gen; ⟨ob, e⟩
    rcases hJ with ⟨_, rfl, _, m, ⟨ob, es', ep', e, r⟩, hv⟩ | ⟨kit, gs, rfl, hok, hkG, hbk, hi, hgs, ⟨m, ob, es', ep', e, r⟩, ⟨ok, ek, rk⟩, hgo⟩
    · rcases ha with rfl | rfl
      · exact ⟨ob, e⟩
      · exact hGo
    · rcases ha with (rfl | rfl) | rfl
      · exact ⟨ob, e⟩
      · exact hGo
      · exact ⟨ok, ek⟩
end
end Mine
namespace Mine
open PySem PySem.W PySem.Calls PyProof.Rows

section
variable {X : Wk}
theorem iter_oset {A : Around} {E : Value → Shared → Prop} {s : Shared} {V : Rgn} {l : List PV} {v : Value} {Q : Value → Shared → Prop} (hA : AOk A 4) (H : Hp X.toWd V s) (hv : Val X.P V s.heap (.oset l) v)
    (hQ : ∀ it s₂ own gn (J : Rgn → Nat → Shared → Prop), ItrD X.toWd A (fun b => V b ∨ s₂.heap.get? b = none) own gn .gen it l J → J own 0 s₂ → StepG None gn s s₂ → (∀ b, own b → s.heap.get? b = none) → (∀ i, gn i → s.gens[i]? = none) → Q it s₂) :
    wpAny X.mo A (pyIter v) Q E s := by
  obtain ⟨a, da, dd, n, es, hd, kd, rfl, sm, n1, n2, n3, h1, h2, h3, hk, hh, _⟩ := val_oset.mp hv
  have I : InstAt s.heap a (instO da) 101 (some (dObj hd kd dd)) := ⟨h1, rfl, rfl, h2⟩
  have hK := H.inK
  refine iter_own (K := Mine.hd.heap_39 X.w.params) (f := 65) (by rw [← X.hK]; exact hK) I (by rfl) (by rfl) ?_
  refine wpAny_call ?_
  refine codeAny_call_generator (a := 65) (hroom := hA.room) (ho := hK 65 _ (by rw [X.hK]; rfl)) (hd' := rfl) (hco := rfl) (hgen := rfl) (hbody := rfl) (hcd := codeRec_of hK (by rw [X.hK]; rfl)) ?_
  refine wpAny_of_eq (a := [(("self" : Str), Value.ref a)]) (by rfl) ?_
  refine wpAny_newFunctionEnv (by decide) (fun x hx => by simp only [List.mem_singleton] at hx; subst hx; rfl) (fun h' hn hs => ?_) rfl
  have hLn : s.heap.get? s.heap.objs.size = none := get?_size _
  have keep : ∀ b ob, s.heap.get? b = some ob → h'.get? b = some ob := fun b ob e => hs.extBut b ob (Nat.ne_of_lt (Heap.lt_size e)) (Heap.get?_push_of_some _ e)
  have hGn : h'.get? h'.objs.size = none := get?_size _
  have hGs : s.heap.get? h'.objs.size = none := none_of_keep (fun ob => keep _ ob) hGn
  have hLG : s.heap.objs.size ≠ h'.objs.size := fun e => by
    obtain ⟨ob, _, _, e', _⟩ := hn
    rw [e, hGn] at e'; cases e'
  refine ⟨H.nolimit.keeps keep, ?_⟩
  refine wpAny_specialOf (T := "generator") ⟨_, Heap.get?_push_size _ rfl, rfl⟩ slot_gen_next.lookup ⟨_, rfl, ?_⟩
  have hex : ∀ b, OS.has ⟨a, da, dd⟩ b → ¬ V b ∧ ∃ ob, s.heap.get? b = some ob := by
    rintro b (rfl | rfl | rfl)
    · exact ⟨n1, _, h1⟩
    · exact ⟨n2, _, h2⟩
    · exact ⟨n3, _, h3⟩
  have hno : ∀ b, s.heap.get? b = none → ¬ OS.has ⟨a, da, dd⟩ b := fun b e w => by obtain ⟨_, ob, e'⟩ := hex b w; rw [e] at e'; cases e'
  have hH : ∀ (ob : Obj) b o, s.heap.get? b = some o → (h'.push ob).get? b = some o := fun ob b o e => Heap.get?_push_of_some _ (keep b o e)
  refine hQ _ _ (fun b => b = s.heap.objs.size ∨ b = h'.objs.size) (fun i => i = s.gens.size) _ (Itr.genr (X := X) (o := ⟨a, da, dd⟩) (es := es) (ep := n) (L := s.heap.objs.size) (G := h'.objs.size) (g := s.gens.size) (l := l) ⟨?_, ?_, ?_, ?_, ?_, ?_, hLG, hno _ hLn, hno _ hGs, none_of_keep (H.keep _) hLn, none_of_keep (H.keep _) hGs, ?_, fun b w q => ?_⟩)
    ⟨⟨⟨_, _, _, Heap.get?_push_size _ rfl, rfl, rfl, rfl⟩, hH _ _ _ h1, ⟨hd, kd, hH _ _ _ h2⟩, hH _ _ _ h3, ?_⟩, .inl ⟨rfl, rfl, Array.getElem?_push_size, fun x => List.lookup x [(Str.ofString "self", Value.ref a)].reverse, ?_, ?_⟩⟩ ⟨fun b ob _ e => hH _ b ob e, rfl, fun i x hi e => ?_, fun i x e => ?_⟩ (fun b w => ?_) fun i w => ?_
  case refine_1 => rfl
  case refine_2 => rfl
  case refine_3 => rfl
  case refine_4 => rfl
  case refine_5 => rfl
  case refine_6 => rfl
  · exact sm
  · obtain ⟨nV, ob, e⟩ := hex b w
    exact q.elim nV fun q => nomatch (hH _ b ob e).symm.trans q
  · refine Vals.at (fun b ob n e => ⟨fun w => ?_, hH _ b ob e⟩) l hk
    rcases w with (w | w) | w | w
    · exact n w
    · exact nomatch (hH _ b ob e).symm.trans w
    · rw [w, hLn] at e; cases e
    · rw [w, hGs] at e; cases e
  · exact hn.keeps fun b o e => Heap.get?_push_of_some _ e
  · rfl
  · show (s.gens.push _)[i]? = some x
    rw [Array.getElem?_push, if_neg (by have := (Array.getElem?_eq_some_iff.mp e).1; omega)]
    exact e
  · have e : (s.gens.push _)[i]? = some x := e
    rw [Array.getElem?_push] at e
    split at e
    · rename_i h; exact .inl h
    · exact .inr (.inl e)
  · rcases w with rfl | rfl
    · exact hLn
    · exact hGs
  · have w : i = s.gens.size := w
    subst w
    simp

theorem IterE.oset {Y : Act} (hY : Y.toWd = X.toWd) {q : Vw} {e : Expr} {R : List PV → Prop} (h : PE Y q e fun d => ∃ l, d = .oset l ∧ R l) : IterE Y q .gen e R := fun M V A E s hA G => by
  refine h.use hA G fun v s₁ d hd hv st G₁ => ?_
  obtain ⟨l, rfl, hR⟩ := hd
  have hP : Y.P = X.P := congrArg Wd.P hY
  have hm : Y.mo = X.mo := congrArg Wd.mo hY
  rw [hP] at hv
  rw [hm]
  have H : Hp X.toWd V s₁ := hY ▸ G₁.hp
  refine iter_oset (X := X) (hA.mono Y.hn) H hv fun it s₂ own gn J itr hJ st₂ ho hg => ⟨l, own, gn, J, hR, hY ▸ itr, hJ, (st.g gn).trans st₂, fun b w => none_of_keep (fun o => st.kp b o) (ho b w), fun i w => ?_⟩
  cases e : s.gens[i]? with
  | none => rfl
  | some x => have := hg i w; rw [st.gkeep i x e] at this; cases this
end
end Mine
namespace Mine
open PySem PySem.W PySem.Calls PyProof.Rows

section
variable {X : Wk} {A : Around} {E : Value → Shared → Prop} {s : Shared} {V : Rgn}
noncomputable abbrev X39 (X : Wk) : Frag := Mine.hd.heap_39 X.w.params
theorem Hp.k39 (H : Hp X.toWd V s) : (X39 X).In s.heap := by
  have := H.inK
  rwa [X.hK] at this
theorem sym_hash_find : findIn (X39 X) (.ref 228) "__hash__" = some (some (.builtin "tuple.__hash__")) := by rfl
theorem sym_eq_find : findIn (X39 X) (.ref 228) "__eq__" = some (some (.builtin "tuple.__eq__")) := by rfl
theorem sym_sub : subIn (X39 X) (.ref 228) (.type "tuple") = some true := by rfl
theorem sym_type {a : Addr} {od : Option Addr} {vs : Array Value} {n : Nat} (ho : s.heap.get? a = some (rowO 228 od vs n)) : Looks X.mo s.heap (typeOf (.ref a)) (.ref 228) := (Looks.ld ho).andThen .now
theorem sym_inst {a : Addr} {od : Option Addr} {vs : Array Value} {n : Nat} (H : Hp X.toWd V s) (ho : s.heap.get? a = some (rowO 228 od vs n)) : Looks X.mo s.heap (isInstance (.ref a) (.type "tuple")) true :=
  (sym_type ho).andThen (looks_subIn H.k39 sym_sub)
theorem sym_special {a : Addr} {od : Option Addr} {vs : Array Value} {n : Nat} {name : Str} {r : Option Value} (H : Hp X.toWd V s) (ho : s.heap.get? a = some (rowO 228 od vs n)) (hf : findIn (X39 X) (.ref 228) name = some r) : Looks X.mo s.heap (specialOf (.ref a) name) r :=
  (sym_type ho).andThen (looks_findIn H.k39 hf)

/-- a slot of tuple, called on a Symbol -/
theorem call_sub {a : Addr} {od : Option Addr} {vs : Array Value} {n : Nat} {id nm : String} {b : Builtin} {rest : List Value} {Q : Value → Shared → Prop} (H : Hp X.toWd V s) (ho : s.heap.get? a = some (rowO 228 od vs n)) (hk : builtinKind id = some .slot) (hs : splitId id = some ("tuple", nm)) (hp : plainId id = true)
    (he : entryFor table id = some b) (ha : argsOk id ⟨.ref a :: rest, []⟩) (h : wpAny X.mo A.in1 (b ⟨.ref a :: rest, []⟩) (fun fin s' => ∃ v, fin = .done (.ret v) ∧ Q v s') E s) : wpAny X.mo A (call (.builtin id) (.ref a :: rest)) Q E s := by
  refine wpAny_call (codeAny_call_builtin hp he (check_slot hk hs (sym_inst H ho) ha (wpAny_mono h (fun fin s' z => ?_) fun _ _ z => z)))
  obtain ⟨v, rfl, hq⟩ := z
  exact hq

theorem hash_bool {b : Bool} {Q : Int → Shared → Prop} (hA : AOk A 1) (hQ : ∀ tk, Q (if b then 1 else 0) { s with toks := tk }) : wpAny X.mo A (pyHash (.bool b)) Q E s := by
  refine pyHash_slot (T := "bool") rfl F.slot_bool_hash entry_int_hash (args_int_hash _) (beq_builtin_none _) (.inr hA.unit') ?_
  cases b
  · exact (show wpAny _ _ (do ret (← mkInt 0)) _ _ s from wpAny_bind (wpAny_mkInt (wpAny_pure ⟨_, _, rfl, hQ _⟩)))
  · exact (show wpAny _ _ (do ret (← mkInt 1)) _ _ s from wpAny_bind (wpAny_mkInt (wpAny_pure ⟨_, _, rfl, hQ _⟩)))
theorem sym_hash {x : Str} {b : Bool} {v : Value} {Q : Int → Shared → Prop} (hA : AOk A 4) (H : Hp X.toWd V s) (hv : Val X.P V s.heap (.sym x b) v) (hQ : ∀ tk, Q (hashPV X.P (.sym x b)) { s with toks := tk }) : wpAny X.mo A (pyHash v) Q E s := by
  obtain ⟨a, n, od, vs, rfl, na, ho, hvs⟩ := val_row.mp hv
  have L := sym_special H ho (X := X) sym_hash_find
  obtain ⟨w1, r1, e1, h1, hvs⟩ := vals_cons.mp hvs
  obtain ⟨w2, r2, e2, h2, hvs⟩ := vals_cons.mp hvs
  have := vals_nil.mp hvs
  subst this e2
  obtain ⟨t, rfl⟩ := val_str.mp h1
  have := val_bool.mp h2
  subst this
  unfold pyHash pyHashByItsType
  refine wpAny_bind (wpAny_cRoomFor_or (.inr hA.unit') ?_)
  refine wpAny_bind (L.here ?_)
  show wpAny _ _ (if (some (Value.builtin "tuple.__hash__") == some Value.none) = true then _ else _) Q E s
  rw [if_neg (by rw [beq_builtin_none]; exact Bool.false_ne_true)]
  refine wpAny_bind (L.here ?_)
  show wpAny _ _ (callSpecialIfBoundUnlessNone? (.ref a) "__hash__" _ >>= _) Q E s
  refine wpAny_bind ?_
  simp only [callSpecialIfBoundUnlessNone?, bindSpecialIfBound?]
  refine wpAny_holding (wpAny_bind (wpAny_bind (L.here ?_)))
  simp only [F.slot_tuple_hash.bind]
  refine wpAny_bind (wpAny_askSetting (wpAny_ite ?_))
  have body : ∀ Q' : Value → Shared → Prop, (∀ tk tk', Q' (.int (Builtin.Tuple.tupleHashOf [PyData.keyHash X.P x, if b then 1 else 0]) tk') { s with toks := tk }) → wpAny X.mo A (call (.builtin "tuple.__hash__") [.ref a]) Q' E s := by
    intro Q' hQ'
    refine call_sub H ho (nm := "__hash__") (by decide +kernel) (by decide +kernel) F.slot_tuple_hash.plain F.entry_tuple_hash (F.args_tuple_hash_1 _) ?_
    show wpAny _ _ (Builtin.Tuple.tupleItemsOf (.ref a) >>= _) _ _ s
    refine wpAny_bind (wpAny_tupleItemsOf ho rfl ?_)
    refine wpAny_bind ?_
    rw [← Array.forIn_toList, e1, List.forIn_cons]
    refine wpAny_bind (wpAny_bind (wpAny_pyHash_str (wpAny_pure ?_)))
    dsimp only
    rw [List.forIn_cons]
    refine wpAny_bind (wpAny_bind (hash_bool (hA.in1.mono (by decide)) fun tk => wpAny_pure ?_))
    dsimp only
    rw [List.forIn_nil]
    refine wpAny_pure ?_
    show wpAny _ _ (retInt (Builtin.Tuple.tupleHashOf _)) _ _ _
    exact wpAny_bind (wpAny_mkInt (wpAny_pure ⟨_, rfl, hQ' _ _⟩))
  have hred : ∀ (n : Int) (s : Shared), Q (reduceHash n) s → wpAny X.mo A (pyHashByItsType.reduced n) Q E s := fun n s h => by
    unfold reduceHash at h
    unfold pyHashByItsType.reduced
    by_cases hr : (decide (-(2 : Int) ^ 63 ≤ n) && decide (n < 2 ^ 63)) = true
    · rw [if_pos hr] at h ⊢; exact wpAny_pure h
    · rw [if_neg hr] at h ⊢; exact wpAny_bind (wpAny_rule (wpAny_pure h))
  have hfin : ∀ tk tk' : Nat, wpAny X.mo A (pyHashByItsType.reduced (Builtin.Tuple.tupleHashOf [PyData.keyHash X.P x, if b then 1 else 0])) Q E { s with toks := tk } := fun tk tk' => hred _ _ (hQ tk)
  have fin : ∀ no : Sem Value, wpAny X.mo A (if (Value.builtin "tuple.__hash__" == Value.none) = true then (no >>= fun v => pure (some v)) else (call (.builtin "tuple.__hash__") [.ref a] >>= fun v => pure (some v)))
      (fun r s' => ∃ tk tk', r = some (.int (Builtin.Tuple.tupleHashOf [PyData.keyHash X.P x, if b then 1 else 0]) tk') ∧ s' = { s with toks := tk }) E s := by
    intro no
    rw [builtin_beq_none, if_neg Bool.false_ne_true]
    exact wpAny_bind (body _ fun tk tk' => wpAny_pure ⟨tk, tk', rfl, rfl⟩)
  have use : ∀ (r : Option Value) (s' : Shared), (∃ (tk : Nat) (tk' : Tok), r = some (.int (Builtin.Tuple.tupleHashOf [PyData.keyHash X.P x, if b then 1 else 0]) tk') ∧ s' = { s with toks := tk }) → True := fun _ _ _ => trivial
  split
  · refine wpAny_bind (wpAny_pure (wpAny_pure (wpAny_mono (fin _) (fun r s' hr => ?_) fun _ _ z => z)))
    obtain ⟨tk, tk', rfl, rfl⟩ := hr
    exact hfin tk 0
  · refine wpAny_tryCatch (wpAny_bind (wpAny_pure (wpAny_pure (wpAny_mono (fin _) (fun r s' hr => ?_) fun _ _ z => z))))
    obtain ⟨tk, tk', rfl, rfl⟩ := hr
    exact hfin tk 0
end
end Mine
namespace Mine
open PySem PySem.W PySem.Calls PyProof.Rows

section
variable {X : Wk} {prog : Program} {w : World} {A : Around} {E : Value → Shared → Prop} {s : Shared} {V : Rgn}
structure IsSym (h : Heap) (v : Value) (x : Str) (b : Bool) : Prop where
  at_ : ∃ a n t od, v = .ref a ∧ h.get? a = some (rowO 228 od #[.str x t, .bool b] n)
theorem isSym_of {P : Params} {h : Heap} {v : Value} {x : Str} {b : Bool} (hv : Val P V h (.sym x b) v) : IsSym h v x b := by
  obtain ⟨a, n, od, vs, rfl, na, ho, hvs⟩ := val_row.mp hv
  obtain ⟨w1, r1, e1, h1, hvs⟩ := vals_cons.mp hvs
  obtain ⟨w2, r2, e2, h2, hvs⟩ := vals_cons.mp hvs
  have := vals_nil.mp hvs
  subst this e2
  obtain ⟨t, rfl⟩ := val_str.mp h1
  have := val_bool.mp h2
  subst this
  have : vs = #[.str x t, .bool b] := by rw [← Array.toArray_toList (xs := vs), e1]
  exact ⟨a, n, t, od, rfl, this ▸ ho⟩

/-- ==, by tuple's slot -/
theorem sym_eqcall {a b : Addr} {od od' : Option Addr} {x y : Str} {p q : Bool} {n m : Nat} {t u : Tok} {Q : Value → Shared → Prop} (K : (X39 X).In s.heap) (ha : s.heap.get? a = some (rowO 228 od #[.str x t, .bool p] n)) (hb : s.heap.get? b = some (rowO 228 od' #[.str y u, .bool q] m))
    (h : Q (.bool (decide (x = y ∧ p = q))) s) : wpAny (model prog w) A (call (.builtin "tuple.__eq__") [.ref a, .ref b]) Q E s := by
  have I : ∀ {c : Addr} {oe : Option Addr} {vs : Array Value} {k : Nat}, s.heap.get? c = some (rowO 228 oe vs k) → Looks (model prog w) s.heap (isInstance (.ref c) (.type "tuple")) true := fun ho =>
    ((Looks.ld ho).andThen .now).andThen (looks_subIn K sym_sub)
  refine wpAny_call (codeAny_call_builtin F.slot_tuple_eq.plain F.entry_tuple_eq (check_slot (owner := "tuple") (n := "__eq__") (by decide +kernel) (by decide +kernel) (I ha) (F.args_tuple_eq_2 _ _) ?_))
  show wpAny _ _ (isInstance (.ref b) (.type "tuple") >>= _) _ _ s
  refine wpAny_bind ((I hb).here ?_)
  simp only [Bool.not_true, Bool.false_eq_true, if_false]
  refine wpAny_bind (wpAny_tupleItemsOf ha rfl (wpAny_bind (wpAny_tupleItemsOf hb rfl (wpAny_bind ?_))))
  show wpAny _ _ (forIn [(Value.str x t, Value.str y u), (Value.bool p, Value.bool q)] _ _) _ _ s
  rw [List.forIn_cons]
  refine wpAny_bind (wpAny_bind (wpAny_eqBool_str ?_))
  by_cases hxy : x = y
  · subst hxy
    rw [decide_eq_true rfl]
    simp only [Bool.not_true, Bool.false_eq_true, if_false]
    refine wpAny_pure ?_
    dsimp only
    rw [List.forIn_cons]
    refine wpAny_bind (wpAny_bind (SeqAt.EqAt.bool_bool (A := A.in1) (s := s) p q _ _ _ _ ?_))
    have e : (p == q) = decide (x = x ∧ p = q) := by cases p <;> cases q <;> simp
    cases hpq : (p == q) with
    | true =>
      rw [e] at hpq
      rw [hpq] at h
      simp only [Bool.not_true, Bool.false_eq_true, if_false]
      refine wpAny_pure ?_
      dsimp only
      rw [List.forIn_nil]
      refine wpAny_pure ?_
      show wpAny _ _ (pure _) _ _ _
      exact wpAny_pure h
    | false =>
      rw [e] at hpq
      rw [hpq] at h
      simp only [Bool.not_false, if_true]
      exact wpAny_bind (wpAny_pure (wpAny_pure (wpAny_pure (wpAny_pure h))))
  · rw [decide_eq_false hxy]
    simp only [Bool.not_false, if_true]
    have e : decide (x = y ∧ p = q) = false := decide_eq_false fun z => hxy z.1
    rw [e] at h
    exact wpAny_bind (wpAny_pure (wpAny_pure (wpAny_pure (wpAny_pure h))))

theorem sym_rich {a b : Addr} {od od' : Option Addr} {x y : Str} {p q : Bool} {n m : Nat} {t u : Tok} {Q : Value → Shared → Prop} (hu : A.units < cLine) (K : (X39 X).In s.heap) (ha : s.heap.get? a = some (rowO 228 od #[.str x t, .bool p] n)) (hb : s.heap.get? b = some (rowO 228 od' #[.str y u, .bool q] m))
    (h : Q (.bool (decide (x = y ∧ p = q))) s) : wpAny (model prog w) A (richCompare .Eq (.ref a) (.ref b)) Q E s := by
  have T : ∀ {c : Addr} {oe : Option Addr} {vs : Array Value} {k : Nat}, s.heap.get? c = some (rowO 228 oe vs k) → Looks (model prog w) s.heap (typeOf (.ref c)) (.ref 228) := fun ho => (Looks.ld ho).andThen .now
  have L : Looks (model prog w) s.heap (specialOf (.ref a) "__eq__") (some (.builtin "tuple.__eq__")) := (T ha).andThen (looks_findIn K sym_eq_find)
  unfold richCompare
  refine wpAny_holding (wpAny_bind (wpAny_cRoomFor_or (.inr hu) ?_))
  show wpAny _ _ (typeOf (.ref a) >>= _) Q E s
  refine wpAny_bind ((T ha).here (wpAny_bind ((T hb).here ?_)))
  simp only [bne_self_eq_false, Bool.false_eq_true, if_false, pure_bind]
  refine wpAny_bind ?_
  unfold tryCompare callSpecialIfBound? bindSpecialIfBound?
  have fin : wpAny (model prog w) A (call (.builtin "tuple.__eq__") ([.ref a] ++ [.ref b])) (fun v s' => v = .bool (decide (x = y ∧ p = q)) ∧ s' = s) E s := sym_eqcall (X := X) K ha hb ⟨rfl, rfl⟩
  refine wpAny_bind (wpAny_holding (wpAny_bind (wpAny_bind (L.here ?_))))
  simp only [F.slot_tuple_eq.bind]
  refine wpAny_bind (wpAny_askSetting (wpAny_ite ?_))
  split
  · refine wpAny_bind (wpAny_pure (wpAny_pure (wpAny_bind (wpAny_mono fin (fun v s' hv => wpAny_pure ?_) fun _ _ z => z))))
    obtain ⟨rfl, rfl⟩ := hv
    exact wpAny_pure (wpAny_pure h)
  · refine wpAny_tryCatch (wpAny_bind (wpAny_pure (wpAny_pure (wpAny_bind (wpAny_mono fin (fun v s' hv => wpAny_pure ?_) fun _ _ z => z)))))
    obtain ⟨rfl, rfl⟩ := hv
    exact wpAny_pure (wpAny_pure h)

theorem sym_eq {v₁ v₂ : Value} {x y : Str} {p q : Bool} {Q : Bool → Shared → Prop} (hu : A.units < cLine) (K : (X39 X).In s.heap) (h1 : IsSym s.heap v₁ x p) (h2 : IsSym s.heap v₂ y q)
    (h : Q (decide (x = y ∧ p = q)) s) : wpAny (model prog w) A (eqBool v₁ v₂) Q E s := by
  obtain ⟨a, n, t, od, rfl, ha⟩ := h1
  obtain ⟨b, m, u, od', rfl, hb⟩ := h2
  unfold eqBool
  try with_reducible refine wpAny_holding ?_
  show wpAny _ _ (if (Value.ref a == Value.ref b) = true then _ else _) Q E s
  by_cases hab : (Value.ref a == Value.ref b) = true
  · rw [if_pos hab]
    have e : a = b := by have := eq_of_beq hab; injection this
    subst e
    rw [ha] at hb
    cases hb
    exact wpAny_bind (wpAny_rule (wpAny_pure (by simpa using h)))
  · rw [if_neg hab]
    exact wpAny_bind (sym_rich (X := X) hu K ha hb (wpAny_truthy_bool h))

open Classical in
theorem eqok_sym {n : Nat} (x y : Str) (p q : Bool) : EqOk X.toWd n (.sym x p) (.sym y q) (decide (PV.sym x p = PV.sym y q)) := fun A s V v₁ v₂ hA H h1 h2 prog w E Q hq =>
  sym_eq (X := X) hA.unit' H.k39 (isSym_of h1) (isSym_of h2) (by
    have e : decide (x = y ∧ p = q) = decide (PV.sym x p = PV.sym y q) := by
      rw [decide_eq_decide]
      constructor
      · rintro ⟨rfl, rfl⟩; rfl
      · intro e; injection e with _ e; injection e with e1 e2; injection e1 with e1; injection e2 with e2 _; injection e2 with e2; exact ⟨e1, e2⟩
    rw [e]; exact hq)
end
end Mine
namespace Mine
open PySem PySem.W PySem.Calls PyProof.Rows

section
variable {X : Wk} {prog : Program} {w : World} {A : Around} {E : Value → Shared → Prop} {s : Shared} {V : Rgn}
theorem sym_quiet {v : Value} {x : Str} {p : Bool} {Q : Bool → Shared → Prop} (K : (X39 X).In s.heap) (hv : IsSym s.heap v x p) (h : Q true s) : wpAny (model prog w) A (eqIsQuiet 8 v) Q E s := by
  obtain ⟨a, n, t, od, rfl, ha⟩ := hv
  have T : Looks (model prog w) s.heap (typeOf (.ref a)) (.ref 228) := (Looks.ld ha).andThen .now
  have L : Looks (model prog w) s.heap (specialOf (.ref a) "__eq__") (some (.builtin "tuple.__eq__")) := T.andThen (looks_findIn K sym_eq_find)
  unfold eqIsQuiet
  refine wpAny_bind (L.here ?_)
  show wpAny _ _ (isInstance (.ref a) (.type "tuple") >>= _) _ _ s
  refine wpAny_bind ((T.andThen (looks_subIn K sym_sub) : Looks (model prog w) s.heap (isInstance (.ref a) (.type "tuple")) true).here ?_)
  simp only [Bool.not_true, Bool.false_eq_true, if_false]
  refine wpAny_bind (wpAny_seqItems ha rfl ?_)
  refine wpAny_bind ?_
  show wpAny _ _ (forIn #[Value.str x t, Value.bool p] _ _) _ _ s
  rw [← Array.forIn_toList]
  show wpAny _ _ (forIn [Value.str x t, Value.bool p] _ _) _ _ s
  rw [List.forIn_cons, eqIsQuiet_byValue _ (by rfl)]
  refine wpAny_bind (wpAny_bind (wpAny_pure ?_))
  simp only [Bool.not_true, Bool.false_eq_true, if_false]
  refine wpAny_pure ?_
  dsimp only
  rw [List.forIn_cons, eqIsQuiet_byValue _ (by rfl)]
  refine wpAny_bind (wpAny_bind (wpAny_pure ?_))
  simp only [Bool.not_true, Bool.false_eq_true, if_false]
  refine wpAny_pure ?_
  dsimp only
  rw [List.forIn_nil]
  exact wpAny_pure (wpAny_pure h)

theorem sym_tell {v : Value} {x : Str} {p : Bool} {stored : List Value} {Q : Bool → Shared → Prop} (K : (X39 X).In s.heap) (hv : IsSym s.heap v x p) (hst : ∀ u ∈ stored, ∃ y q, IsSym s.heap u y q) (h : Q false s) : wpAny (model prog w) A (tableMayTell v stored) Q E s := by
  unfold tableMayTell
  split
  · exact wpAny_pure h
  · refine wpAny_bind (sym_quiet (X := X) K hv ?_)
    simp only [Bool.not_true, Bool.false_eq_true, if_false]
    refine wpAny_bind ?_
    refine wpAny_forIn_list _ (fun rest r s' => s' = s ∧ r = (none, ()) ∧ ∀ u ∈ rest, ∃ y q, IsSym s.heap u y q) _ ?_ ?_ _ _ ⟨rfl, rfl, hst⟩
    · rintro u rest r s' ⟨rfl, rfl, hr⟩
      obtain ⟨y, q, hu⟩ := hr u List.mem_cons_self
      refine wpAny_bind (sym_quiet (X := X) K hu ?_)
      simp only [Bool.not_true, Bool.false_eq_true, if_false]
      exact wpAny_pure ⟨rfl, rfl, fun u hu => hr u (List.mem_cons_of_mem _ hu)⟩
    · rintro r s' ⟨rfl, rfl, _⟩
      exact wpAny_pure h

abbrev SK := Str × Bool
theorem sym_find {d : Addr} {es : Array DictEntry} {ep : Nat} {v : Value} {k : SK} {ks : List SK} {hsh : SK → Int} {Q : Option Nat → Shared → Prop} (hu : A.units < cLine) (K : (X39 X).In s.heap) (hv : IsSym s.heap v k.1 k.2) (ho : s.heap.get? d = some (dictO es ep))
    (hes : ∀ (i : Nat) (e : DictEntry), es[i]? = some e → ∃ y, ks[i]? = some y ∧ IsSym s.heap e.key y.1 y.2 ∧ e.hash = hsh y) (hsz : ks.length = es.size) (hn : ks.Nodup)
    (hs : ∀ i, ks[i]? = some k → Q (some i) s) (hm : k ∉ ks → Q none s) : wpAny (model prog w) A (dictFind d v (hsh k)) Q E s := by
  obtain ⟨a, n, t, od, rfl, ha⟩ := id hv
  have hany : ¬ (es.any fun e => e.key == Value.ref a && e.hash != hsh k) = true := by
    rw [Array.any_eq_true]
    rintro ⟨i, hi, hc⟩
    obtain ⟨y, hy, ⟨b, m, u, od', hb, hob⟩, hh⟩ := hes i _ (Array.getElem?_eq_getElem hi)
    simp only [Bool.and_eq_true, beq_iff_eq, bne_iff_ne, ne_eq] at hc
    obtain ⟨h1, h2⟩ := hc
    rw [hb] at h1
    injection h1 with h1
    subst h1
    rw [ha] at hob
    injection hob with hob
    injection hob with _ _ hob _
    injection hob with hob _
    have e1 : k.1 = y.1 := by injection hob with hob; injection hob with e1 e2; injection e1
    have e2 : k.2 = y.2 := by injection hob with hob; injection hob with e1 e2; injection e2 with e2 _; injection e2
    exact h2 (by rw [hh]; congr 1; exact (Prod.ext e1 e2).symm)
  have hst : ∀ u ∈ (placesWithHash es.size (fun i => es[i]?.map (·.hash)) (hsh k)).filterMap (fun i => es[i]?.map (·.key)), ∃ y q, IsSym s.heap u y q := by
    intro u hu'
    obtain ⟨i, _, hi⟩ := List.mem_filterMap.mp hu'
    cases hei : es[i]? with
    | none => rw [hei] at hi; cases hi
    | some e =>
      rw [hei] at hi
      obtain rfl : e.key = u := by simpa using hi
      obtain ⟨y, _, h, _⟩ := hes i e hei
      exact ⟨_, _, h⟩
  unfold dictFind
  try with_reducible refine wpAny_holding ?_
  refine wpAny_bind (wpAny_dictEntries ho rfl ?_)
  dsimp only
  rw [if_neg (show ¬ ((Value.ref a :: (placesWithHash es.size (fun i => es[i]?.map (·.hash)) (hsh k)).filterMap (fun i => es[i]?.map (·.key))).all carriedByValue) = true by simp [carriedByValue])]
  rw [if_neg hany]
  have hP : ∀ i ∈ placesWithHash es.size (fun i => es[i]?.map (·.hash)) (hsh k), ∃ e, es[i]? = some e ∧ e.hash = hsh k := fun i hi => by
    have := (List.mem_filter.mp hi).2
    dsimp only at this
    cases hei : es[i]? with
    | none => rw [hei] at this; simp at this
    | some e => rw [hei] at this; exact ⟨e, rfl, by simpa using this⟩
  have hPa : ∀ i e, es[i]? = some e → e.hash = hsh k → i ∈ placesWithHash es.size (fun i => es[i]?.map (·.hash)) (hsh k) := fun i e he hh =>
    List.mem_filter.mpr ⟨List.mem_range.mpr (Array.getElem?_eq_some_iff.mp he).1, by dsimp only; rw [he]; simp [hh]⟩
  have hPn : (placesWithHash es.size (fun i => es[i]?.map (·.hash)) (hsh k)).Nodup := List.Pairwise.filter _ (List.nodup_range (n := es.size))
  generalize hst' : (placesWithHash es.size (fun i => es[i]?.map (·.hash)) (hsh k)).filterMap (fun i => es[i]?.map (·.key)) = stored at hst ⊢
  generalize placesWithHash es.size (fun i => es[i]?.map (·.hash)) (hsh k) = P at hP hPa hPn ⊢
  have loop : ∀ tells, tells = false → wpAny (model prog w) A (if (tells && decide (stored.length ≥ 2)) = true then unsupported "dict.find:order-among-keys-of-one-hash" else pure ()) (fun _ s' => s' = s) E s := fun tells h => by
    rw [h]; exact wpAny_pure rfl
  by_cases hone : (stored == [Value.ref a]) = true <;>
  (first | rw [if_pos hone] | rw [if_neg hone]) <;> (first | refine wpAny_bind (wpAny_pure ?_) | refine wpAny_bind (sym_tell (X := X) K hv hst ?_)) <;> (
    rw [if_neg (by simp)]
    refine wpAny_bind ?_
    refine wpAny_forIn_list _
      (fun rest b s' => s' = s ∧ ∃ hit done, b = (none, hit) ∧ P = done ++ rest ∧ ((hit = none ∧ ∀ i ∈ done, ks[i]? ≠ some k) ∨ ∃ j, j ∈ done ∧ hit = some j ∧ ks[j]? = some k)) _ ?_ ?_ _ _
      ⟨rfl, none, [], rfl, rfl, .inl ⟨rfl, fun i h => nomatch h⟩⟩
    · rintro i rest b s' ⟨rfl, hit, done, rfl, hPd, hH⟩
      obtain ⟨e, he, hh⟩ := hP i (by rw [hPd]; simp)
      obtain ⟨y, hy, hsy, hhy⟩ := hes i e he
      have hnd : i ∉ done := by
        rw [hPd] at hPn
        have := (List.nodup_append.mp hPn).2.2
        exact fun h => this i h i (by simp) rfl
      rw [he]
      dsimp only
      rw [if_pos (by simp [hh])]
      refine wpAny_bind (wpAny_dictEpoch ho rfl (wpAny_bind (sym_eq (X := X) hu K hsy hv (wpAny_bind (wpAny_dictEpoch ho rfl ?_)))))
      rw [if_neg (by simp)]
      by_cases hyk : y = k
      · subst hyk
        rw [decide_eq_true ⟨rfl, rfl⟩]
        rcases hH with ⟨rfl, hno⟩ | ⟨j, hj, rfl, hjk⟩
        · first | rw [if_pos rfl] | skip
          simp only [Option.isSome_none, Bool.false_eq_true, if_false]
          first | refine wpAny_bind (wpAny_pure ?_) | skip
          refine wpAny_bind (wpAny_rule ?_)
          split
          · exact wpAny_pure (wpAny_pure (hs i hy))
          · exact wpAny_pure ⟨rfl, some i, done ++ [i], rfl, by simp [hPd], .inr ⟨i, by simp, rfl, hy⟩⟩
        · have : j = i := (List.getElem?_inj (List.getElem?_eq_some_iff.mp hjk).1 hn).mp (hjk.trans hy.symm)
          exact absurd (this ▸ hj) hnd
      · have hd : decide (y.1 = k.1 ∧ y.2 = k.2) = false := decide_eq_false fun z => hyk (Prod.ext z.1 z.2)
        rw [hd]
        simp only [Bool.false_eq_true, if_false]
        refine wpAny_bind (wpAny_rule ?_)
        have hH' : (hit = none ∧ ∀ i' ∈ done ++ [i], ks[i']? ≠ some k) ∨ ∃ j, j ∈ done ++ [i] ∧ hit = some j ∧ ks[j]? = some k := by
          rcases hH with ⟨h0, hno⟩ | ⟨j, hj, h1, h2⟩
          · refine .inl ⟨h0, fun i' hi' => ?_⟩
            rcases List.mem_append.mp hi' with h | h
            · exact hno i' h
            · simp only [List.mem_singleton] at h
              subst h
              rw [hy]
              exact fun e => hyk (Option.some.inj e)
          · exact .inr ⟨j, by simp [hj], h1, h2⟩
        first | rw [if_neg (by simp)] | skip
        first
          | exact wpAny_pure ⟨rfl, hit, done ++ [i], rfl, by simp [hPd], hH'⟩
          | exact wpAny_bind (wpAny_pure (wpAny_pure ⟨rfl, hit, done ++ [i], rfl, by simp [hPd], hH'⟩))
    · rintro b s' ⟨rfl, hit, done, rfl, hPd, hH⟩
      rw [List.append_nil] at hPd
      subst hPd
      rcases hH with ⟨rfl, hno⟩ | ⟨j, hj, rfl, hjk⟩
      · refine wpAny_pure (hm fun hk => ?_)
        obtain ⟨i, hi⟩ := List.mem_iff_getElem?.mp hk
        have hlt : i < es.size := by rw [← hsz]; exact (List.getElem?_eq_some_iff.mp hi).1
        obtain ⟨y, hy, _, hhy⟩ := hes i _ (Array.getElem?_eq_getElem hlt)
        rw [hi] at hy
        cases hy
        exact hno i (hPa i _ (Array.getElem?_eq_getElem hlt) hhy) hi
      · exact wpAny_pure (hs j hjk))
end
end Mine
namespace Mine
open PySem PySem.W PySem.Calls PyProof.Rows

def sKey (k : SK) : PV := .sym k.1 k.2
def isSymPV (d : PV) : Prop := ∃ k : SK, d = sKey k
theorem sKey_inj {k k' : SK} (h : sKey k = sKey k') : k = k' := by
  obtain ⟨x, b⟩ := k
  obtain ⟨y, c⟩ := k'
  unfold sKey at h
  injection h with _ h
  injection h with h1 h2
  injection h1 with h1
  injection h2 with h2 _
  injection h2 with h2
  exact Prod.ext h1 h2
theorem syms_map : ∀ {ks : List PV}, (∀ x ∈ ks, isSymPV x) → ∃ l : List SK, ks = l.map sKey
  | [], _ => ⟨[], rfl⟩
  | d :: r, h => by
    obtain ⟨k, rfl⟩ := h d (by simp)
    obtain ⟨l, rfl⟩ := syms_map (ks := r) fun x hx => h x (by simp [hx])
    exact ⟨k :: l, rfl⟩

theorem dkey_sym (X : Wk) {n : Nat} (hn4 : 4 ≤ n) : DKey X.toWd n isSymPV where
  hash := fun A E s V k v Q hA H hk hv hQ => by
    obtain ⟨k, rfl⟩ := hk
    exact sym_hash (X := X) (hA.mono hn4) H hv hQ
  find := fun A E s V k v d es ep ks Q hA H hk hks hv ho h1 h3 hn hs hm => by
    obtain ⟨k, rfl⟩ := hk
    obtain ⟨l, rfl⟩ := syms_map hks
    have hl := h1.length
    refine sym_find (X := X) (k := k) (ks := l) (hsh := fun k => hashPV X.P (sKey k)) hA.unit' H.k39 (isSym_of hv) ho (fun i e he => ?_) (by simpa using hl) ?_ (fun i hi => hs i ?_) fun hk => hm fun h => ?_
    · have hj : (es.toList.map (·.key))[i]? = some e.key := by rw [List.getElem?_map, Array.getElem?_toList, he]; rfl
      obtain ⟨y, hy, hyv⟩ := h1.get' hj
      rw [List.getElem?_map] at hy
      cases hly : l[i]? with
      | none => rw [hly] at hy; cases hy
      | some z =>
        rw [hly] at hy
        cases hy
        refine ⟨z, rfl, isSym_of hyv, ?_⟩
        have hh : (es.toList.map (·.hash))[i]? = some e.hash := by rw [List.getElem?_map, Array.getElem?_toList, he]; rfl
        rw [h3, List.getElem?_map, List.getElem?_map, hly] at hh
        exact (Option.some.inj hh).symm
    · rw [List.nodup_iff_pairwise_ne, List.pairwise_map] at hn
      rw [List.nodup_iff_pairwise_ne]
      exact hn.imp fun {a b} h e => h (congrArg sKey e)
    · rw [List.getElem?_map, hi]; rfl
    · obtain ⟨z, hz, e⟩ := List.mem_map.mp h
      exact hk (sKey_inj e ▸ hz)
end Mine
namespace Mine
open PySem PySem.W PySem.Calls PyProof.Rows

theorem vals_nones {P : Params} {V : Rgn} {h : Heap} : ∀ {ks : List PV} {vs : List Value}, Vals P V h (nones ks) vs ↔ vs = ks.map fun _ => Value.none
  | [], vs => by simp [nones]
  | k :: ks, vs => by
    show Vals P V h (.none :: nones ks) vs ↔ _
    rw [vals_cons]
    constructor
    · rintro ⟨v, r, rfl, h1, h2⟩
      rw [val_none.mp h1, vals_nones.mp h2]; rfl
    · rintro rfl
      exact ⟨_, _, rfl, val_none.mpr rfl, vals_nones.mpr rfl⟩
theorem Val.osAt {P : Params} {V : Rgn} {h : Heap} {ks : List PV} {v : Value} (x : Val P V h (.oset ks) v) : ∃ o : OS, v = .ref o.a ∧ (o.dd == sysModules) = false ∧ (∀ b, o.has b → ¬ V b) ∧ OsAt P V h o ks := by
  obtain ⟨a, da, dd, n, es, hd, kd, rfl, sm, n1, n2, n3, h1, h2, h3, hk, hh, hv⟩ := val_oset.mp x
  refine ⟨⟨a, da, dd⟩, rfl, sm, ?_, h1, ⟨hd, kd, h2⟩, n, es, h3, hk, vals_nones.mpr hv, hh⟩
  rintro b (rfl | rfl | rfl) <;> assumption
theorem OsAt.val {P : Params} {V : Rgn} {h : Heap} {ks : List PV} {o : OS} (x : OsAt P V h o ks) (nV : ∀ b, o.has b → ¬ V b) (sm : (o.dd == sysModules) = false) : Val P V h (.oset ks) (.ref o.a) := by
  obtain ⟨h1, ⟨hd, kd, h2⟩, n, es, h3, hk, hv, hh⟩ := x
  exact val_oset.mpr ⟨o.a, o.da, o.dd, n, es, hd, kd, rfl, sm, nV _ (.inl rfl), nV _ (.inr (.inl rfl)), nV _ (.inr (.inr rfl)), h1, h2, h3, hk, hh, vals_nones.mp hv⟩
theorem OsAt.less {P : Params} {V V' : Rgn} {h : Heap} {ks : List PV} {o : OS} (x : OsAt P V h o ks) (hv : ∀ b, V' b → V b) : OsAt P V' h o ks :=
  x.at (fun b ob n e => ⟨fun w => n (hv b w), e⟩) fun b ob _ e => e

section
variable {prog : Program} {w : World} {A : Around} {E : Value → Shared → Prop} {s : Shared}
theorem meets_dlen {d : Addr} {es : Array DictEntry} {ep : Nat} (hd : (d == sysModules) = false) :
    MeetsIn prog w (Builtin.«dict.__len__» ⟨[.ref d], []⟩) (fun _ R s => s.heap.get? d = some (dictO es ep) ∧ R (.ok (.ret (.int es.size s.toks))) { s with toks := s.toks + 1 }) :=
  .of_wp fun A R s ⟨ho, h⟩ => by
    show wpAny _ _ (dictSize d >>= _) _ _ s
    unfold dictSize
    refine wpAny_bind (wpAny_bind (wpAny_dictEntries ho rfl (wpAny_pure ?_)))
    show wpAny _ _ (Builtin.Dict.pendingCount d >>= _) _ _ s
    refine wpAny_bind (wpAny_pendingCount_other hd ?_)
    refine wpAny_ret_mkInt ?_
    rw [Nat.add_zero]; exact h
theorem call_dlen {d : Addr} {es : Array DictEntry} {ep : Nat} {Q : Value → Shared → Prop} (hd : (d == sysModules) = false) (ho : s.heap.get? d = some (dictO es ep)) (hfit : (es.size : Int) < 2 ^ 63)
    (h : Q (.int es.size (s.toks + 1)) { s with toks := s.toks + 1 + 1 }) : wpAny (model prog w) A (call (.builtin "len") [.ref d]) Q E s := by
  refine Calls.call_function_entry kind_len plain_len entry_len (args_len1 _) ?_
  have hT : Shared.TypeIs s (.ref d) "dict" := ⟨_, ho, rfl⟩
  unfold Builtin.«len»
  refine wpAny_bind (m := oneArg "len" _) (wpAny_pure ?_)
  refine wpAny_bind (m := callSpecial? (.ref d) (Str.ofString "__len__")) (wpAny_callSpecial?_slot (name := Str.ofString "__len__") hT F.slot_dict_len
    (call_meetsIn F.slot_dict_len hT F.entry_dict_len (F.args_dict_len_1 _) (meets_dlen (es := es) (ep := ep) hd) ⟨ho, ?_⟩))
  show wpAny _ _ _ _ _ { s with toks := s.toks + 1 }
  refine wpAny_bind (wpAny_holding (wpAny_pure ?_))
  refine wpAny_bind (wpAny_letGo ?_)
  show wpAny _ _ (if ((es.size : Nat) : Int) < 0 then _ else _) _ _ _
  rw [if_neg (by omega)]
  show wpAny _ _ (if ((es.size : Nat) : Int) ≥ 2 ^ 63 then _ else _) _ _ _
  rw [if_neg (by omega)]
  exact wpAny_bind (wpAny_mkInt (wpAny_pure ⟨_, rfl, h⟩))

theorem all_loop {b I : Addr} {items : Array Value} {nl : Nat} {bs : List Bool} {R : Result → Shared → Prop} (hb : items.toList = bs.map Value.bool) (hne : b ≠ I) (hh : A.handled = none) : ∀ (k i : Nat) (s : Shared), bs.length - i = k → i ≤ bs.length →
    s.heap.get? b = some (seqO tList items nl) → s.heap.IsListIter I b i →
    (∀ h', (∀ a o, ¬ a = I → s.heap.get? a = some o → h'.get? a = some o) → R (.ok (.ret (.bool ((bs.drop i).all id)))) { s with heap := h' }) →
    codeAny (model prog w) A (.builtin "all.loop" ⟨[.ref I], []⟩) R s := by
  have hsz : items.size = bs.length := by have := congrArg List.length hb; simpa using this
  intro k
  induction k with
  | zero =>
    intro i s hk hi ho hit hR
    have hin : i = bs.length := by omega
    subst hin
    refine codeAny_builtin F.entry_all_loop ?_
    rw [Around.under_plainId F.plain_all_loop _]
    show wpAny _ A.in1 (pyNext (.ref I) >>= _) _ _ s
    refine wpAny_bind (wpAny_pyNext_list_end (by exact hh) hit (Heap.IsList.of ho) (by rw [Array.getElem?_eq_none]; omega) fun h' he => ?_)
    refine wpAny_bind (wpAny_rule (wpAny_pure ?_))
    have := hR h' he
    rw [List.drop_of_length_le (Nat.le_refl _)] at this
    exact this
  | succ k ih =>
    intro i s hk hi ho hit hR
    have hlt : i < bs.length := by omega
    have hd : bs.drop i = bs[i] :: bs.drop (i + 1) := List.drop_eq_getElem_cons hlt
    have hv : items[i]? = some (.bool bs[i]) := by
      rw [← Array.getElem?_toList, hb, List.getElem?_map, List.getElem?_eq_getElem hlt]; rfl
    refine codeAny_builtin F.entry_all_loop ?_
    rw [Around.under_plainId F.plain_all_loop _]
    show wpAny _ A.in1 (pyNext (.ref I) >>= _) _ _ s
    refine wpAny_bind (wpAny_pyNext_list_item hit (Heap.IsList.of ho) hv fun h' hit' hs => ?_)
    refine wpAny_bind (wpAny_holding (wpAny_truthy_bool ?_))
    refine wpAny_bind (wpAny_letGo ?_)
    have hk' : ∀ a o, ¬ a = I → s.heap.get? a = some o → h'.get? a = some o := fun a o n e => (hs.2 a n).trans e
    cases hb' : bs[i] with
    | true =>
      simp only [if_true]
      refine wpAny_pure ⟨plainId_quiet F.plain_all_loop _, ih (i + 1) _ (by omega) hlt (hk' _ _ hne ho) hit' fun h'' hk'' => ?_⟩
      have := hR h'' fun a o n e => hk'' a o n (hk' a o n e)
      rw [hd, List.all_cons, hb'] at this
      simpa using this
    | false =>
      simp only [Bool.false_eq_true, if_false]
      refine wpAny_bind (wpAny_rule (wpAny_pure ?_))
      have := hR h' hk'
      rw [hd, List.all_cons, hb'] at this
      simpa using this
end

theorem vals_bools {P : Params} {V : Rgn} {h : Heap} : ∀ {bs : List Bool} {vs : List Value}, Vals P V h (bs.map .bool) vs → vs = bs.map Value.bool
  | [], vs, x => by simpa using x
  | b :: bs, vs, x => by
    obtain ⟨v, r, rfl, h1, h2⟩ := vals_cons.mp x
    rw [val_bool.mp h1, vals_bools h2]; rfl
theorem fc_all {X : Wd} {n : Nat} {bs : List Bool} {P : PV → Prop} (h : P (.bool (bs.all id))) : FC X n (.builtin "all") [.list (bs.map .bool)] P := fun A E s V vs hA H hv => by
  obtain ⟨v, r, rfl, h1, hv⟩ := vals_cons.mp hv
  have := vals_nil.mp hv
  subst this
  obtain ⟨b, m, ws, rfl, nr, ho, hw⟩ := val_seq.mp h1
  refine call_function_tree F.kind_all F.plain_all F.entry_all (F.args_all1 _) ?_
  unfold Builtin.«all»
  refine wpAny_bind (m := oneArg "all" _) (wpAny_pure ?_)
  refine wpAny_bind (wpAny_pyIter_list (Heap.IsList.of ho) ?_)
  refine wpAny_pure ⟨plainId_quiet F.plain_all_loop _, all_loop (b := b) (vals_bools hw) (Nat.ne_of_lt (Heap.lt_size ho)) hA.handled bs.length 0 _ rfl (Nat.zero_le _) (Heap.get?_push_of_some _ ho) ⟨_, Heap.get?_push_size _ rfl, rfl, rfl⟩ fun h' hk => ?_⟩
  refine ⟨Step.heap (t := s.toks) fun a o _ e => hk a o (Nat.ne_of_lt (Heap.lt_size e)) (Heap.get?_push_of_some _ e), _, h, val_bool.mpr rfl⟩

section
variable {Y : Act} {q : Vw} {P : PV → Prop}
/-- len of a place that is a dict -/
theorem PE.lenD {e : Expr} {p pos : Pos} {ks ds : List PV} (hf : FnIs Y "len" (.builtin "len")) (h : PM Y q e (.dict ks ds)) (hl : ks.length ≤ 4096) (hp : P (.int ks.length)) (hn : noStar [e] = true := by rfl) : PE Y q (.Call (.Name "len" p) [e] [] pos) P := fun M V A E s hA G => by
  refine wpAny_Call_NameR (rd_fn G hf ?_)
  refine callWith_of (P := fun h => Y.K.In h) (by rw [star_none hn]; rfl) (fun h hh => Callee.looks (X := Y.toWd) (.inr (.inr ⟨_, rfl⟩)) hh) ?_
  rw [(star_cons (env := Y.env) (pos := pos) hn).1]
  refine evalArgs_plain (spliced_cons (wpAny_mono (h M V A E s hA G) (fun v s₁ h₁ => spliced_nil ?_) fun _ _ x => x))
  obtain ⟨st, r, rfl, sm, m, es, ho, hw, _⟩ := h₁
  have e := hw.length
  have e' : es.size = ks.length := by simpa using e.symm
  exact ⟨(G.stepN st).hp.inK, call_dlen sm ho (by omega) ⟨st.trans Step.toks, _, hp, val_int.mpr ⟨_, by rw [e']⟩⟩⟩

/-- x.d of a set that stays -/
theorem PM.oD {X : Wk} {x : Str} {px pos : Pos} {ks : List PV} (hY : Y.toWd = X.toWd) (hx : q.ρ x = some (.fz (.oset ks)))
    (hd : (x == ("__debug__" : Str)) = false := by decide) (hc : (x == ("__classdict__" : Str)) = false := by decide) : PM Y q (.Attribute (.Name x px) "d" pos) (.dict ks (nones ks)) := fun M V A E s hA G => by
  obtain ⟨u, hu, hv⟩ := G.slots x _ hx
  have hv : Val Y.P V s.heap (.oset ks) u := hv
  obtain ⟨o, rfl, sm, nV, hat⟩ := hv.osAt
  refine Attribute_Name_ (rd_name G hu ?_ hd hc)
  have hP : Y.P = X.P := congrArg Wd.P hY
  have hm : Y.mo = X.mo := congrArg Wd.mo hY
  have H : Hp X.toWd V s := hY ▸ G.hp
  rw [hm]
  exact get_d (X := X) H (hP ▸ hat) ⟨Step.toks, o.dd, rfl, sm, hat.top.at (fun b ob n e => ⟨n, e⟩) fun ob e => e⟩
end
end Mine
namespace Mine
open PySem PySem.W PySem.Calls PyProof.Rows

/-- a body that hands back what an expression gives -/
theorem PS.ret {Y : Act} {q : Vw} {e : Expr} {pos : Pos} {Φ : AF → Vw → Prop} (h : PE Y q e fun d => Φ (.ret d) q) : PS Y q [.Return (some e) pos] Φ :=
  PS.cons (Ψ := fun f q' => f ≠ .next ∧ Φ f q') (PS1.ret (PE.mono h fun d hd => ⟨(fun e => nomatch e), hd⟩)) (fun q' h => absurd rfl h.1) fun f q' _ h => h.2

theorem fc_oslen {X : Wk} {ks : List PV} {P : PV → Prop} (hz : ks.length ≤ 4096) (h : P (.int ks.length)) : FC X.toWd 5 (.ref 98) [.oset ks] P := by
  refine fc_enter (n := 4) (by decide) (names := ["self"]) (by rw [X.hK]; rfl) rfl rfl (fun vals hv => match vals, hv with | [a], _ => rfl) rfl (by decide)
    (fun L x hx => by simp only [List.mem_singleton] at hx; subst hx; exact .inl (by rfl)) (by rw [X.hK]; rfl) rfl rfl rfl rfl rfl fun L V env he => ?_
  have hk := congrArg (fun e : Env => e.scope.names) he
  dsimp only [callEnvC, newEnv] at hk
  have fl : FnIs (X.act env V 4 (by decide)) "len" (.builtin "len") := fnis_b (X := X) rfl (kd hk (by rfl)) (by rfl) (by rfl)
  exact PS.ret (PE.lenD fl (PM.oD (X := X) rfl (q0_here (by rfl))) hz h)

open Classical in
theorem fc_holds {X : Wk} {ks : List PV} {c : Value} {l : List SK} {P : PV → Prop} (hks : ∀ x ∈ ks, isSymPV x) (hnd : ks.Nodup) (hc : c = tList ∨ c = tTuple) (hz : l.length ≤ 4096) (h : P (.bool (decide (∀ x ∈ l, sKey x ∈ ks)))) : FC X.toWd 10 (.ref 84) [.oset ks, .seq c (l.map sKey)] P := by
  refine fc_enter (n := 9) (by decide) (names := ["self", "items"]) (by rw [X.hK]; rfl) rfl rfl (fun vals hv => match vals, hv with | [a, b], _ => rfl) rfl (by decide)
    (fun L x hx => by
      simp only [List.mem_cons, List.mem_singleton, List.not_mem_nil, or_false] at hx
      rcases hx with hx | hx <;> subst hx
      · exact .inr ⟨by rfl, by rfl⟩
      · exact .inl (by rfl)) (by rw [X.hK]; rfl) rfl rfl rfl rfl rfl fun L V env he => ?_
  have hk := congrArg (fun e : Env => e.scope.names) he
  dsimp only [callEnvC, newEnv] at hk
  have hf : env.scope.kind = .function := by rw [he]; rfl
  have hcs : ∃ c, env.cells.lookup ("self" : Str) = some c := by rw [he]; exact ⟨_, rfl⟩
  clear he
  obtain ⟨cs, hcs⟩ := hcs
  have kself : env.kindOf "self" = some .cell := kd hk (by rfl)
  have fa : FnIs (X.act env V 9 (by decide)) "all" (.builtin "all") := fnis_b (X := X) rfl (kd hk (by rfl)) (by rfl) (by rfl)
  refine PS.ret (PE.call fa (.inr (.inr ⟨_, rfl⟩)) (PE.listcomp (nm := .seq) (comp_shape1 "self" hcs (by decide) (by decide) rfl (by decide)) (.inl ⟨by decide, _, _, rfl⟩)
    (IterE.seq (PE.name (q0_here (by rfl)) ⟨c, l.map sKey, rfl, hc, _, compok_name l sKey (fun k => [.bool (decide (sKey k ∈ ks))]) ?_ (by rfl) (fun C k q'' hk' i1 i2 => pts_elt ?_), ?_⟩)) (fun _ => rfl)))
  · rw [flat_one, List.length_map]; exact hz
  · refine PE.inM (dkey_sym X (n := 4) (by decide)) (by show 5 ≤ 9; decide) (PM.oD (X := X) rfl ((i2 _ (by decide)).trans ((inh_cell hf kself hcs (by rfl)).trans (q0_here (by rfl))))) hks hnd (PE.name i1 ⟨⟨k, rfl⟩, fun b hb => ?_⟩)
    congr 2
    cases b <;> simp_all
  · rw [flat_one]
    have : l.map (fun k => PV.bool (decide (sKey k ∈ ks))) = (l.map fun k => decide (sKey k ∈ ks)).map .bool := by simp
    rw [this]
    refine fc_all ?_
    have e : (l.map fun k => decide (sKey k ∈ ks)).all id = decide (∀ x ∈ l, sKey x ∈ ks) := by
      rw [Bool.eq_iff_iff]
      simp
    rw [e]
    exact h
end Mine
namespace Mine
open PySem PySem.W PySem.Calls PyProof.Rows

def os1 (o : OS) : Sto := fun k => match k with | .nul => some o | _ => none
theorem os1_self {o : OS} : os1 o .nul = some o := rfl
theorem os1_eq {o o' : OS} {k : Ky} (h : os1 o k = some o') : k = .nul ∧ o' = o := by
  cases k with
  | nul => exact ⟨rfl, (Option.some.inj h).symm⟩
  | fst d => exact nomatch h
  | fol d => exact nomatch h
def OS.sep (o : OS) : Prop := o.a ≠ o.da ∧ o.a ≠ o.dd ∧ o.da ≠ o.dd
theorem sep1 {o : OS} (h : o.sep) : Sep (os1 o) := ⟨fun k o' e => (os1_eq e).2 ▸ h, fun k k' o1 o2 b e1 e2 _ _ => (os1_eq e1).1.trans (os1_eq e2).1.symm⟩
theorem stoS1 {o : OS} {b : Addr} : stoS (os1 o) b ↔ o.has b := ⟨fun ⟨k, o', e, h⟩ => (os1_eq e).2 ▸ h, fun h => ⟨.nul, o, rfl, h⟩⟩
theorem stoI1 {P : Params} {o : OS} {ct : Cts} {V : Rgn} {h : Heap} : stoI P (os1 o) ct V h ↔ OsAt P V h o (ct .nul) := ⟨fun x => x .nul o rfl, fun x k o' e => by obtain ⟨rfl, rfl⟩ := os1_eq e; exact x⟩

section
variable {Y : Act} {q : Vw} {P : PV → Prop}
/-- a datum is not the set that is being changed -/
theorem PT.isnot_new {x y : Str} {p1 p2 pos : Pos} {d : PV} {a : Addr} {R : Bool → Prop} (hx : q.ρ x = some (.fz d)) (hd : (∃ l, d = .list l) ∨ ∃ l, d = .oset l) (hy : q.ρ y = some (.fz (.ptr a))) (ha : q.S a) (hR : R true)
    (hd1 : (x == ("__debug__" : Str)) = false := by decide) (hc1 : (x == ("__classdict__" : Str)) = false := by decide) (hd2 : (y == ("__debug__" : Str)) = false := by decide) (hc2 : (y == ("__classdict__" : Str)) = false := by decide) :
    PT Y q (.Compare (.Name x p1) [.IsNot] [.Name y p2] pos) R := fun M V A E s hA G => by
  obtain ⟨u, hu, hv⟩ := G.slots x _ hx
  obtain ⟨u₂, hu₂, hv₂⟩ := G.slots y _ hy
  have hv : Val Y.P V s.heap d u := hv
  have hv₂ : Val Y.P V s.heap (.ptr a) u₂ := hv₂
  have := val_ptr.mp hv₂
  subst this
  have hVa : V a := G.mv _ (G.sm _ ha)
  obtain ⟨oa, hoa⟩ := G.bnd a hVa
  have key : ∃ r ob, u = .ref r ∧ ¬ V r ∧ s.heap.get? r = some ob ∧ ob.cls ≠ .type "tuple" := by
    rcases hd with ⟨l, rfl⟩ | ⟨l, rfl⟩
    · obtain ⟨r, n, vs, rfl, nr, ho, _⟩ := val_seq.mp hv
      exact ⟨r, _, rfl, nr, ho, by show Value.type "list" ≠ .type "tuple"; decide⟩
    · obtain ⟨o, rfl, _, nV, hat⟩ := hv.osAt
      exact ⟨o.a, _, rfl, nV _ (.inl rfl), hat.inst, by show Value.ref 101 ≠ .type "tuple"; decide⟩
  obtain ⟨r, ob, rfl, nr, ho, hcls⟩ := key
  exact wpAny_isTrue_Compare1 (rd_name G hu (rd_name G hu₂ (wpAny_isNot_ref_other (fun e => nr (e ▸ hVa)) ho hoa hcls (wpAny_truthy_bool ⟨Step.refl _ _, hR⟩)) hd2 hc2) hd1 hc1) (by rfl)
theorem PT.isnot_self {x y : Str} {p1 p2 pos : Pos} {a : Addr} {R : Bool → Prop} (hx : q.ρ x = some (.fz (.ptr a))) (hy : q.ρ y = some (.fz (.ptr a))) (hR : R false)
    (hd1 : (x == ("__debug__" : Str)) = false := by decide) (hc1 : (x == ("__classdict__" : Str)) = false := by decide) (hd2 : (y == ("__debug__" : Str)) = false := by decide) (hc2 : (y == ("__classdict__" : Str)) = false := by decide) :
    PT Y q (.Compare (.Name x p1) [.IsNot] [.Name y p2] pos) R := fun M V A E s hA G => by
  obtain ⟨u, hu, hv⟩ := G.slots x _ hx
  obtain ⟨u₂, hu₂, hv₂⟩ := G.slots y _ hy
  have hv : Val Y.P V s.heap (.ptr a) u := hv
  have hv₂ : Val Y.P V s.heap (.ptr a) u₂ := hv₂
  have := val_ptr.mp hv
  subst this
  have := val_ptr.mp hv₂
  subst this
  exact wpAny_isTrue_Compare1 (rd_name G hu (rd_name G hu₂ (wpAny_isNot_ref_self (wpAny_truthy_bool ⟨Step.refl _ _, hR⟩)) hd2 hc2) hd1 hc1) (by rfl)

theorem take_succ_get {α : Type} (l : List α) (i : Nat) (d : α) (h : l[i]? = some d) : l.take (i + 1) = l.take i ++ [d] := by
  rw [List.take_add_one, h]; rfl
theorem addAll_snoc {ks l : List PV} {d : PV} : addAll ks (l ++ [d]) = add1 (addAll ks l) d := by simp [addAll, List.foldl_append]

/-- for item in ...: self.d[item] = None -/
theorem PS1.fill {X : Wk} {nm : IK} {o : OS} {iter : Expr} {ct : Cts} {ρ : Str → Option Slot} {l : List SK} {p1 p2 p3 p4 p5 p6 p7 pos : Pos} {kk : Nat} {Φ : AF → Vw → Prop} (hY : Y.toWd = X.toWd) (hn : 5 ≤ Y.n) (hne : nm ≠ .enum) (hit : IterE Y (stoV Y.P (os1 o) ct ρ) nm iter fun l' => l' = l.map sKey)
    (hki : Y.env.kindOf "item" = some .local) (sep : o.sep) (hself : ρ "self" = some (.fz (.ptr o.a))) (hks : ∀ x ∈ ct .nul, isSymPV x) (hnd : (ct .nul).Nodup) (hz : (ct .nul).length + l.length ≤ 4096)
    (hΦ : ∀ ct' ρ', ct' .nul = addAll (ct .nul) (l.map sKey) → Φ .next (stoV Y.P (os1 o) ct' ρ'))
    (hs : ∀ x, foldedSetIterable iter Y.env x = pure x := by intro _; rfl) :
    PS1 Y (stoV Y.P (os1 o) ct ρ) (.For (.Name "item" p1) iter [.Assign [.Subscript (.Attribute (.Name "self" p2) "d" p3) (.Name "item" p4) p5] (.Constant .none kk p6) p7] [] pos) Φ := by
  refine PS1.for_ (R := fun l' => l' = l.map sKey) hit ?_ ?_ hs
  · exact .inl ⟨hne, _, _, rfl⟩
  rintro _ rfl
  refine ⟨fun i q' => ∃ ct' ρ', q' = stoV Y.P (os1 o) ct' ρ' ∧ ρ' "self" = some (.fz (.ptr o.a)) ∧ ct' .nul = addAll (ct .nul) ((l.map sKey).take i), ⟨ct, ρ, rfl, hself, rfl⟩, ?_, ?_⟩
  · rintro i _ d hd ⟨ct', ρ', rfl, hself', hct⟩
    refine ⟨_, PA.name (.inl hki), ?_⟩
    have hdm : d ∈ l.map sKey := List.mem_of_getElem? hd
    have hok : isSymPV d := by obtain ⟨k, _, rfl⟩ := List.mem_map.mp hdm; exact ⟨k, rfl⟩
    have hal : ∀ x ∈ ct' .nul, isSymPV x := fun x hx => by
      rw [hct, mem_addAll] at hx
      rcases hx with hx | hx
      · exact hks x hx
      · obtain ⟨k, _, rfl⟩ := List.mem_map.mp (List.mem_of_mem_take hx); exact ⟨k, rfl⟩
    have hlen : (ct' .nul).length ≤ 4096 := by
      rw [hct]
      have := (len_addAll (l := (l.map sKey).take i) (ks := ct .nul)).2.1
      have h2 : ((l.map sKey).take i).length ≤ l.length := by rw [List.length_take, List.length_map]; exact Nat.min_le_right _ _
      omega
    refine PS.seq (PS1.setD (X := X) (k := .nul) (o := o) (ρ := fun y => if y = "item" then some (.fz d) else ρ' y) (dkey_sym X (n := 4) (by decide) |> fun D => hY ▸ D) hn hY rfl (sep1 sep) ?_ hal (hct ▸ nodup_addAll hnd) hlen (PE.cnone ⟨rfl, PE.name (show (if ("item" : Str) = "item" then some (Slot.fz d) else ρ' "item") = _ from if_pos rfl) ⟨hok, rfl, PS.nil ?_⟩⟩) (by rfl))
    · show (if ("self" : Str) = "item" then _ else ρ' "self") = _
      rw [if_neg (by decide)]
      exact hself'
    · refine ⟨_, _, rfl, ?_, ?_⟩
      · show (if ("self" : Str) = "item" then _ else ρ' "self") = _
        rw [if_neg (by decide)]
        exact hself'
      · rw [ctSet_self, hct, take_succ_get _ _ _ hd, addAll_snoc]
  · rintro _ ⟨ct', ρ', rfl, _, hct⟩
    refine hΦ ct' ρ' ?_
    rw [hct, List.take_length]
end
end Mine
namespace Mine
open PySem PySem.W PySem.Calls PyProof.Rows

def ct1 (ks : List PV) : Cts := fun _ => ks
theorem stoV1 {P : Params} {o : OS} {ks : List PV} {ρ : Str → Option Slot} : (⟨stoS (os1 o), ρ, stoI P (os1 o) (ct1 ks)⟩ : Vw) = stoV P (os1 o) (ct1 ks) ρ := rfl
/-- what a walk may run over -/
inductive Src (l : List SK) : PV → Prop
  | list : Src l (.list (l.map sKey))
  | tup : Src l (.tup (l.map sKey))
  | oset : Src l (.oset (l.map sKey))

/-- what a set is when something is put into it -/
structure Fill (o : OS) (ks : List PV) : Prop where
  sep : o.sep
  ok : ∀ x ∈ ks, isSymPV x
  nd : ks.Nodup

section
variable {X : Wk} {o : OS} {ks : List PV} {A : Around} {E : Value → Shared → Prop} {s : Shared} {V : Rgn} {v : Value} {Q : Value → Shared → Prop}
theorem upd_call {l : List SK} {d : PV} (hd : d = .list (l.map sKey) ∨ d = .oset (l.map sKey)) (hA : AOk A 8) (H : Hp X.toWd V s) (hat : OsAt X.P V s.heap o ks) (hV : ∀ b, o.has b → V b) (F : Fill o ks) (hz : ks.length + l.length ≤ 4096)
    (hv : Val X.P V s.heap d v) (k : ∀ s', Step o.has s s' → OsAt X.P V s'.heap o (addAll ks (l.map sKey)) → (∀ x, V x → ∃ ob, s'.heap.get? x = some ob) → Q .none s') : wpAny X.mo A (call (.ref 79) [.ref o.a, v]) Q E s := by
  refine call_enter (X := X.toWd) (n := 7) (by decide) (ds := [.ptr o.a, d]) (names := ["self", "items"]) (vs' := [.ref o.a, v]) (S := stoS (os1 o)) (I := stoI X.P (os1 o) (ct1 ks))
    (Φ := fun f q' => f = .next ∧ ∀ V h, q'.I V h → OsAt X.P V h o (addAll ks (l.map sKey))) hA H (by simp [hv, val_ptr]) (by rw [X.hK]; rfl) rfl rfl (BindsTo.of_eq rfl) rfl (by decide)
    (fun L x hx => by
      simp only [List.mem_cons, List.mem_singleton, List.not_mem_nil, or_false] at hx
      rcases hx with hx | hx <;> subst hx <;> exact .inl (by rfl)) (by rw [X.hK]; rfl) rfl rfl rfl rfl rfl (fun b w => hV b (stoS1.mp w)) (stoI1.mpr hat) sto_stab (fun L env he => ?_) (fun v s' h => ?_)
  · have hk := congrArg (fun e : Env => e.scope.names) he
    dsimp only [callEnvC, newEnv] at hk
    clear he
    rw [stoV1]
    have h1 : (q0 (look ((["self", "items"] : List Str).zip [.ptr o.a, d]))).ρ "self" = some (.fz (.ptr o.a)) := q0_here (by rfl)
    have h2 : (q0 (look ((["self", "items"] : List Str).zip [.ptr o.a, d]))).ρ "items" = some (.fz d) := q0_here (by rfl)
    generalize (q0 (look ((["self", "items"] : List Str).zip [.ptr o.a, d]))).ρ = ρ at h1 h2 ⊢
    refine PS.cons (Ψ := fun f q' => f = .next ∧ ∀ V h, q'.I V h → OsAt X.P V h o (addAll ks (l.map sKey))) (PS1.if_ (PT.isnot_new (d := d) (a := o.a) h2 ?_ h1 (stoS1.mpr (.inl rfl)) ⟨fun _ => ?_, fun e => nomatch e⟩)) (fun q h => PS.nil h) (fun f q hne h => absurd h.1 hne)
    · rcases hd with rfl | rfl
      · exact .inl ⟨_, rfl⟩
      · exact .inr ⟨_, rfl⟩
    · have fin : ∀ ct' ρ', ct' .nul = addAll ks (l.map sKey) → AF.next = .next ∧ ∀ V h, (stoV X.P (os1 o) ct' ρ').I V h → OsAt X.P V h o (addAll ks (l.map sKey)) := fun ct' ρ' e => ⟨rfl, fun V h x => e ▸ stoI1.mp x⟩
      rcases hd with rfl | rfl
      · refine PS.seq (PS1.mono (PS1.fill (X := X) (nm := .seq) rfl (by show 5 ≤ 7; decide) (by decide) (IterE.seq (PE.name h2 ⟨tList, _, rfl, .inl rfl, rfl⟩)) (kd hk (by rfl)) F.sep h1 F.ok F.nd hz (Φ := fun f q' => f = .next ∧ ∀ V h, q'.I V h → OsAt X.P V h o (addAll ks (l.map sKey))) fin) fun f q h => ⟨h.1, PS.nil ⟨rfl, h.2⟩⟩)
      · refine PS.seq (PS1.mono (PS1.fill (X := X) (nm := .gen) rfl (by show 5 ≤ 7; decide) (by decide) (IterE.oset (X := X) rfl (PE.name h2 ⟨_, rfl, rfl⟩)) (kd hk (by rfl)) F.sep h1 F.ok F.nd hz (Φ := fun f q' => f = .next ∧ ∀ V h, q'.I V h → OsAt X.P V h o (addAll ks (l.map sKey))) fin) fun f q h => ⟨h.1, PS.nil ⟨rfl, h.2⟩⟩)
  · obtain ⟨af, q', ⟨rfl, hI⟩, rfl, st, hi, hb⟩ := h
    exact k s' (st.mono fun b w => stoS1.mp w) (hI _ _ hi) hb
theorem upd_self (hA : AOk A 8) (H : Hp X.toWd V s) (hat : OsAt X.P V s.heap o ks) (hV : ∀ b, o.has b → V b)
    (k : ∀ s', Step o.has s s' → OsAt X.P V s'.heap o ks → (∀ x, V x → ∃ ob, s'.heap.get? x = some ob) → Q .none s') : wpAny X.mo A (call (.ref 79) [.ref o.a, .ref o.a]) Q E s := by
  refine call_enter (X := X.toWd) (n := 7) (by decide) (ds := [.ptr o.a, .ptr o.a]) (names := ["self", "items"]) (vs' := [.ref o.a, .ref o.a]) (S := stoS (os1 o)) (I := stoI X.P (os1 o) (ct1 ks))
    (Φ := fun f q' => f = .next ∧ ∀ V h, q'.I V h → OsAt X.P V h o ks) hA H (by simp [val_ptr]) (by rw [X.hK]; rfl) rfl rfl (BindsTo.of_eq rfl) rfl (by decide)
    (fun L x hx => by
      simp only [List.mem_cons, List.mem_singleton, List.not_mem_nil, or_false] at hx
      rcases hx with hx | hx <;> subst hx <;> exact .inl (by rfl)) (by rw [X.hK]; rfl) rfl rfl rfl rfl rfl (fun b w => hV b (stoS1.mp w)) (stoI1.mpr hat) sto_stab (fun L env he => ?_) (fun v s' h => ?_)
  · rw [stoV1]
    have h1 : (q0 (look ((["self", "items"] : List Str).zip [.ptr o.a, .ptr o.a]))).ρ "self" = some (.fz (.ptr o.a)) := q0_here (by rfl)
    have h2 : (q0 (look ((["self", "items"] : List Str).zip [.ptr o.a, .ptr o.a]))).ρ "items" = some (.fz (.ptr o.a)) := q0_here (by rfl)
    generalize (q0 (look ((["self", "items"] : List Str).zip [.ptr o.a, .ptr o.a]))).ρ = ρ at h1 h2 ⊢
    refine PS.cons (Ψ := fun f q' => f = .next ∧ ∀ V h, q'.I V h → OsAt X.P V h o ks) (PS1.if_ (PT.isnot_self (a := o.a) h2 h1 ?_)) (fun q h => PS.nil h) (fun f q hne h => absurd h.1 hne)
    exact ⟨(fun e => nomatch e), fun _ => PS.nil ⟨rfl, fun V h x => stoI1.mp x⟩⟩
  · obtain ⟨af, q', ⟨rfl, hI⟩, rfl, st, hi, hb⟩ := h
    exact k s' (st.mono fun b w => stoS1.mp w) (hI _ _ hi) hb
end
end Mine
namespace Mine
open PySem PySem.W PySem.Calls PyProof.Rows

theorem Hp.less {X : Wd} {V V' : Rgn} {s : Shared} (H : Hp X V s) (h : ∀ b, V' b → V b) : Hp X V' s := ⟨H.keep, fun x w => H.bnd x (h x w), fun x w => H.low x (h x w)⟩
/-- the region without one set -/
def OS.off (o : OS) (V : Rgn) : Rgn := fun b => V b ∧ ¬ o.has b

section
variable {X : Wk}
theorem fc_len_oset {ks : List PV} {P : PV → Prop} (hz : ks.length ≤ 4096) (h : P (.int ks.length)) : FC X.toWd 7 (.builtin "len") [.oset ks] P := fun A E s V vs hA H hv => by
  obtain ⟨v, r, rfl, h1, hv⟩ := vals_cons.mp hv
  have := vals_nil.mp hv
  subst this
  obtain ⟨o, rfl, sm, nV, hat⟩ := h1.osAt
  refine Calls.call_function_entry kind_len plain_len entry_len (args_len1 _) ?_
  unfold Builtin.«len»
  refine wpAny_bind (m := oneArg "len" _) (wpAny_pure ?_)
  refine wpAny_bind (m := callSpecial? _ (Str.ofString "__len__")) (spec_fn (X := X) (f := 98) H hat (by rfl) (by rfl) ?_)
  refine wpAny_mono (fc_oslen (X := X) (P := fun d => d = .int ks.length) hz rfl _ _ s V [.ref o.a] (hA.in1.mono (by decide)) H (by simpa using h1)) (fun v s' r => ?_) fun _ _ x => x
  obtain ⟨st, d, rfl, hd⟩ := r
  obtain ⟨t, rfl⟩ := val_int.mp hd
  refine wpAny_bind (wpAny_holding (wpAny_pure ?_))
  refine wpAny_bind (wpAny_letGo ?_)
  show wpAny _ _ (if ((ks.length : Nat) : Int) < 0 then _ else _) _ _ _
  rw [if_neg (by omega)]
  show wpAny _ _ (if ((ks.length : Nat) : Int) ≥ 2 ^ 63 then _ else _) _ _ _
  rw [if_neg (by omega)]
  exact wpAny_bind (wpAny_mkInt (wpAny_pure ⟨_, rfl, st.trans Step.toks, _, h, val_int.mpr ⟨_, rfl⟩⟩))
end

section
variable {X : Wk} {Y : Act} {M V : Rgn} {os : Sto} {ct : Cts} {ρ : Str → Option Slot} {P : PV → Prop}
theorem EnvOk.off {s : Shared} {k : Ky} {o : OS} (hY : Y.toWd = X.toWd) (G : EnvOk Y ⟨stoV Y.P os ct ρ, M, V⟩ s) (hk : os k = some o) : Hp X.toWd (o.off V) s ∧ Val X.P (o.off V) s.heap (.oset (ct k)) (.ref o.a) := by
  have hP : Y.P = X.P := congrArg Wd.P hY
  have hV : ∀ b, o.has b → V b := fun b w => G.mv b (G.sm b ⟨k, o, hk, w⟩)
  refine ⟨hY ▸ G.hp.less fun b w => w.1, ?_⟩
  have hat := G.inv k o hk
  rw [hP] at hat
  exact (hat.less fun b w => w.1).val (fun b w n => n.2 w) (G.hp.nosys (hV _ (.inr (.inr rfl))))
/-- len of a set of the store -/
theorem PE.lenS {x : Str} {p px pos : Pos} {k : Ky} {o : OS} (hY : Y.toWd = X.toWd) (hn : 7 ≤ Y.n) (hf : FnIs Y "len" (.builtin "len")) (hk : os k = some o) (hx : ρ x = some (.fz (.ptr o.a))) (hz : (ct k).length ≤ 4096) (hp : P (.int (ct k).length))
    (hd : (x == ("__debug__" : Str)) = false := by decide) (hc : (x == ("__classdict__" : Str)) = false := by decide) :
    PE Y (stoV Y.P os ct ρ) (.Call (.Name "len" p) [.Name x px] [] pos) P := fun M V A E s hA G => by
  have he : PEs Y (stoV Y.P os ct ρ) [.Name x px] fun ds => ds = [.ptr o.a] := PE.name (a := stoV Y.P os ct ρ) hx rfl hd hc
  refine call_any hf (.inr (.inr ⟨_, rfl⟩)) he (by rfl) hA G fun vs s' ds hr hv st G' => ?_
  subst hr
  obtain ⟨v, r, rfl, h1, hv⟩ := vals_cons.mp hv
  have := vals_nil.mp hv
  subst this
  have := val_ptr.mp h1
  subst this
  obtain ⟨H', hv'⟩ := G'.off (X := X) hY hk
  have hm : Y.mo = X.mo := congrArg Wd.mo hY
  rw [hm]
  refine wpAny_mono (fc_len_oset (X := X) (P := fun d => d = .int (ct k).length) hz rfl A E s' _ [.ref o.a] (hA.mono hn) H' (by simpa using hv')) (fun v s₂ r => ?_) fun _ _ z => z
  obtain ⟨st₂, d, rfl, hd⟩ := r
  exact ⟨st.trans st₂, _, hp, val_int.mpr (val_int.mp hd)⟩

/-- a method of a set of the store -/
theorem call_meth {x name : Str} {px apos pos : Pos} {es : List Expr} {k : Ky} {o : OS} {f : Addr} {R : List PV → Prop} {A : Around} {E : Value → Shared → Prop} {s : Shared} {Q : Value → Shared → Prop} (hY : Y.toWd = X.toWd) (hk : os k = some o) (hx : ρ x = some (.fz (.ptr o.a)))
    (hf : findIn (Mine.hd.heap_39 X.w.params) (.ref 101) name = some (some (.ref f))) (ht : typeIn (Mine.hd.heap_39 X.w.params) (.ref f) = some (.type "function")) (hs : ∀ hd kd, shadowIn (some (dObj hd kd o.dd)) name = some false)
    (hkp : keepIn (Mine.hd.heap_39 X.w.params) (.ref f) = true) (h : PEs Y (stoV Y.P os ct ρ) es R) (hn : noStar es = true) (hA : AOk A Y.n) (G : EnvOk Y ⟨stoV Y.P os ct ρ, M, V⟩ s)
    (hQ : ∀ vs s' ds, R ds → Vals Y.P V s'.heap ds vs → Step None s s' → EnvOk Y ⟨stoV Y.P os ct ρ, M, V⟩ s' → wpAny Y.mo A (call (.ref f) (.ref o.a :: vs)) Q E s')
    (he : ∃ pl, eval (.Call (.Attribute (.Name x px) name apos) es [] pos) Y.env = (do
      let ov ← eval (.Name x px) Y.env
      standAt apos.atName
      let (f, first) ← holding [ov] (getMethod ov name pl)
      callWith pos f first (backTo pos (starEach es Y.env)) (backToKw pos (keywordEach [] Y.env))))
    (hd : (x == ("__debug__" : Str)) = false := by decide) (hc : (x == ("__classdict__" : Str)) = false := by decide) :
    wpAny Y.mo A (eval (.Call (.Attribute (.Name x px) name apos) es [] pos) Y.env) Q E s := by
  obtain ⟨pl, he⟩ := he
  obtain ⟨u, hu, hv⟩ := G.slots x _ hx
  have hv : Val Y.P V s.heap (.ptr o.a) u := hv
  have := val_ptr.mp hv
  subst this
  refine methodCall_KW (pl := pl) (rd_name G hu ?_ hd hc) he
  have hP : Y.P = X.P := congrArg Wd.P hY
  have hm : Y.mo = X.mo := congrArg Wd.mo hY
  have H : Hp X.toWd V s := hY ▸ G.hp
  have hKY : Y.K = X.K := congrArg Wd.K hY
  have hat := G.inv k o hk
  rw [hP] at hat
  rw [hm]
  refine meth_fn (X := X) H hat hf ht hs ?_
  rw [← hm]
  refine callWith_of (P := fun h => Y.K.In h) (by rw [star_none hn]; rfl) (fun h hh => Callee.looks (X := Y.toWd) (.inl (by rw [hKY, X.hK]; exact hkp)) hh) ?_
  exact args_any h hn hA G fun vs s' ds hr hv st G' => ⟨G'.hp.inK, hQ vs s' ds hr hv st G'⟩

open Classical in
/-- x.holds(e) -/
theorem PE.holdsS {x : Str} {px apos pos : Pos} {e : Expr} {k : Ky} {o : OS} (hY : Y.toWd = X.toWd) (hn : 10 ≤ Y.n) (hk : os k = some o) (hx : ρ x = some (.fz (.ptr o.a))) (hks : ∀ x ∈ ct k, isSymPV x) (hnd : (ct k).Nodup)
    (h : PE Y (stoV Y.P os ct ρ) e fun d => ∃ (c : Value) (l : List SK), d = .seq c (l.map sKey) ∧ (c = tList ∨ c = tTuple) ∧ l.length ≤ 4096 ∧ P (.bool (decide (∀ x ∈ l, sKey x ∈ ct k)))) (hst : noStar [e] = true)
    (he : ∃ pl, eval (.Call (.Attribute (.Name x px) "holds" apos) [e] [] pos) Y.env = (do
      let ov ← eval (.Name x px) Y.env
      standAt apos.atName
      let (f, first) ← holding [ov] (getMethod ov "holds" pl)
      callWith pos f first (backTo pos (starEach [e] Y.env)) (backToKw pos (keywordEach [] Y.env))))
    (hd : (x == ("__debug__" : Str)) = false := by decide) (hc : (x == ("__classdict__" : Str)) = false := by decide) :
    PE Y (stoV Y.P os ct ρ) (.Call (.Attribute (.Name x px) "holds" apos) [e] [] pos) P := fun M V A E s hA G => by
  have hp : PEs Y (stoV Y.P os ct ρ) [e] fun ds => ∃ (c : Value) (l : List SK), ds = [.seq c (l.map sKey)] ∧ (c = tList ∨ c = tTuple) ∧ l.length ≤ 4096 ∧ P (.bool (decide (∀ x ∈ l, sKey x ∈ ct k))) :=
    PE.mono h fun d ⟨c, l, e, r⟩ => ⟨c, l, by rw [e], r⟩
  refine call_meth (X := X) hY hk hx (f := 84) (by rfl) (by rfl) (fun _ _ => by rfl) (by rfl) hp hst hA G (fun vs s' ds hr hv st G' => ?_) he hd hc
  obtain ⟨c, l, rfl, hc', hz, hP⟩ := hr
  obtain ⟨v, r, rfl, h1, hv⟩ := vals_cons.mp hv
  have := vals_nil.mp hv
  subst this
  obtain ⟨H', hv'⟩ := G'.off (X := X) hY hk
  have hm : Y.mo = X.mo := congrArg Wd.mo hY
  have hPP : Y.P = X.P := congrArg Wd.P hY
  rw [hPP] at h1
  rw [hm]
  refine wpAny_mono (fc_holds (X := X) (P := fun d => d = .bool (decide (∀ x ∈ l, sKey x ∈ ct k))) hks hnd hc' hz rfl A E s' _ [.ref o.a, v] (hA.mono hn) H' (by simpa using ⟨hv', h1.less fun b w => w.1⟩)) (fun v s₂ r => ?_) fun _ _ z => z
  obtain ⟨st₂, d, rfl, hd⟩ := r
  exact ⟨st.trans st₂, _, hP, val_bool.mpr (val_bool.mp hd)⟩

/-- what may be put into a set -/
inductive UArg (o : OS) (ks : List PV) (l : List SK) : PV → Prop
  | list : UArg o ks l (.list (l.map sKey))
  | oset : UArg o ks l (.oset (l.map sKey))
  | self (h : ks = l.map sKey) : UArg o ks l (.ptr o.a)
theorem upd_any {o : OS} {ks : List PV} {A : Around} {E : Value → Shared → Prop} {s : Shared} {v : Value} {Q : Value → Shared → Prop} {l : List SK} {d : PV} (hd : UArg o ks l d) (hA : AOk A 8) (H : Hp X.toWd V s) (hat : OsAt X.P V s.heap o ks) (hV : ∀ b, o.has b → V b) (F : Fill o ks) (hz : ks.length + l.length ≤ 4096)
    (hv : Val X.P V s.heap d v) (k : ∀ s', Step o.has s s' → OsAt X.P V s'.heap o (addAll ks (l.map sKey)) → (∀ x, V x → ∃ ob, s'.heap.get? x = some ob) → Q .none s') : wpAny X.mo A (call (.ref 79) [.ref o.a, v]) Q E s := by
  cases hd with
  | list => exact upd_call (.inl rfl) hA H hat hV F hz hv k
  | oset => exact upd_call (.inr rfl) hA H hat hV F hz hv k
  | self h =>
    have := val_ptr.mp hv
    subst this
    refine upd_self hA H hat hV fun s' st hat' hb => k s' st ?_ hb
    rw [addAll_same fun x hx => h ▸ hx]
    exact hat'

/-- x.update(y), where y is a name -/
theorem PS1.updS {x : Str} {px apos cpos pos : Pos} {e : Expr} {k : Ky} {o : OS} {l : List SK} {Φ : AF → Vw → Prop} (hY : Y.toWd = X.toWd) (hn : 8 ≤ Y.n) (hk : os k = some o) (sep : Sep os) (hx : ρ x = some (.fz (.ptr o.a))) (hks : ∀ x ∈ ct k, isSymPV x) (hnd : (ct k).Nodup) (hz : (ct k).length + l.length ≤ 4096)
    (h : PE Y (stoV Y.P os ct ρ) e fun d => UArg o (ct k) l d) (hΦ : Φ .next (stoV Y.P os (ctSet ct k (addAll (ct k) (l.map sKey))) ρ)) (hst : noStar [e] = true) (hi : interactive Y.env = false)
    (he : ∃ pl, eval (.Call (.Attribute (.Name x px) "update" apos) [e] [] cpos) Y.env = (do
      let ov ← eval (.Name x px) Y.env
      standAt apos.atName
      let (f, first) ← holding [ov] (getMethod ov "update" pl)
      callWith cpos f first (backTo cpos (starEach [e] Y.env)) (backToKw cpos (keywordEach [] Y.env))))
    (hd : (x == ("__debug__" : Str)) = false := by decide) (hc : (x == ("__classdict__" : Str)) = false := by decide) :
    PS1 Y (stoV Y.P os ct ρ) (.Expr (.Call (.Attribute (.Name x px) "update" apos) [e] [] cpos) pos) Φ := fun M V A E s hA G => by
  have hp : PEs Y (stoV Y.P os ct ρ) [e] fun ds => ∃ d, ds = [d] ∧ UArg o (ct k) l d := PE.mono h fun d hd => ⟨d, rfl, hd⟩
  refine wpAny_Expr_any (call_meth (X := X) hY hk hx (f := 79) (by rfl) (by rfl) (fun _ _ => by rfl) (by rfl) hp hst hA G (fun vs s' ds hr hv st G' => ?_) he hd hc) hi rfl
  obtain ⟨d, rfl, hd⟩ := hr
  obtain ⟨v, r, rfl, h1, hv⟩ := vals_cons.mp hv
  have := vals_nil.mp hv
  subst this
  have hm : Y.mo = X.mo := congrArg Wd.mo hY
  have hPP : Y.P = X.P := congrArg Wd.P hY
  have H : Hp X.toWd V s' := hY ▸ G'.hp
  have hS : ∀ b, o.has b → stoS os b := fun b w => ⟨k, o, hk, w⟩
  have hV : ∀ b, o.has b → V b := fun b w => G'.mv b (G'.sm b (hS b w))
  rw [hm]
  refine upd_any (X := X) (V := V) hd (hA.mono hn) H (hPP ▸ G'.inv k o hk) hV ⟨sep.self k o hk, hks, hnd⟩ hz (hPP ▸ h1) fun s₂ st₂ hat hb => ?_
  exact ⟨.next, ⟨stoV Y.P os _ ρ, M, V⟩, hΦ, rfl, G'.stoSet hk sep st₂ (hPP ▸ hat), (st.all _).trans (st₂.mono fun b w => G'.sm b (hS b w)), fun b w => .inl w, fun b w => .inl w, fun b w _ => w⟩
end
end Mine
namespace Mine
open PySem PySem.W PySem.Calls PyProof.Rows

section
variable {X : Wk} {o : OS} {ks : List PV} {A : Around} {E : Value → Shared → Prop} {s : Shared} {V : Rgn} {v : Value} {Q : Value → Shared → Prop}
/-- update_set(set1, set2) -/
theorem us_call {l : List SK} {d : PV} (hd : UArg o ks l d) (hA : AOk A 12) (H : Hp X.toWd V s) (hat : OsAt X.P V s.heap o ks) (hV : ∀ b, o.has b → V b) (F : Fill o ks) (hz : ks.length + l.length ≤ 4096)
    (hv : Val X.P V s.heap d v) (k : ∀ s', Step o.has s s' → OsAt X.P V s'.heap o (addAll ks (l.map sKey)) → (∀ x, V x → ∃ ob, s'.heap.get? x = some ob) → Q (.bool (((addAll ks (l.map sKey)).length : Int) != (ks.length : Int))) s') : wpAny X.mo A (call (.ref 112) [.ref o.a, v]) Q E s := by
  refine call_enter (X := X.toWd) (n := 11) (by decide) (ds := [.ptr o.a, d]) (names := ["set1", "set2"]) (vs' := [.ref o.a, v]) (S := stoS (os1 o)) (I := stoI X.P (os1 o) (ct1 ks))
    (Φ := fun f q' => f = .ret (.bool (((addAll ks (l.map sKey)).length : Int) != (ks.length : Int))) ∧ ∀ V h, q'.I V h → OsAt X.P V h o (addAll ks (l.map sKey))) hA H (by simp [hv, val_ptr]) (by rw [X.hK]; rfl) rfl rfl (BindsTo.of_eq rfl) rfl (by decide)
    (fun L x hx => by
      simp only [List.mem_cons, List.mem_singleton, List.not_mem_nil, or_false] at hx
      rcases hx with hx | hx <;> subst hx <;> exact .inl (by rfl)) (by rw [X.hK]; rfl) rfl rfl rfl rfl rfl (fun b w => hV b (stoS1.mp w)) (stoI1.mpr hat) sto_stab (fun L env he => ?_) (fun v s' h => ?_)
  · have hk := congrArg (fun e : Env => e.scope.names) he
    dsimp only [callEnvC, newEnv] at hk
    have hi : interactive env = false := by rw [he]; rfl
    clear he
    rw [stoV1]
    have h1 : (q0 (look ((["set1", "set2"] : List Str).zip [.ptr o.a, d]))).ρ "set1" = some (.fz (.ptr o.a)) := q0_here (by rfl)
    have h2 : (q0 (look ((["set1", "set2"] : List Str).zip [.ptr o.a, d]))).ρ "set2" = some (.fz d) := q0_here (by rfl)
    generalize (q0 (look ((["set1", "set2"] : List Str).zip [.ptr o.a, d]))).ρ = ρ at h1 h2 ⊢
    have fl : FnIs (X.act env V 11 (by decide)) "len" (.builtin "len") := fnis_b (X := X) rfl (kd hk (by rfl)) (by rfl) (by rfl)
    have hz1 : ks.length ≤ 4096 := by omega
    have hz2 := (len_addAll (ks := ks) (l := l.map sKey)).2.1
    rw [List.length_map] at hz2
    refine PS.seq (PS1.assign (.inl (kd hk (by rfl))) (PE.lenS (X := X) (k := .nul) (o := o) rfl (by show 7 ≤ 11; decide) fl rfl h1 hz1 ⟨rfl, ?_⟩) (by rfl))
    let ρ₂ : Str → Option Slot := fun y => if y = "count" then some (.fz (.int ks.length)) else ρ y
    show PS _ (stoV X.P (os1 o) (ct1 ks) ρ₂) _ _
    have g1 : ρ₂ "set1" = some (.fz (.ptr o.a)) := h1
    have g2 : ρ₂ "set2" = some (.fz d) := h2
    have g3 : ρ₂ "count" = some (.fz (.int ks.length)) := if_pos rfl
    generalize ρ₂ = ρ₂ at g1 g2 g3 ⊢
    refine PS.seq (PS1.updS (X := X) (k := .nul) (o := o) (l := l) rfl (by show 8 ≤ 11; decide) rfl (sep1 F.sep) g1 F.ok F.nd hz (PE.name (a := stoV X.P (os1 o) (ct1 ks) ρ₂) g2 hd) ⟨rfl, ?_⟩ (by rfl) hi ⟨_, rfl⟩)
    have hc : ctSet (ct1 ks) .nul (addAll (ct1 ks .nul) (l.map sKey)) .nul = addAll ks (l.map sKey) := ctSet_self
    generalize ctSet (ct1 ks) .nul (addAll (ct1 ks .nul) (l.map sKey)) = ct₂ at hc ⊢
    refine PS.ret (PE.cmp (PE.lenS (X := X) (k := .nul) (o := o) rfl (by show 7 ≤ 11; decide) fl rfl g1 (by rw [hc]; omega) (PE.name (a := stoV X.P (os1 o) ct₂ ρ₂) g3 (op_ne ?_))))
    rw [hc]
    exact ⟨rfl, fun V h x => hc ▸ stoI1.mp x⟩
  · obtain ⟨af, q', ⟨rfl, hI⟩, hv, st, hi, hb⟩ := h
    have := val_bool.mp hv
    subst this
    exact k s' (st.mono fun b w => stoS1.mp w) (hI _ _ hi) hb
end
end Mine
namespace Mine
open PySem PySem.W PySem.Calls PyProof.Rows

theorem OsAt.shape {P : Params} {V : Rgn} {h : Heap} {o : OS} {ks : List PV} (x : OsAt P V h o ks) : ∀ b, o.has b → ∀ c od vs n, h.get? b ≠ Option.some (rowO c od vs n) := by
  rintro b (rfl | rfl | rfl) c od vs n e
  · rw [x.inst] at e; cases e
  · obtain ⟨hd, kd, e'⟩ := x.dict; rw [e'] at e; cases e
  · obtain ⟨m, es, e', _⟩ := x.top; rw [e'] at e; cases e
theorem sym_back {P : Params} {V V' : Rgn} {h : Heap} {k : SK} {v : Value} (x : Val P V' h (sKey k) v) (hV : ∀ b, V b → V' b ∨ ∀ c od vs n, h.get? b ≠ some (rowO c od vs n)) : Val P V h (sKey k) v := by
  obtain ⟨a, n, od, vs, rfl, na, ho, hl⟩ := val_row.mp x
  refine val_row.mpr ⟨a, n, od, vs, rfl, fun w => (hV a w).elim na fun q => q _ _ _ _ ho, ho, ?_⟩
  obtain ⟨v₁, r, e, h1, hl⟩ := vals_cons.mp hl
  obtain ⟨v₂, r₂, e₂, h2, hl⟩ := vals_cons.mp hl
  have := vals_nil.mp hl
  subst this
  rw [e, e₂, vals_cons', vals_cons', vals_nil]
  exact ⟨val_str.mpr (val_str.mp h1), val_bool.mpr (val_bool.mp h2), rfl⟩
theorem syms_back {P : Params} {V V' : Rgn} {h : Heap} : ∀ {ks : List PV} {vs : List Value}, (∀ k ∈ ks, isSymPV k) → Vals P V' h ks vs → (∀ b, V b → V' b ∨ ∀ c od vs n, h.get? b ≠ some (rowO c od vs n)) → Vals P V h ks vs
  | [], vs, _, x, _ => by simpa using x
  | d :: ks, vs, hk, x, hV => by
    obtain ⟨v, r, rfl, h1, h2⟩ := vals_cons.mp x
    obtain ⟨k, rfl⟩ := hk d (by simp)
    rw [vals_cons']
    exact ⟨sym_back h1 hV, syms_back (fun k hk' => hk k (by simp [hk'])) h2 hV⟩
theorem OsAt.back {P : Params} {V V' : Rgn} {h : Heap} {o : OS} {ks : List PV} (x : OsAt P V' h o ks) (hk : ∀ k ∈ ks, isSymPV k) (hV : ∀ b, V b → V' b ∨ ∀ c od vs n, h.get? b ≠ Option.some (rowO c od vs n)) : OsAt P V h o ks := by
  obtain ⟨h1, h2, n, es, h3, h4, h5, h6⟩ := x
  exact ⟨h1, h2, n, es, h3, syms_back hk h4 hV, vals_nones.mpr (vals_nones.mp h5), h6⟩
theorem addAll_sym {ks : List PV} {l : List SK} (h : ∀ x ∈ ks, isSymPV x) : ∀ x ∈ addAll ks (l.map sKey), isSymPV x := fun x hx => by
  rcases mem_addAll.mp hx with hx | hx
  · exact h x hx
  · obtain ⟨k, _, rfl⟩ := List.mem_map.mp hx; exact ⟨k, rfl⟩

/-- what a store is like -/
structure StoOk (os : Sto) (ct : Cts) : Prop where
  sep : Sep os
  ok : ∀ k o, os k = some o → ∀ x ∈ ct k, isSymPV x
  nd : ∀ k o, os k = some o → (ct k).Nodup
theorem StoOk.set {os : Sto} {ct : Cts} {k : Ky} {o : OS} {l : List SK} (x : StoOk os ct) (hk : os k = some o) : StoOk os (ctSet ct k (addAll (ct k) (l.map sKey))) := by
  refine ⟨x.sep, fun k' o' e => ?_, fun k' o' e => ?_⟩
  · by_cases w : k' = k
    · subst w; rw [ctSet_self]; exact addAll_sym (x.ok _ _ e)
    · rw [ctSet_ne w]; exact x.ok _ _ e
  · by_cases w : k' = k
    · subst w; rw [ctSet_self]; exact nodup_addAll (x.nd _ _ e)
    · rw [ctSet_ne w]; exact x.nd _ _ e

section
variable {X : Wk} {Y : Act} {M V : Rgn} {os : Sto} {ct : Cts} {ρ : Str → Option Slot}
/-- the second set of update_set -/
def Src2 (os : Sto) (ct : Cts) (l : List SK) (d : PV) : Prop := d = .list (l.map sKey) ∨ ∃ k₂ o₂, os k₂ = some o₂ ∧ d = .ptr o₂.a ∧ ct k₂ = l.map sKey
/-- if update_set(e1, e2): ... -/
theorem PS1.ifUpd {p pos ipos : Pos} {e₁ e₂ : Expr} {b : List Stmt} {Φ : AF → Vw → Prop} (hY : Y.toWd = X.toWd) (hn : 12 ≤ Y.n) (hf : FnIs Y "update_set" (.ref 112)) (sto : StoOk os ct)
    (h : PE Y (stoV Y.P os ct ρ) e₁ fun d₁ => ∃ k o, os k = some o ∧ d₁ = .ptr o.a ∧ PE Y (stoV Y.P os ct ρ) e₂ fun d₂ => ∃ l, Src2 os ct l d₂ ∧ (ct k).length + l.length ≤ 4096 ∧
      ((addAll (ct k) (l.map sKey)).length ≠ (ct k).length → PS Y (stoV Y.P os (ctSet ct k (addAll (ct k) (l.map sKey))) ρ) b Φ) ∧ ((addAll (ct k) (l.map sKey)).length = (ct k).length → Φ .next (stoV Y.P os (ctSet ct k (addAll (ct k) (l.map sKey))) ρ)))
    (hst : noStar [e₁, e₂] = true) : PS1 Y (stoV Y.P os ct ρ) (.If (.Call (.Name "update_set" p) [e₁, e₂] [] pos) b [] ipos) Φ := fun M V A E s hA G => by
  have hp : PEs Y (stoV Y.P os ct ρ) [e₁, e₂] fun ds => ∃ k o d₂ l, ds = [.ptr o.a, d₂] ∧ os k = some o ∧ Src2 os ct l d₂ ∧ (ct k).length + l.length ≤ 4096 ∧
      ((addAll (ct k) (l.map sKey)).length ≠ (ct k).length → PS Y (stoV Y.P os (ctSet ct k (addAll (ct k) (l.map sKey))) ρ) b Φ) ∧ ((addAll (ct k) (l.map sKey)).length = (ct k).length → Φ .next (stoV Y.P os (ctSet ct k (addAll (ct k) (l.map sKey))) ρ)) :=
    PE.mono h fun d₁ ⟨k, o, hk, e, r⟩ => PE.mono r fun d₂ ⟨l, r⟩ => ⟨k, o, d₂, l, by rw [e], hk, r⟩
  have hKY : Y.K = X.K := congrArg Wd.K hY
  have hm : Y.mo = X.mo := congrArg Wd.mo hY
  have hPP : Y.P = X.P := congrArg Wd.P hY
  refine wpAny_If (isTrue_plain (call_any hf (.inl (by rw [hKY, X.hK]; rfl)) hp hst hA G fun vs s' ds hr hv st G' => ?_))
  obtain ⟨k, o, d₂, l, rfl, hk, hsrc, hz, hb, hb'⟩ := hr
  obtain ⟨v₁, r, rfl, h1, hv⟩ := vals_cons.mp hv
  obtain ⟨v₂, r, rfl, h2, hv⟩ := vals_cons.mp hv
  have := vals_nil.mp hv
  subst this
  have := val_ptr.mp h1
  subst this
  have H : Hp X.toWd V s' := hY ▸ G'.hp
  have hS : ∀ b, o.has b → stoS os b := fun b w => ⟨k, o, hk, w⟩
  have hV : ∀ b, o.has b → V b := fun b w => G'.mv b (G'.sm b (hS b w))
  have hat := G'.inv k o hk
  rw [hPP] at hat h2
  have hfill : Fill o (ct k) := ⟨sto.sep.self k o hk, sto.ok k o hk, sto.nd k o hk⟩
  have fin : ∀ s₂, Step o.has s' s₂ → OsAt X.P V s₂.heap o (addAll (ct k) (l.map sKey)) →
      wpAny Y.mo A (truthy (Value.bool (((addAll (ct k) (l.map sKey)).length : Int) != ((ct k).length : Int)))) (fun r s₁ => if r = true then wpAny Y.mo A (execs b Y.env) (Post Y Φ ⟨stoV Y.P os ct ρ, M, V⟩ s) E s₁ else wpAny Y.mo A (execs [] Y.env) (Post Y Φ ⟨stoV Y.P os ct ρ, M, V⟩ s) E s₁) E s₂ := fun s₂ st₂ hat₂ => by
    have G₂ := G'.stoSet hk sto.sep st₂ (hPP ▸ hat₂)
    have gr : Gr ⟨stoV Y.P os ct ρ, M, V⟩ s ⟨stoV Y.P os (ctSet ct k (addAll (ct k) (l.map sKey))) ρ, M, V⟩ s₂ :=
      ⟨(st.all _).trans (st₂.mono fun b w => G'.sm b (hS b w)), fun b w => .inl w, fun b w => .inl w, fun b w _ => w⟩
    refine wpAny_truthy_bool ?_
    by_cases e : (addAll (ct k) (l.map sKey)).length = (ct k).length
    · have e' : (((addAll (ct k) (l.map sKey)).length : Int) != ((ct k).length : Int)) = false := by rw [e]; simp
      rw [e', if_neg (by decide)]
      exact wpAny_execs_nil ⟨.next, _, hb' e, rfl, G₂, gr⟩
    · have e' : (((addAll (ct k) (l.map sKey)).length : Int) != ((ct k).length : Int)) = true := by rw [bne_iff_ne]; omega
      rw [e', if_pos rfl]
      exact wpAny_mono (hb e M V A E s₂ hA G₂) (fun f s' p => p.after gr G) fun _ _ z => z
  rcases hsrc with rfl | ⟨k₂, o₂, hk₂, rfl, hct⟩
  · rw [hm]
    refine us_call (X := X) (V := V) (.list (l := l)) (hA.mono hn) H hat hV hfill hz h2 fun s₂ st₂ hat₂ _ => ?_
    rw [← hm]
    exact fin s₂ st₂ hat₂
  · by_cases w : k₂ = k
    · subst w
      rw [hk] at hk₂
      cases hk₂
      rw [hm]
      refine us_call (X := X) (V := V) (.self (l := l) hct) (hA.mono hn) H hat hV hfill hz h2 fun s₂ st₂ hat₂ _ => ?_
      rw [← hm]
      exact fin s₂ st₂ hat₂
    · have := val_ptr.mp h2
      subst this
      obtain ⟨H', hv'⟩ := G'.off (X := X) hY hk₂
      have nab : ∀ b, o.has b → ¬ o₂.has b := fun b w1 w2 => w (sto.sep.apart _ _ _ _ b hk₂ hk w2 w1)
      rw [hct] at hv'
      rw [hm]
      refine us_call (X := X) (V := o₂.off V) (.oset (l := l)) (hA.mono hn) H' (hat.less fun b w => w.1) (fun b w => ⟨hV b w, nab b w⟩) hfill hz hv' fun s₂ st₂ hat₂ _ => ?_
      rw [← hm]
      refine fin s₂ st₂ (hat₂.back (addAll_sym (sto.ok k o hk)) fun b w => ?_)
      by_cases q : o₂.has b
      · refine .inr fun c od vs n e => ?_
        have hat₃ := G'.inv k₂ o₂ hk₂
        obtain ⟨ob, e'⟩ := hat₃.some b q
        have := st₂.keep b ob (fun w => nab b w q) e'
        rw [this] at e
        cases e
        exact hat₃.shape b q _ _ _ _ e'
      · exact .inl ⟨w, q⟩
end
end Mine
namespace Mine
open PySem PySem.W PySem.Calls PyProof.Rows

theorem aok_tc {A : Around} {n : Nat} {C : Addr} {vals : List Value} (h : AOk A (n + 1)) : AOk (A.under (.builtin "type.__call__" ⟨.ref C :: vals, []⟩)) n :=
  ⟨h.handled, by have := h.depth; show A.depth + 1 + 10 * n ≤ 900; omega, by have := h.units; show A.units + 1 + 100 * n ≤ 9000; omega⟩

section
variable {X : Wk} {A : Around} {E : Value → Shared → Prop} {s : Shared} {V : Rgn}
/-- self.d = v, the first time -/
theorem set_d {a da dd : Addr} {Q : Unit → Shared → Prop} (H : Hp X.toWd V s) (h1 : s.heap.get? a = some (instO da)) (h2 : s.heap.get? da = some emptyDict)
    (hQ : ∀ h' hd kd tk, h'.get? da = some (dObj hd kd dd) → Heap.SameBut da s.heap h' → Q () { s with heap := h', toks := tk }) : wpAny X.mo A (setAttr (.ref a) "d" (.ref dd)) Q E s := by
  have K0 : (X39 X).In s.heap := H.k39
  have I : InstAt s.heap a (instO da) 101 (some emptyDict) := ⟨h1, rfl, rfl, h2⟩
  refine set_plain (K := X39 X) K0 I (by rfl) ?_
  have I' : InstAt ({ s with toks := s.toks + 1 } : Shared).heap a (instO da) 101 (some emptyDict) := I
  refine osa_open (K := X39 X) (r := none) K0 I' (by rfl) (by rfl) fun b => ?_
  have hh : (clsIn (X39 X) 101).any (·.hasDict) = true := by rfl
  obtain ⟨cd, hc, hd'⟩ := any_some hh
  refine wpAny_bind (wpAny_pure (wpAny_bind (wpAny_bind (wpAny_loadPart h1 (wpAny_bind (looks_clsIn K0 hc _ _ _ _ (fun _ _ e => e) ?_))))))
  rw [hd']
  refine wpAny_pure (a := some da) (wpAny_bind (wpAny_pure (wpAny_bind ?_)))
  unfold nsSet
  refine wpAny_bind (wpAny_bind (wpAny_askSetting (wpAny_pure (wpAny_bind (wpAny_mkText (wpAny_bind (wpAny_loadPart h2 ?_)))))))
  dsimp only
  have c : aRefKeyMayBeTheName ("d" : Str) (#[] : Array DictEntry) = false := by rfl
  rw [c]
  refine wpAny_updatePart h2 ?_
  have D' : (s.heap.update da (Obj.putName "d" (PyData.keyHash X.w.params "d") (.str "d" (s.toks + 1)) (.ref dd))).get? da = some (dObj (PyData.keyHash X.w.params "d") (s.toks + 1) dd) := Heap.get?_update_self _ h2 rfl
  refine wpAny_bind (wpAny_lookBehind D' (by exact pastItsLine_dict (by show 1 ≤ sizeLine + 1; exact Nat.le_add_left 1 _)) ?_)
  exact wpAny_pure (hQ _ _ _ _ D' (Heap.SameBut.update ..))

/-- what a call leaves, and where the store has grown -/
def OutG (X : Wd) (V : Rgn) (Φ : AF → Vw → Prop) (S : Rgn) (s : Shared) (v : Value) (s' : Shared) : Prop :=
  ∃ af q', Φ af q' ∧ (match af with | .ret d => Val X.P V s'.heap d v | _ => v = .none) ∧ Step S s s' ∧ (∃ V', (∀ x, V x → V' x) ∧ q'.I V' s'.heap ∧ (∀ x, q'.S x → V' x)) ∧ (∀ x, V x → ∃ o, s'.heap.get? x = some o) ∧ (∀ x, q'.S x → S x ∨ s.heap.get? x = none)
end

section
variable {X : Wd}
theorem call_enterC {n : Nat} (hn : 4 ≤ n) {a : Addr} {cls : Value} {dd : Option Addr} {sl : Array (Option Value)} {fd : FuncData} {ds : List PV} {names : List Str} {body : List Stmt} {S : Rgn} {I : Rgn → Heap → Prop} {Φ : AF → Vw → Prop}
    {A : Around} {R : Result → Shared → Prop} {s : Shared} {V : Rgn} {vs vs' : List Value} (hA : AOk A (n + 1)) (H : Hp X V s) (hv : Vals X.P V s.heap ds vs')
    (hl : X.K.lookup a = some ⟨cls, dd, .func fd, sl⟩) (hbody : fd.body = .stmts body) (hlen : names.length = ds.length) (hbind : BindsTo s fd ⟨vs, []⟩ (names.zip vs')) (hclo : fd.closure = [])
    (hnd : names.Nodup) (hkind : ∀ L x, x ∈ names → fd.scope.names.lookup x = some .local ∨ (fd.scope.names.lookup x = some .cell ∧ ((cellsFrom (L + 1) fd.scope.names []).lookup x).isSome = true))
    (hcd : codeIn X.K fd.code fd.qualname = true) (hg : fd.globals = mainGlobals) (hb : fd.builtins = builtinsNs)
    (hco : fd.scope.isCoroutine = false) (hgen : fd.scope.isGenerator = false) (hk : fd.scope.kind = .function)
    (hS : ∀ b, S b → V b) (hI : I V s.heap) (hst : Stab S I)
    (h : ∀ L env, env = callEnvC fd L a → PS (X.act env V n hn) ⟨S, (q0 (look (names.zip ds))).ρ, I⟩ body Φ)
    (k : ∀ v s', OutG X V Φ S s v s' → R (.ok (.ret v)) s') : codeAny X.mo A (.call (.ref a) ⟨vs, []⟩) R s := by
  have hK := H.inK
  have hvl := hv.length
  refine codeAny_call_cellsD hA.room (hK _ _ hl) rfl H.nolimit (codeRec_of hK hcd) hbody hbind hclo (fun x hx => ?_) (fun s₁ hc => ?_) hco hgen hk
  · have : x.1 ∈ names := (List.of_mem_zip hx).1
    exact hkind _ _ this
  have hns := hc.toInCall.ns
  have hfr := hc.toInCall.fresh
  have hnew : ∀ b, own (callEnvC fd s.heap.objs.size a) b → s.heap.get? b = none := fun b w => by
    rcases w with rfl | ⟨n, e⟩
    · exact get?_none_of_le hfr
    · exact get?_none_of_le (Nat.le_of_lt (Nat.lt_of_le_of_lt hfr (hc.above n b (mem_of_lookup e))))
  have st : Step None s s₁ := by
    obtain ⟨h', tk, e⟩ := hc.toInCall.same
    have k := hc.toInCall.keep
    rw [e] at k ⊢
    exact Step.heap fun b o _ q => k b o q
  have zn : ((names.zip vs').map (·.1)) = names := by rw [List.map_fst_zip]; rw [← hvl, hlen]; exact Nat.le_refl _
  have G : EnvOk (X.act (callEnvC fd s.heap.objs.size a) V n hn) ⟨⟨S, (q0 (look (names.zip ds))).ρ, I⟩, fun b => own (callEnvC fd s.heap.objs.size a) b ∨ S b, fun b => V b ∨ own (callEnvC fd s.heap.objs.size a) b⟩ s₁ := by
    refine enter_envS hn H hk hg hb hc.toInCall.keep hnew ⟨_, hns⟩ (fun n c e => ⟨Nat.ne_of_gt (hc.above n c (mem_of_lookup e)), _, hc.cell n c e⟩) (fun n n' c e e' => pair_apart hc.apart (mem_of_lookup e) (mem_of_lookup e')) (fun x d e => ?_) hS hI hst
    obtain ⟨v, hm, hd⟩ := look_zip hv e
    refine ⟨v, ?_, hd⟩
    have hxn : x ∈ names := (List.of_mem_zip hm).1
    rcases hkind s.heap.objs.size x hxn with hl | ⟨hl, hs⟩
    · exact .inl ⟨hl, _, hns, bindL_get (k := (callEnvC fd s.heap.objs.size a).kindOf) hl (by rw [zn]; exact hnd) hm⟩
    · have hl' : (callEnvC fd s.heap.objs.size a).kindOf x = some .cell := hl
      obtain ⟨c, hc'⟩ := Option.isSome_iff_exists.mp hs
      have hcell := hc.cell x c hc'
      rw [bindC_get (k := (callEnvC fd s.heap.objs.size a).kindOf) (by rw [hl']; intro q; cases q) (by rw [zn]; exact hnd) hm] at hcell
      exact .inr ⟨.inl hl', c, hc', hcell⟩
  refine wpAny_mono (h s.heap.objs.size _ rfl _ _ _ _ s₁ (hA.deeper _) G) (fun f s' p => k _ _ ?_) fun _ _ x => x
  obtain ⟨af, a', hΦ, hf, G', g⟩ := p
  have hU : ∀ b, V b → a'.V b := fun b w => G'.uv b w
  have stp : Step S s s' := ((st.all _).trans g.st).old fun b w => w.elim (fun w => .inr (hnew b w)) .inl
  refine ⟨af, a'.toVw, hΦ, ?_, stp, ⟨a'.V, hU, G'.inv, fun x w => G'.mv x (G'.sm x w)⟩, fun x w => G'.bnd x (hU x w), fun x w => ?_⟩
  · cases af with
    | ret d => obtain ⟨v, rfl, hv⟩ := hf; exact hv.less hU
    | next => cases hf; rfl
    | brk => cases hf; rfl
    | cont => cases hf; rfl
  · rcases g.m x (G'.sm x w) with (q | q) | q
    · exact absurd q (G'.os x w)
    · exact .inl q
    · exact .inr (none_of_keep (fun o => st.kp x o) q)
end
end Mine
namespace Mine
open PySem PySem.W PySem.Calls PyProof.Rows

section
variable {Y : Act} {q : Vw} {M V : Rgn} {s s' : Shared}
/-- another store, in a frame that has no container of its own -/
theorem EnvOk.swapI {S' : Rgn} {I' : Rgn → Heap → Prop} (G : EnvOk Y ⟨q, M, V⟩ s) (hmt : ∀ x d, q.ρ x ≠ some (.mt d)) (st : Step q.S s s') (hS' : ∀ b, S' b → M b) (hown : ∀ b, S' b → ¬ own Y.env b) (hb : ∀ b, q.S b → ∃ o, s'.heap.get? b = some o) (hI : I' V s'.heap) (hst : Stab S' I') :
    EnvOk Y ⟨⟨S', q.ρ, I'⟩, M, V⟩ s' := by
  have hV : ∀ b, q.S b → V b := fun b w => G.mv b (G.sm b w)
  have no : ∀ b, own Y.env b → ¬ q.S b := fun b w e => G.os b e w
  have ho : ∀ b ob, own Y.env b → s.heap.get? b = some ob → s'.heap.get? b = some ob := fun b ob w e => st.keep b ob (no b w) e
  exact {
    kind := G.kind
    glob := G.glob
    blt := G.blt
    keep := fun b ob e => st.keep b ob (fun w => by rw [G.low b (hV b w)] at e; cases e) (G.keep b ob e)
    bnd := fun b hb' => by
      by_cases w : q.S b
      · exact hb b w
      · obtain ⟨ob, e⟩ := G.bnd b hb'
        exact ⟨ob, st.keep b ob w e⟩
    mv := G.mv
    uv := G.uv
    om := G.om
    ou := G.ou
    oo := G.oo
    lo := G.lo
    low := G.low
    ns := by
      obtain ⟨m, ob, es, ep, h, r⟩ := G.ns
      exact ⟨m, ob, es, ep, ho _ _ (.inl rfl) h, r⟩
    cell := fun n c e => by
      obtain ⟨h1, v, ob, h, r⟩ := G.cell n c e
      exact ⟨h1, v, ob, ho _ _ (.inr ⟨n, e⟩) h, r⟩
    apart := G.apart
    slots := fun y sl e => by
      obtain ⟨v, rv, h⟩ := G.slots y sl e
      refine ⟨v, rv.keeps ho, ?_⟩
      cases sl with
      | fz d => exact Val.keeps (d := d) (V := V) h fun b ob n e => st.keep b ob (fun w => n (hV b w)) e
      | mt d => exact absurd e (hmt y d)
    dist := fun x y d e v hn hx hy h1 h2 => absurd hx (hmt x d)
    sm := hS'
    os := hown
    inv := hI
    stab := hst }

/-- self.d = {} -/
theorem PS1.initD {X : Wk} {a da : Addr} {ρ : Str → Option Slot} {p1 p2 p3 pos : Pos} {Φ : AF → Vw → Prop} (hY : Y.toWd = X.toWd) (hmt : ∀ x d, ρ x ≠ some (.mt d)) (hself : ρ "self" = some (.fz (.ptr a))) (hne : a ≠ da)
    (hΦ : ∀ dd, a ≠ dd → da ≠ dd → Φ .next (stoV Y.P (os1 ⟨a, da, dd⟩) (ct1 []) ρ)) :
    PS1 Y ⟨fun b => b = a ∨ b = da, ρ, fun _ h => h.get? a = some (instO da) ∧ h.get? da = some emptyDict⟩ (.Assign [.Attribute (.Name "self" p1) "d" p2] (.Dict [] [] p3) pos) Φ := fun M V A E s hA G => by
  refine plainObj_wpAny_Assign_Attribute ((NewE.dict p3).use G fun s₁ G₁ st₁ F _ => ?_) (by rfl)
  have hdd : s.heap.get? s.heap.objs.size = none := get?_size _
  generalize s.heap.objs.size = dd at hdd G₁ F ⊢
  obtain ⟨u, hu, hv⟩ := G₁.slots "self" _ hself
  have hv : Val Y.P (fun b => V b ∨ b = dd) s₁.heap (.ptr a) u := hv
  have := val_ptr.mp hv
  subst this
  refine rd_name G₁ hu ?_
  have hm : Y.mo = X.mo := congrArg Wd.mo hY
  rw [hm]
  have inv := G₁.inv
  have ha := G.inv.1
  have hda := G.inv.2
  have n1 : a ≠ dd := fun e => by rw [e, hdd] at ha; cases ha
  have n2 : da ≠ dd := fun e => by rw [e, hdd] at hda; cases hda
  refine set_d (X := X) (hY ▸ G₁.hp) inv.1 inv.2 fun h' hd kd tk hda' hsb => ?_
  have st₂ : Step (fun b => b = a ∨ b = da) s₁ { s₁ with heap := h', toks := tk } := (Step.same (W := fun b => b = da) (t := tk) hsb rfl).mono fun b w => .inr w
  obtain ⟨nn, es, htop⟩ := F.top
  have hat : OsAt Y.P (fun b => V b ∨ b = dd) h' ⟨a, da, dd⟩ [] := ⟨(hsb.2 a hne).trans inv.1, ⟨hd, kd, hda'⟩, nn, es, (hsb.2 dd fun e => n2 e.symm).trans htop.1, by simpa using htop.2.1, by simpa [nones] using htop.2.2.1, by simpa using htop.2.2.2⟩
  refine ⟨.next, ⟨stoV Y.P (os1 ⟨a, da, dd⟩) (ct1 []) ρ, fun b => M b ∨ b = dd, fun b => V b ∨ b = dd⟩, hΦ dd n1 n2, rfl, ?_, ?_⟩
  · refine G₁.swapI (S' := stoS (os1 ⟨a, da, dd⟩)) hmt st₂ (fun b w => ?_) (fun b w => ?_) (fun b w => ?_) (stoI1.mpr hat) sto_stab
    · rcases stoS1.mp w with e | e | e
      · exact .inl (G.sm b (.inl e))
      · exact .inl (G.sm b (.inr e))
      · exact .inr e
    · rcases stoS1.mp w with e | e | e
      · exact G.os b (.inl e)
      · exact G.os b (.inr e)
      · exact (show b = dd from e) ▸ F.no
    · rcases w with e | e
      · exact e ▸ ⟨_, hat.inst⟩
      · exact e ▸ ⟨_, hda'⟩
  · refine ⟨(st₁.all _).trans (st₂.mono fun b w => G.sm b w), fun b w => w.imp id fun (e : b = dd) => e ▸ hdd, fun b w => w.imp id fun (e : b = dd) => e ▸ hdd, fun b w _ => .inl w⟩
end

theorem q0_mt {ρs : Str → Option PV} : ∀ x d, (q0 ρs).ρ x ≠ some (.mt d) := fun x d e => by
  unfold q0 at e
  dsimp only at e
  cases h : ρs x <;> rw [h] at e <;> cases e

section
variable {X : Wk} {A : Around} {s : Shared} {V : Rgn} {R : Result → Shared → Prop}
/-- OrderedSet.__init__ -/
theorem init_call {a da : Addr} {l : List SK} {d : PV} {vs vs' : List Value} (hd : d = .list (l.map sKey) ∨ d = .tup (l.map sKey)) (hA : AOk A 8) (H : Hp X.toWd V s) (hne : a ≠ da) (h1 : s.heap.get? a = some (instO da)) (h2 : s.heap.get? da = some emptyDict) (hVa : V a) (hVd : V da)
    (hv : Vals X.P V s.heap [.ptr a, d] vs') (hbind : ∀ fd cls dd sl, X.K.lookup 44 = some ⟨cls, dd, .func fd, sl⟩ → BindsTo s fd ⟨vs, []⟩ ((["self", "items"] : List Str).zip vs')) (hz : l.length ≤ 4096)
    (k : ∀ s' dd, a ≠ dd → da ≠ dd → s.heap.get? dd = none → Step (fun b => b = a ∨ b = da) s s' → OsAt X.P V s'.heap ⟨a, da, dd⟩ (addAll [] (l.map sKey)) → (∀ x, V x → ∃ ob, s'.heap.get? x = some ob) → R (.ok (.ret .none)) s') : codeAny X.mo A (.call (.ref 44) ⟨vs, []⟩) R s := by
  have hl : X.K.lookup 44 = (X39 X).lookup 44 := by rw [X.hK]
  refine call_enterC (X := X.toWd) (n := 7) (by decide) (ds := [.ptr a, d]) (names := ["self", "items"]) (vs' := vs') (S := fun b => b = a ∨ b = da) (I := fun _ h => h.get? a = some (instO da) ∧ h.get? da = some emptyDict)
    (Φ := fun f q' => f = .next ∧ ∃ dd, a ≠ dd ∧ da ≠ dd ∧ q'.S dd ∧ ∀ V h, q'.I V h → OsAt X.P V h ⟨a, da, dd⟩ (addAll [] (l.map sKey))) hA H hv (by rw [X.hK]; rfl) rfl rfl (hbind _ _ _ _ (by rw [X.hK]; rfl)) rfl (by decide)
    (fun L x hx => by
      simp only [List.mem_cons, List.mem_singleton, List.not_mem_nil, or_false] at hx
      rcases hx with hx | hx <;> subst hx <;> exact .inl (by rfl)) (by rw [X.hK]; rfl) rfl rfl rfl rfl rfl (fun b w => w.elim (fun e => e ▸ hVa) fun e => e ▸ hVd) ⟨h1, h2⟩
    (fun V₁ V₂ h₁ h₂ x hk _ => ⟨hk _ _ (.inl rfl) x.1, hk _ _ (.inr rfl) x.2⟩) (fun L env he => ?_) (fun v s' h => ?_)
  · have hk := congrArg (fun e : Env => e.scope.names) he
    dsimp only [callEnvC, newEnv] at hk
    clear he
    have g1 : (q0 (look ((["self", "items"] : List Str).zip [.ptr a, d]))).ρ "self" = some (.fz (.ptr a)) := q0_here (by rfl)
    have g2 : (q0 (look ((["self", "items"] : List Str).zip [.ptr a, d]))).ρ "items" = some (.fz d) := q0_here (by rfl)
    have g3 := q0_mt (ρs := look ((["self", "items"] : List Str).zip [.ptr a, d]))
    generalize (q0 (look ((["self", "items"] : List Str).zip [.ptr a, d]))).ρ = ρ at g1 g2 g3 ⊢
    refine PS.seq (PS1.initD (X := X) rfl g3 g1 hne fun dd n1 n2 => ⟨rfl, ?_⟩)
    have fin : ∀ ct' ρ', ct' .nul = addAll [] (l.map sKey) → AF.next = .next ∧ ∃ dd, a ≠ dd ∧ da ≠ dd ∧ (stoV X.P (os1 ⟨a, da, dd⟩) ct' ρ').S dd ∧ ∀ V h, (stoV X.P (os1 ⟨a, da, dd⟩) ct' ρ').I V h → OsAt X.P V h ⟨a, da, dd⟩ (addAll [] (l.map sKey)) := fun ct' ρ' e => ⟨rfl, dd, n1, n2, stoS1.mpr (.inr (.inr rfl)), fun V h x => e ▸ stoI1.mp x⟩
    refine PS.seq (PS1.mono (PS1.fill (X := X) (nm := .seq) (o := ⟨a, da, dd⟩) (l := l) rfl (by show 5 ≤ 7; decide) (by decide) (IterE.seq (PE.name (a := stoV X.P (os1 ⟨a, da, dd⟩) (ct1 []) ρ) g2 ?_)) (kd hk (by rfl)) ⟨hne, n1, n2⟩ g1 (by simp [ct1]) (by simp [ct1]) (by simpa [ct1] using hz)
      (Φ := fun f q' => f = .next ∧ ∃ dd, a ≠ dd ∧ da ≠ dd ∧ q'.S dd ∧ ∀ V h, q'.I V h → OsAt X.P V h ⟨a, da, dd⟩ (addAll [] (l.map sKey))) (fun ct' ρ' e => ⟨rfl, dd, n1, n2, stoS1.mpr (.inr (.inr rfl)), fun V h x => e ▸ stoI1.mp x⟩)) fun f q h => ⟨h.1, PS.nil ⟨rfl, h.2⟩⟩)
    rcases hd with rfl | rfl
    · exact ⟨tList, _, rfl, .inl rfl, rfl⟩
    · exact ⟨tTuple, _, rfl, .inr rfl, rfl⟩
  · obtain ⟨af, q', ⟨rfl, dd, n1, n2, hS, hI⟩, rfl, st, ⟨V', hVV, hi, _⟩, hb, hg⟩ := h
    refine k s' dd n1 n2 ?_ st ((hI _ _ hi).less hVV) hb
    rcases hg dd hS with (e | e) | e
    · exact absurd e.symm n1
    · exact absurd e.symm n2
    · exact e
end
end Mine
namespace Mine
open PySem PySem.W PySem.Calls PyProof.Rows

section
variable {X : Wk} {A : Around} {E : Value → Shared → Prop} {s : Shared} {V : Rgn}
/-- OrderedSet(..) -/
theorem new_call {l : List SK} {rest : List Value} {Q : Value → Shared → Prop} (hr : (rest = [] ∧ l = []) ∨ ∃ v, rest = [v] ∧ Val X.P V s.heap (.list (l.map sKey)) v) (hA : AOk A 9) (H : Hp X.toWd V s) (hz : l.length ≤ 4096)
    (k : ∀ s' (o : OS), o.sep → (∀ b, o.has b → s.heap.get? b = none) → Step None s s' → OsAt X.P (fun b => V b ∨ o.has b) s'.heap o (addAll [] (l.map sKey)) → (∀ x, V x → ∃ ob, s'.heap.get? x = some ob) → Q (.ref o.a) s') : wpAny X.mo A (call (.ref 101) rest) Q E s := by
  refine wpAny_call ?_
  obtain ⟨hh, g, d, t, os⟩ := s
  have K0 : (X39 X).In hh := H.k39
  have Y : Makes X.mo hh 101 := makes_of (K := X39 X) K0 (by rfl)
  have hsz : ∀ o, (hh.push o).objs.size = hh.objs.size + 1 := fun o => Heap.size_push ..
  have k2 : ∀ b ob, hh.get? b = some ob → ((hh.push emptyDict).push (instObj 101 hh.objs.size)).get? b = some ob := fun b ob e => Heap.get?_push_of_some _ (Heap.get?_push_of_some _ e)
  have e1 : ((hh.push emptyDict).push (instObj 101 hh.objs.size)).get? (hh.objs.size + 1) = some (instO hh.objs.size) := by have := Heap.get?_push_size (hh.push emptyDict) (o := instObj 101 hh.objs.size) rfl; rw [hsz] at this; exact this
  have e2 : ((hh.push emptyDict).push (instObj 101 hh.objs.size)).get? hh.objs.size = some emptyDict := Heap.get?_push_of_some _ (Heap.get?_push_size _ rfl)
  have n1 : hh.get? hh.objs.size = none := get?_size _
  have n2 : hh.get? (hh.objs.size + 1) = none := get?_none_of_le (Nat.le_succ _)
  refine make_core Y (looks_findIn (K := X39 X) K0 (name := "__init__") (r := some (.ref 44)) (by rfl)) (fun self => bind_fn (K := X39 X) K0 self (by rfl)) (.inl rfl) ?_
  have st0 : Step None ⟨hh, g, d, t, os⟩ ⟨(hh.push emptyDict).push (instObj 101 hh.objs.size), g, d, t, os⟩ := Step.heap (s := ⟨hh, g, d, t, os⟩) (t := t) fun b o _ e => k2 b o e
  have hV1 : ∀ x, (V x ∨ x = hh.objs.size + 1 ∨ x = hh.objs.size) → V x ∨ hh.get? x = none := fun x w => w.imp id fun w => w.elim (fun e => e ▸ n2) fun e => e ▸ n1
  have H₁ : Hp X.toWd (fun x => V x ∨ x = hh.objs.size + 1 ∨ x = hh.objs.size) ⟨(hh.push emptyDict).push (instObj 101 hh.objs.size), g, d, t, os⟩ :=
    ⟨fun b o e => k2 b o (H.keep b o e), fun x w => w.elim (fun w => let ⟨o, e⟩ := H.bnd x w; ⟨o, k2 x o e⟩) fun w => w.elim (fun e => ⟨_, by subst e; exact e1⟩) fun e => ⟨_, by subst e; exact e2⟩, fun x w => (hV1 x w).elim (H.low x) fun e => none_of_keep (fun o => H.keep x o) e⟩
  have grow : ∀ {d : PV} {v : Value}, Val X.P V hh d v → Val X.P (fun x => V x ∨ x = hh.objs.size + 1 ∨ x = hh.objs.size) ((hh.push emptyDict).push (instObj 101 hh.objs.size)) d v := fun x => (x.grow hV1).keeps fun b o _ e => k2 b o e
  have fin : ∀ s' dd, hh.objs.size + 1 ≠ dd → hh.objs.size ≠ dd → ((hh.push emptyDict).push (instObj 101 hh.objs.size)).get? dd = none → Step (fun b => b = hh.objs.size + 1 ∨ b = hh.objs.size) ⟨(hh.push emptyDict).push (instObj 101 hh.objs.size), g, d, t, os⟩ s' →
      OsAt X.P (fun x => V x ∨ x = hh.objs.size + 1 ∨ x = hh.objs.size) s'.heap ⟨hh.objs.size + 1, hh.objs.size, dd⟩ (addAll [] (l.map sKey)) → (∀ x, (V x ∨ x = hh.objs.size + 1 ∨ x = hh.objs.size) → ∃ ob, s'.heap.get? x = some ob) → Q (.ref (hh.objs.size + 1)) s' := fun s' dd m1 m2 hdd st hat hb => by
    have hddn : hh.get? dd = none := none_of_keep (fun o => k2 dd o) hdd
    refine k s' ⟨hh.objs.size + 1, hh.objs.size, dd⟩ ⟨Nat.succ_ne_self _, m1, m2⟩ ?_ (st0.trans' st fun b w => .inr ?_) (hat.back (addAll_sym (by simp)) fun b w => ?_) fun x w => hb x (.inl w)
    · rintro b (rfl | rfl | rfl)
      · exact n2
      · exact n1
      · exact hddn
    · rcases w with rfl | rfl
      · exact n2
      · exact n1
    · rcases w with w | rfl | rfl | rfl
      · exact .inl (.inl w)
      · exact .inl (.inr (.inl rfl))
      · exact .inl (.inr (.inr rfl))
      · exact .inr (hat.shape _ (.inr (.inr rfl)))
  rcases hr with ⟨rfl, rfl⟩ | ⟨v, rfl, hv⟩
  · refine init_call (X := X) (l := []) (d := .tup []) (a := hh.objs.size + 1) (da := hh.objs.size) (V := fun x => V x ∨ x = hh.objs.size + 1 ∨ x = hh.objs.size) (vs' := [.ref (hh.objs.size + 1), .ref 36]) (.inr rfl) (aok_tc hA) H₁ (Nat.succ_ne_self _) e1 e2 (.inr (.inl rfl)) (.inr (.inr rfl)) ?_ ?_ (by simp) fun s' dd m1 m2 hdd st hat hb => ⟨rfl, fin s' dd m1 m2 hdd st hat hb⟩
    · have h36 : X.b₀.get? 36 = some (seqO tTuple #[] 0) := X.inK _ _ (by rw [X.hK]; rfl)
      rw [vals_cons', vals_cons', vals_nil]
      exact ⟨val_ptr.mpr rfl, val_seq.mpr ⟨36, 0, #[], rfl, (fun w => by have := H₁.low 36 w; rw [h36] at this; cases this), H₁.keep _ _ h36, vals_nil.mpr rfl⟩, rfl⟩
    · intro fd cls dd sl e
      rw [X.hK] at e
      have e' : (X39 X).lookup 44 = some ⟨cls, dd, .func fd, sl⟩ := e
      cases e'
      exact binds_K (K := X39 X) H₁.k39 rfl (by rfl) rfl rfl rfl
  · refine init_call (X := X) (l := l) (d := .list (l.map sKey)) (a := hh.objs.size + 1) (da := hh.objs.size) (V := fun x => V x ∨ x = hh.objs.size + 1 ∨ x = hh.objs.size) (vs' := [.ref (hh.objs.size + 1), v]) (.inl rfl) (aok_tc hA) H₁ (Nat.succ_ne_self _) e1 e2 (.inr (.inl rfl)) (.inr (.inr rfl)) ?_ ?_ hz fun s' dd m1 m2 hdd st hat hb => ⟨rfl, fin s' dd m1 m2 hdd st hat hb⟩
    · rw [vals_cons', vals_cons', vals_nil]
      exact ⟨val_ptr.mpr rfl, grow hv, rfl⟩
    · intro fd cls dd sl e
      rw [X.hK] at e
      have e' : (X39 X).lookup 44 = some ⟨cls, dd, .func fd, sl⟩ := e
      cases e'
      exact binds_K (K := X39 X) H₁.k39 rfl (by rfl) rfl rfl rfl
end
end Mine
namespace Mine
open PySem PySem.W PySem.Calls PyProof.Rows

open Classical in
noncomputable def osSet (os : Sto) (k : Ky) (o : OS) : Sto := fun k' => if k' = k then some o else os k'
theorem osSet_self {os : Sto} {k : Ky} {o : OS} : osSet os k o k = some o := by unfold osSet; rw [if_pos rfl]
theorem osSet_ne {os : Sto} {k k' : Ky} {o : OS} (h : k' ≠ k) : osSet os k o k' = os k' := by unfold osSet; rw [if_neg h]
theorem stoS_set {os : Sto} {k : Ky} {o : OS} {b : Addr} (h : stoS (osSet os k o) b) : o.has b ∨ stoS os b := by
  obtain ⟨k', o', e, w⟩ := h
  by_cases q : k' = k
  · subst q; rw [osSet_self] at e; cases e; exact .inl w
  · rw [osSet_ne q] at e; exact .inr ⟨k', o', e, w⟩
theorem StoOk.add {os : Sto} {ct : Cts} {k : Ky} {o : OS} {ks : List PV} (x : StoOk os ct) (sep : o.sep) (hn : ∀ k' o' b, os k' = some o' → o'.has b → ¬ o.has b) (hks : ∀ x ∈ ks, isSymPV x) (hnd : ks.Nodup) : StoOk (osSet os k o) (ctSet ct k ks) := by
  refine ⟨⟨fun k' o' e => ?_, fun k1 k2 o1 o2 b e1 e2 w1 w2 => ?_⟩, fun k' o' e => ?_, fun k' o' e => ?_⟩
  · by_cases q : k' = k
    · subst q; rw [osSet_self] at e; cases e; exact sep
    · rw [osSet_ne q] at e; exact x.sep.self k' o' e
  · by_cases q1 : k1 = k <;> by_cases q2 : k2 = k
    · exact q1.trans q2.symm
    · subst q1; rw [osSet_self] at e1; cases e1; rw [osSet_ne q2] at e2; exact absurd w1 (hn _ _ _ e2 w2)
    · subst q2; rw [osSet_self] at e2; cases e2; rw [osSet_ne q1] at e1; exact absurd w2 (hn _ _ _ e1 w1)
    · rw [osSet_ne q1] at e1; rw [osSet_ne q2] at e2; exact x.sep.apart _ _ _ _ b e1 e2 w1 w2
  · by_cases q : k' = k
    · subst q; rw [ctSet_self]; exact hks
    · rw [osSet_ne q] at e; rw [ctSet_ne q]; exact x.ok k' o' e
  · by_cases q : k' = k
    · subst q; rw [ctSet_self]; exact hnd
    · rw [osSet_ne q] at e; rw [ctSet_ne q]; exact x.nd k' o' e

section
variable {Y : Act} {M V : Rgn} {s s' : Shared} {os : Sto} {ct : Cts} {ρ : Str → Option Slot}
theorem EnvOk.stoAdd {k : Ky} {o : OS} {ks : List PV} (G : EnvOk Y ⟨stoV Y.P os ct ρ, M, V⟩ s) (hk : os k = none) (fresh : ∀ b, o.has b → s.heap.get? b = none) (st : Step None s s') (hat : OsAt Y.P (fun b => V b ∨ o.has b) s'.heap o ks) :
    EnvOk Y ⟨stoV Y.P (osSet os k o) (ctSet ct k ks) ρ, fun b => M b ∨ o.has b, fun b => V b ∨ o.has b⟩ s' := by
  have hV : ∀ b, V b → ¬ o.has b := fun b w h => by obtain ⟨ob, e⟩ := G.bnd b w; rw [fresh b h] at e; cases e
  have G₁ : EnvOk Y ⟨stoV Y.P os ct ρ, M, fun b => V b ∨ o.has b⟩ s' := G.cover (W := o.has) fresh (fun b ob e => st.kp b ob e) hat.some
  have G₂ : EnvOk Y ⟨stoV Y.P os ct ρ, fun b => M b ∨ o.has b, fun b => V b ∨ o.has b⟩ s' := EnvOk.moreM (W := o.has) G₁ fun b w => .inr w
  exact { G₂ with
    slots := fun x sl e => by
      obtain ⟨v, r, h⟩ := G₁.slots x sl e
      refine ⟨v, r, ?_⟩
      cases sl with
      | fz d => exact h
      | mt d =>
        obtain ⟨r, e, a1, a2, a3, a4, t⟩ := h
        exact ⟨r, e, .inl a1, a2, a3, fun w => (stoS_set w).elim (hV r (G.mv r a1)) a4, t⟩
    sm := fun b w => (stoS_set w).elim .inr fun w => .inl (G.sm b w)
    os := fun b w h => (stoS_set w).elim (fun w => hV b (G.mv b (G.om b h)) w) fun w => G.os b w h
    inv := fun k' o' e => by
      by_cases q : k' = k
      · subst q; rw [osSet_self] at e; cases e; rw [ctSet_self]; exact hat
      · rw [osSet_ne q] at e; rw [ctSet_ne q]; exact G₁.inv k' o' e
    stab := sto_stab }

/-- an expression that makes a new set -/
def PN (Y : Act) (os : Sto) (ct : Cts) (ρ : Str → Option Slot) (e : Expr) (kk : Ky) (ks : List PV) : Prop :=
  ∀ (M V : Rgn) (A : Around) (E : Value → Shared → Prop) (s : Shared), AOk A Y.n → EnvOk Y ⟨stoV Y.P os ct ρ, M, V⟩ s →
    wpAny Y.mo A (eval e Y.env) (fun v s' => ∃ o : OS, v = .ref o.a ∧ o.sep ∧ Step None s s' ∧ (∀ b, o.has b → s.heap.get? b = none) ∧ (∀ k' o' b, os k' = some o' → o'.has b → ¬ o.has b) ∧
      EnvOk Y ⟨stoV Y.P (osSet os kk o) (ctSet ct kk ks) ρ, fun b => M b ∨ o.has b, fun b => V b ∨ o.has b⟩ s') E s
theorem PN.after {X : Wk} {kk : Ky} {l : List SK} {A : Around} {E : Value → Shared → Prop} {s₁ : Shared} {vs : List Value} (hY : Y.toWd = X.toWd) (hn : 9 ≤ Y.n) (hk : os kk = none) (hA : AOk A Y.n) (G : EnvOk Y ⟨stoV Y.P os ct ρ, M, V⟩ s) (st : Step None s s₁) (hz : l.length ≤ 4096)
    (hr : (vs = [] ∧ l = []) ∨ ∃ v, vs = [v] ∧ Val Y.P V s₁.heap (.list (l.map sKey)) v) :
    wpAny Y.mo A (call (.ref 101) vs) (fun v s' => ∃ o : OS, v = .ref o.a ∧ o.sep ∧ Step None s s' ∧ (∀ b, o.has b → s.heap.get? b = none) ∧ (∀ k' o' b, os k' = some o' → o'.has b → ¬ o.has b) ∧
      EnvOk Y ⟨stoV Y.P (osSet os kk o) (ctSet ct kk (addAll [] (l.map sKey))) ρ, fun b => M b ∨ o.has b, fun b => V b ∨ o.has b⟩ s') E s₁ := by
  have hP : Y.P = X.P := congrArg Wd.P hY
  have hm : Y.mo = X.mo := congrArg Wd.mo hY
  have G₁ := G.stepN st
  have H : Hp X.toWd V s₁ := hY ▸ G₁.hp
  rw [hm]
  rw [hP] at hr
  refine new_call (X := X) hr (hA.mono hn) H hz fun s' o sep fresh st' hat hb => ?_
  refine ⟨o, rfl, sep, st.trans st', fun b w => none_of_keep (fun ob => st.kp b ob) (fresh b w), fun k' o' b e w h => ?_, G₁.stoAdd hk fresh st' (hP ▸ hat)⟩
  obtain ⟨ob, e'⟩ := (G₁.inv k' o' e).some b w
  rw [fresh b h] at e'; cases e'
theorem PN.call0 {X : Wk} {p pos : Pos} {kk : Ky} (hY : Y.toWd = X.toWd) (hn : 9 ≤ Y.n) (hf : FnIs Y "OrderedSet" (.ref 101)) (hk : os kk = none) : PN Y os ct ρ (.Call (.Name "OrderedSet" p) [] [] pos) kk [] := fun M V A E s hA G => by
  have hKY : Y.K = X.K := congrArg Wd.K hY
  refine call_any (R := fun ds => ds = []) hf (.inl (by rw [hKY, X.hK]; rfl)) rfl (by rfl) hA G fun vs s' ds hr hv st G' => ?_
  subst hr
  have := vals_nil.mp hv
  subst this
  exact PN.after (X := X) (l := []) hY hn hk hA G st (by simp) (.inl ⟨rfl, rfl⟩)
theorem PN.call1 {X : Wk} {p pos : Pos} {e : Expr} {kk : Ky} {l : List SK} (hY : Y.toWd = X.toWd) (hn : 9 ≤ Y.n) (hf : FnIs Y "OrderedSet" (.ref 101)) (hk : os kk = none) (hz : l.length ≤ 4096) (h : PE Y (stoV Y.P os ct ρ) e fun d => d = .list (l.map sKey)) (hst : noStar [e] = true) :
    PN Y os ct ρ (.Call (.Name "OrderedSet" p) [e] [] pos) kk (addAll [] (l.map sKey)) := fun M V A E s hA G => by
  have hKY : Y.K = X.K := congrArg Wd.K hY
  have hp : PEs Y (stoV Y.P os ct ρ) [e] fun ds => ds = [.list (l.map sKey)] := PE.mono h fun d hd => by rw [hd]; exact rfl
  refine call_any hf (.inl (by rw [hKY, X.hK]; rfl)) hp hst hA G fun vs s' ds hr hv st G' => ?_
  subst hr
  obtain ⟨v, r, rfl, h1, hv⟩ := vals_cons.mp hv
  have := vals_nil.mp hv
  subst this
  exact PN.after (X := X) hY hn hk hA G st hz (.inr ⟨v, rfl, h1⟩)
theorem PN.ite {t x y : Expr} {pos : Pos} {kk : Ky} {ks : List PV} (h : PT Y (stoV Y.P os ct ρ) t fun b => (b = true → PN Y os ct ρ x kk ks) ∧ (b = false → PN Y os ct ρ y kk ks)) : PN Y os ct ρ (.IfExp t x y pos) kk ks := fun M V A E s hA G => by
  show wpAny _ A (isTrue t Y.env (eval t Y.env) >>= _) _ _ _
  refine wpAny_bind (h.use hA G fun b s₁ hb st₁ G₁ => ?_)
  have go : ∀ {e : Expr}, PN Y os ct ρ e kk ks → wpAny Y.mo A (eval e Y.env) (fun v s' => ∃ o : OS, v = .ref o.a ∧ o.sep ∧ Step None s s' ∧ (∀ b, o.has b → s.heap.get? b = none) ∧ (∀ k' o' b, os k' = some o' → o'.has b → ¬ o.has b) ∧
      EnvOk Y ⟨stoV Y.P (osSet os kk o) (ctSet ct kk ks) ρ, fun b => M b ∨ o.has b, fun b => V b ∨ o.has b⟩ s') E s₁ := fun h =>
    wpAny_mono (h M V A E s₁ hA G₁) (fun v s' ⟨o, e, sep, st, fr, ap, G'⟩ => ⟨o, e, sep, st₁.trans st, fun b w => none_of_keep (fun ob => st₁.kp b ob) (fr b w), ap, G'⟩) fun _ _ z => z
  cases b with
  | true => exact go (hb.1 rfl)
  | false => exact go (hb.2 rfl)

/-- x = OrderedSet() -/
theorem PS1.assignN {x : Str} {p pos : Pos} {e : Expr} {kk : Ky} {ks : List PV} {Φ : AF → Vw → Prop} (hx : Storable Y x) (h : PN Y os ct ρ e kk ks)
    (hΦ : ∀ o : OS, o.sep → (∀ k' o' b, os k' = some o' → o'.has b → ¬ o.has b) → (∀ b, o.has b → ¬ Y.U b) → Φ .next ((stoV Y.P (osSet os kk o) (ctSet ct kk ks) ρ).set x (.fz (.ptr o.a)))) (hs : swapsWith e (some (.Name x p)) pos.line Y.env = pure false) : PS1 Y (stoV Y.P os ct ρ) (.Assign [.Name x p] e pos) Φ := fun M V A E s hA G => by
  refine wpAny_Assign_Name (wpAny_mono (h M V A E s hA G) (fun v s₁ h₁ => ?_) fun _ _ z => z) hs
  obtain ⟨o, rfl, sep, st₁, fr, ap, G₁⟩ := h₁
  have hv : Val Y.P (fun b => V b ∨ o.has b) s₁.heap (.ptr o.a) (.ref o.a) := val_ptr.mpr rfl
  refine store_any (sl := .fz (.ptr o.a)) G₁ hx hv trivial fun s₂ G₂ st₂ => ?_
  refine ⟨.next, _, hΦ o sep ap (fun b w u => by obtain ⟨ob, e⟩ := G.bnd b (G.uv b u); rw [fr b w] at e; cases e), rfl, G₂, (st₁.all _).trans (st₂.mono fun b w => G.om b (G.oo b w)), fun b w => w.imp id (fr b), fun b w => w.imp id (fr b), fun b w _ => .inl w⟩

/-- x[i] = OrderedSet(..) -/
theorem PS1.setItemN {x : Str} {px spos pos : Pos} {i e : Expr} {ok : PV → Prop} {n : Nat} {ks0 ds : List PV} {kk : Ky} {ks : List PV} {Φ : AF → Vw → Prop} (D : DKey Y.toWd n ok) (hn : n + 1 ≤ Y.n) (hx : ρ x = some (.mt (.dict ks0 ds))) (hks : ∀ x ∈ ks0, ok x) (hnd : ks0.Nodup) (hz : ks0.length ≤ 4096) (h : PN Y os ct ρ e kk ks)
    (hi : ∀ o : OS, o.sep → (∀ k' o' b, os k' = some o' → o'.has b → ¬ o.has b) → (∀ b, o.has b → ¬ Y.U b) → PE Y (stoV Y.P (osSet os kk o) (ctSet ct kk ks) ρ) i fun k => ok k ∧ ∀ ks' ds', DPut ks0 ds k (.ptr o.a) ks' ds' → Φ .next ((stoV Y.P (osSet os kk o) (ctSet ct kk ks) ρ).set x (.mt (.dict ks' ds'))))
    (hs : swapsWith e (some (.Subscript (.Name x px) i spos)) pos.line Y.env = pure false)
    (hd : (x == ("__debug__" : Str)) = false := by decide) (hc : (x == ("__classdict__" : Str)) = false := by decide) : PS1 Y (stoV Y.P os ct ρ) (.Assign [.Subscript (.Name x px) i spos] e pos) Φ := fun M V A E s hA G => by
  refine wpAny_Assign_Subscript (wpAny_mono (h M V A E s hA G) (fun v s₁ h₁ => ?_) fun _ _ z => z) hs
  obtain ⟨o, rfl, sep, st₁, fr, ap, G₁⟩ := h₁
  have hx₁ : (stoV Y.P (osSet os kk o) (ctSet ct kk ks) ρ).ρ x = some (.mt (.dict ks0 ds)) := hx
  obtain ⟨u, hu, r, rfl, hM, ho, hU, hS, ht⟩ := G₁.slots x _ hx₁
  refine rd_name G₁ hu ?_ hd hc
  refine (hi o sep ap fun b w u => by obtain ⟨ob, e⟩ := G.bnd b (G.uv b u); rw [fr b w] at e; cases e).use hA G₁ fun kv s₂ k hk hkv st₂ G₂ => ?_
  have ht₂ : Top Y.P (fun b => V b ∨ o.has b) s₂.heap (.dict ks0 ds) r := ht.at (fun b o n e => ⟨n, st₂.kp b o e⟩) fun o e => st₂.kp r o e
  refine dict_setItem D (dv := .ptr o.a) (hA.mono hn) G₂.hp hk.1 hks hnd hkv (val_ptr.mpr rfl) ht₂ (G₂.mv _ hM) hz fun tk h' ks' ds' hput hs' ht' => ?_
  have hu₂ : Reads1 Y.env s₂.heap x (.ref r) := hu.keeps fun b o _ e => st₂.kp b o e
  have st₃ : Step (fun b => M b ∨ o.has b) s₂ { s₂ with heap := h', toks := tk } := Step.same (t := tk) hs' hM
  refine ⟨.next, ⟨_, fun b => M b ∨ o.has b, fun b => V b ∨ o.has b⟩, hk.2 ks' ds' hput, rfl, G₂.mtSet (s' := { s₂ with heap := h', toks := tk }) hx₁ hu₂ (fun b o nb e => (hs'.2 b nb).trans e) ht',
    ((st₁.trans st₂).all M).trans' st₃ fun b w => w.imp id (fr b), fun b w => w.imp id (fr b), fun b w => w.imp id (fr b), fun b w _ => .inl w⟩
end
end Mine
namespace Mine
open PySem PySem.W PySem.Calls PyProof.Rows

section
variable {X : Wk} {A : Around} {E : Value → Shared → Prop} {s : Shared} {V : Rgn}
theorem row_type {C a : Addr} {od : Option Addr} {vs : Array Value} {n : Nat} (ho : s.heap.get? a = some (rowO C od vs n)) : Looks X.mo s.heap (typeOf (.ref a)) (.ref C) := (Looks.ld ho).andThen .now
theorem row_inst {C a : Addr} {od : Option Addr} {vs : Array Value} {n : Nat} (H : Hp X.toWd V s) (hC : subIn (X39 X) (.ref C) (.type "tuple") = some true) (ho : s.heap.get? a = some (rowO C od vs n)) : Looks X.mo s.heap (isInstance (.ref a) (.type "tuple")) true :=
  (row_type ho).andThen (looks_subIn H.k39 hC)
/-- type(x) -/
theorem call_typeOf {C a : Addr} {Q : Value → Shared → Prop} (L0 : Looks X.mo s.heap (typeOf (.ref a)) (.ref C)) (hq : Q (.ref C) s) : wpAny X.mo A (call (.type "type") [.ref a]) Q E s := by
  refine wpAny_call (codeAny_of_tree ?_)
  show wpAny _ _ (callAny (.type "type") _) _ _ _
  refine wpAny_pure ⟨Code.quiet_builtin _ (by decide +kernel), codeAny_builtin F.entry_type_call ?_⟩
  rw [Around.under_plain (weight_type_call_type "type" [.ref a] []) (units_type_call_type "type" [.ref a] [])]
  obtain ⟨h, g, d, t, os⟩ := s
  dsimp only at L0
  have L0' : Looks (model X.prog X.w) h (typeOf (({ pos := [.ref a] } : Args).pos.headD Value.none)) (.ref C) := L0
  unfold Builtin.«type.__call__»
  repeat lk
  exact hq
/-- issubclass(C, tuple) -/
theorem call_issub {C : Addr} {oc : Value} {od : Option Addr} {cd : ClassData} {sl : Array (Option Value)} {Q : Value → Shared → Prop} (H : Hp X.toWd V s) (hC : subIn (X39 X) (.ref C) (.type "tuple") = some true) (hl : (X39 X).lookup C = some ⟨oc, od, .cls cd, sl⟩) (hq : Q (.bool true) s) : wpAny X.mo A (call (.builtin "issubclass") [.ref C, .type "tuple"]) Q E s := by
  have L1 := looks_subIn (M := X.mo) H.k39 hC
  have hl' := H.k39 _ _ hl
  refine call_function_tree F.kind_issubclass F.plain_issubclass F.entry_issubclass (F.args_issubclass_2 _ _) ?_
  obtain ⟨h, g, d, t, os⟩ := s
  unfold Builtin.«issubclass»
  refine wpAny_bind (wpAny_pure (wpAny_pure ⟨Code.quiet_builtin _ (by decide +kernel), codeAny_builtin F.entry_issubclass_nested ?_⟩))
  unfold Builtin.«issubclass.nested»
  have L3 : Looks X.mo h (typeOf (.type "tuple")) (.type "type") := Looks.of_pure (by with_unfolding_all rfl)
  dsimp only at L1 hl'
  repeat lk
  exact hq

/-- a slot of tuple, called on a row -/
theorem call_row {C a : Addr} {od : Option Addr} {vs : Array Value} {n : Nat} {id nm : String} {b : Builtin} {rest : List Value} {Q : Value → Shared → Prop} (H : Hp X.toWd V s) (hC : subIn (X39 X) (.ref C) (.type "tuple") = some true) (ho : s.heap.get? a = some (rowO C od vs n)) (hk : builtinKind id = some .slot) (hs : splitId id = some ("tuple", nm)) (hp : plainId id = true)
    (he : entryFor table id = some b) (ha : argsOk id ⟨.ref a :: rest, []⟩) (h : wpAny X.mo A.in1 (b ⟨.ref a :: rest, []⟩) (fun fin s' => ∃ v, fin = .done (.ret v) ∧ Q v s') E s) : wpAny X.mo A (call (.builtin id) (.ref a :: rest)) Q E s := by
  refine wpAny_call (codeAny_call_builtin hp he (check_slot hk hs (row_inst H hC ho) ha (wpAny_mono h (fun fin s' z => ?_) fun _ _ z => z)))
  obtain ⟨v, rfl, hq⟩ := z
  exact hq
/-- tuple.__getitem__(x, i) -/
theorem call_rowitem {C a : Addr} {od : Option Addr} {vs : Array Value} {n : Nat} {i : Nat} {tk : Tok} {v : Value} {Q : Value → Shared → Prop} (H : Hp X.toWd V s) (hC : subIn (X39 X) (.ref C) (.type "tuple") = some true) (ho : s.heap.get? a = some (rowO C od vs n)) (hi : i < 100) (hv : vs[i]? = some v) (hq : Q v s) :
    wpAny X.mo A (call (.builtin "tuple.__getitem__") [.ref a, .int i tk]) Q E s := by
  refine call_row H hC ho (nm := "__getitem__") (by decide +kernel) (by decide +kernel) PyProof.Rows.slot_tuple_getitem.plain PyProof.Rows.entry_tuple_getitem (PyProof.Rows.args_tuple_getitem _ _) ?_
  obtain ⟨h, g, d, t, os⟩ := s
  dsimp only at ho
  have f1 := AutoSeq1.idx_int
  have hsz : i < vs.size := by
    rcases Nat.lt_or_ge i vs.size with w | w
    · exact w
    · rw [Array.getElem?_eq_none w] at hv; cases hv
  have hk : seqIndex? (i : Int) vs.size = some i := by unfold seqIndex?; simp; omega
  show wpAny _ _ (Builtin.Tuple.tupleItemsOf (.ref a) >>= _) _ _ _
  refine wpAny_bind (wpAny_tupleItemsOf ho rfl ?_)
  refine wpAny_bind (wpAny_pure (a := Value.type "int") ?_)
  rw [if_neg (by decide)]
  refine wpAny_bind ?_
  show wpAny _ _ (typeLookup (.type "int") (Str.ofString "__index__")) _ _ _
  rw [f1]
  refine wpAny_pure ?_
  rw [if_neg (by exact Bool.false_ne_true)]
  show wpAny _ _ (asIndex (.int i tk) >>= _) _ _ _
  refine wpAny_bind ?_
  show wpAny _ _ (pure (i : Int)) _ _ _
  refine wpAny_pure ?_
  have hf : ¬ (decide ((i : Int) < -2 ^ 63) || decide ((i : Int) ≥ 2 ^ 63)) = true := by simp; omega
  rw [if_neg hf, hk, Option.bind_some, hv]
  exact wpAny_pure ⟨_, rfl, hq⟩
theorem tuple_tga : findIn (X39 X) (.type "type") "__getattribute__" = some (some (.builtin "type.__getattribute__")) := by with_unfolding_all rfl
theorem tuple_gi : findCls (X39 X) (.type "tuple") (.type "type") "__getitem__" = some (.val (.builtin "tuple.__getitem__")) := by with_unfolding_all rfl
/-- tuple.__getitem__, as a method -/
theorem meth_tuple {pl : Sem Bool} {Q : Value × List Value → Shared → Prop} (H : Hp X.toWd V s) (h : Q (.builtin "tuple.__getitem__", []) { s with toks := s.toks + 1 }) : wpAny X.mo A (getMethod (.type "tuple") "__getitem__" pl) Q E s := by
  have K0 := H.k39
  have LO : Looks X.mo s.heap (opaqueClassAbove (.type "tuple")) none := Looks.of_pure (by unfold opaqueClassAbove; dsimp only; rw [show Manifest.isStub "tuple" = false from by decide +kernel]; rfl)
  have L0 : Looks X.mo s.heap (typeOf (.type "tuple")) (.type "type") := Looks.of_pure (by with_unfolding_all rfl)
  unfold getMethod specialOf
  refine wpAny_bind (wpAny_bind (L0.here ((looks_findIn K0 (tuple_tga (X := X))).here ?_)))
  dsimp only
  rw [if_pos canon_tga]
  refine wpAny_bind (wpAny_mono (Q := fun v => Q (v, [])) (E := E) ?_ (fun _ _ z => wpAny_pure z) fun _ _ z => z)
  refine cls_open K0 LO L0 tuple_tga (looks_hook K0 (r := none) (by rfl)) (by show subIn (X39 X) _ _ = _; with_unfolding_all rfl) tuple_gi (wpAny_pure ?_)
  show wpAny _ _ (handedOut (.builtin "tuple.__getitem__")) _ _ _
  rw [handedOut_of (by decide +kernel)]
  exact wpAny_pure h
end
end Mine
namespace Mine
open PySem PySem.W PySem.Calls PyProof.Rows

/-- a function's contract, where some values are given by the function itself -/
theorem fc_enterD {X : Wd} {n : Nat} (hn : 4 ≤ n) {a : Addr} {cls : Value} {dd : Option Addr} {sl : Array (Option Value)} {fd : FuncData} {ds ds' : List PV} {P : PV → Prop} {names : List Str} {body : List Stmt}
    (hl : X.K.lookup a = some ⟨cls, dd, .func fd, sl⟩) (hbody : fd.body = .stmts body) (hlen : names.length = ds'.length) (hbind : ∀ s V vs, Hp X V s → Vals X.P V s.heap ds vs → ∃ vs', BindsTo s fd ⟨vs, []⟩ (names.zip vs') ∧ Vals X.P V s.heap ds' vs') (hclo : fd.closure = [])
    (hnd : names.Nodup) (hkind : ∀ L x, x ∈ names → fd.scope.names.lookup x = some .local ∨ (fd.scope.names.lookup x = some .cell ∧ ((cellsFrom (L + 1) fd.scope.names []).lookup x).isSome = true))
    (hcd : codeIn X.K fd.code fd.qualname = true) (hg : fd.globals = mainGlobals) (hb : fd.builtins = builtinsNs)
    (hco : fd.scope.isCoroutine = false) (hgen : fd.scope.isGenerator = false) (hk : fd.scope.kind = .function)
    (h : ∀ L V env, env = callEnvC fd L a → PS (X.act env V n hn) (q0 (look (names.zip ds'))) body (Gives P)) : FC X (n + 1) (.ref a) ds P := fun A E s V vs hA H hv => by
  obtain ⟨vs', hbt, hv'⟩ := hbind s V vs H hv
  refine call_enter hn hA H hv' hl hbody hlen hbt hclo hnd hkind hcd hg hb hco hgen hk (S := fun _ => False) (I := fun _ _ => True) (Φ := Gives P) (fun _ h => h.elim) trivial (fun _ _ _ _ _ _ _ => trivial) (fun L env he => h L V env he) fun v s' h => ?_
  obtain ⟨af, q', hΦ, hv, st, _, _⟩ := h
  cases af with
  | ret d => exact ⟨st, d, hΦ, hv⟩
  | next =>
    have hv : v = .none := hv
    subst hv
    exact ⟨st, .none, hΦ, val_none.mpr rfl⟩
  | brk => exact hΦ.elim
  | cont => exact hΦ.elim
theorem zip3 {P : Params} {V : Rgn} {h : Heap} {a b c : PV} {vs : List Value} (x : Vals P V h [a, b, c] vs) : ∃ u v w, vs = [u, v, w] := by
  obtain ⟨u, r, rfl, _, x⟩ := vals_cons.mp x
  obtain ⟨v, r, rfl, _, x⟩ := vals_cons.mp x
  obtain ⟨w, r, rfl, _, x⟩ := vals_cons.mp x
  have := vals_nil.mp x
  subst this
  exact ⟨u, v, w, rfl⟩

theorem val_handed {P : Params} {V : Rgn} {h : Heap} {d : PV} {v : Value} (x : Val P V h d v) : handedIn v = true := by
  cases d <;> rw [Val] at x
  · subst x; rfl
  · subst x; rfl
  · obtain ⟨t, rfl⟩ := x; rfl
  · obtain ⟨t, rfl⟩ := x; rfl
  · subst x; rfl
  · obtain ⟨a, n, vs, rfl, _⟩ := x; rfl
  · obtain ⟨a, n, od, vs, rfl, _⟩ := x; rfl
  · obtain ⟨a, n, vs, rfl, _⟩ := x; rfl
  · obtain ⟨a, da, dd, n, es, hd, kd, rfl, _⟩ := x; rfl

theorem op_isnone {X : Wd} {n : Nat} {c : Addr} {l : List PV} {P : PV → Prop} (h : P (.bool false)) : Op2 X n (compareOp .Is) (.row c l) .none P := fun A E s V v₁ v₂ hA H h1 h2 => by
  obtain ⟨a, m, od, vs, rfl, _⟩ := val_row.mp h1
  have := val_none.mp h2
  subst this
  exact wpAny_is_other rfl (fun e => nomatch e) ⟨Step.refl _ _, _, h, val_bool.mpr rfl⟩

/-- a field's descriptor -/
def Desc (X : Wk) (p : Addr) (i : Nat) : Prop :=
  ∃ ox dp od tk, (X39 X).lookup p = some ox ∧ ox.cls = .ref 156 ∧ notCls ox = true ∧ ox.dict = some dp ∧ (X39 X).lookup dp = some od ∧ findObj (X39 X) 156 (some od) "index" = some (.value (.int i tk))
/-- a class of rows -/
structure RowCls (X : Wk) (C : Addr) : Prop where
  sub : subIn (X39 X) (.ref C) (.type "tuple") = some true
  cls : ∃ oc od cd sl, (X39 X).lookup C = some ⟨oc, od, .cls cd, sl⟩
  ga : findIn (X39 X) (.ref C) "__getattribute__" = some (some (.builtin "tuple.__getattribute__"))
  gt : findIn (X39 X) (.ref C) "__getattr__" = some none

section
variable {X : Wk}
theorem desc_name : Desc X 220 0 := ⟨_, _, _, _, by rfl, rfl, rfl, rfl, by rfl, by rfl⟩
theorem desc_term : Desc X 223 1 := ⟨_, _, _, _, by rfl, rfl, rfl, rfl, by rfl, by rfl⟩
theorem desc_origin : Desc X 371 0 := ⟨_, _, _, _, by rfl, rfl, rfl, rfl, by rfl, by rfl⟩
theorem desc_expansion : Desc X 374 1 := ⟨_, _, _, _, by rfl, rfl, rfl, rfl, by rfl, by rfl⟩
theorem row_sym : RowCls X 228 := ⟨by rfl, ⟨_, _, _, _, by rfl⟩, by rfl, by rfl⟩
theorem row_rule : RowCls X 388 := ⟨by rfl, ⟨_, _, _, _, by rfl⟩, by rfl, by rfl⟩

theorem fc_typeOf {n : Nat} {C : Addr} {l : List PV} : FC X.toWd n (.type "type") [.row C l] fun d => d = .ptr C := fun A E s V vs hA H hv => by
  obtain ⟨v, r, rfl, h1, hv⟩ := vals_cons.mp hv
  have := vals_nil.mp hv
  subst this
  obtain ⟨a, m, od, ws, rfl, nr, ho, hw⟩ := val_row.mp h1
  exact call_typeOf (X := X) (row_type ho) ⟨Step.refl _ _, _, rfl, val_ptr.mpr rfl⟩

/-- what a name of the class is: a descriptor that takes stores, too -/
structure Field (X : Wk) (C : Addr) (name : Str) (p : Addr) : Prop where
  attr : findIn (X39 X) (.ref C) name = some (some (.ref p))
  get : specialIn (X39 X) (.ref p) "__get__" = some (some (.ref 139))
  takes : takesIn (X39 X) (.ref p) = some true
theorem row_find {C p : Addr} {h : Heap} {name : Str} (K0 : (X39 X).In h) (f : Field X C name p) (a : Addr) : Looks X.mo h (Builtin.ObjectAttr.find (.ref a) (.ref C) name) (.bind (.ref 139) (.ref p)) := by
  have L1 := looks_findIn (M := X.mo) K0 f.attr
  have L2 : Looks X.mo h (Builtin.ObjectAttr.getOf (some (.ref p))) (some (.ref 139)) := looks_specialIn K0 f.get
  have L3 := looks_takesIn (M := X.mo) K0 f.takes
  exact L1.andThen (L2.andThen ((show Looks X.mo h (Builtin.ObjectAttr.dataDescriptor? (some (.ref p)) (some (.ref 139))) (some (.ref 139, .ref p)) from L3.andThen .now).andThen (Looks.tag .now)))
theorem row_get {C a p : Addr} {od : Option Addr} {vs : Array Value} {n : Nat} {name : Str} {expr : Bool} {A : Around} {E : Value → Shared → Prop} {s : Shared} {V : Rgn} {Q : Value → Shared → Prop} (H : Hp X.toWd V s) (hC : RowCls X C) (ho : s.heap.get? a = some (rowO C od vs n))
    (hf : Field X C name p) (h : ∀ E', wpAny X.mo A.in1 (call (.ref 139) [.ref p, .ref a, .ref C]) (fun v s' => handedIn v = true ∧ Q v s') E' { s with toks := s.toks + 1 }) : wpAny X.mo A (getAttr (.ref a) name expr) Q E s := by
  have K0 := H.k39
  have L0 : Looks X.mo s.heap (typeOf (.ref a)) (.ref C) := row_type ho
  have L1 := row_find (X := X) K0 hf a
  unfold getAttr getAttrBy
  refine wpAny_bind (wpAny_mkText (wpAny_holding (wpAny_bind (L0 _ _ _ _ (fun _ _ e => e) (wpAny_bind (looks_findIn K0 hC.ga _ _ _ _ (fun _ _ e => e) ?_))))))
  dsimp only
  rw [show (Value.builtin "tuple.__getattribute__" == Value.builtin "object.__getattribute__") = false from by decide +kernel, Bool.and_false, if_neg Bool.false_ne_true]
  unfold getAttrByItsOwn
  refine wpAny_bind (looks_hook K0 (mc := .ref C) (r := none) hC.gt _ _ _ _ (fun _ _ e => e) (wpAny_bind (wpAny_attempt (wpAny_holding ?_))))
  unfold callGetattribute
  rw [show (expr && onTheHeap (Value.builtin "tuple.__getattribute__")) = false from Bool.and_false _, if_neg (by decide)]
  unfold boundAndCalled
  rw [F.slot_tuple_getattribute.bind]
  refine wpAny_bind (wpAny_pure ?_)
  show wpAny _ _ (call (.builtin "tuple.__getattribute__") [.ref a, .str name s.toks]) _ _ _
  refine call_row (X := X) (V := V) (s := { s with toks := s.toks + 1 }) ⟨H.keep, H.bnd, H.low⟩ hC.sub ho (nm := "__getattribute__") (by decide +kernel) (by decide +kernel) F.slot_tuple_getattribute.plain F.entry_tuple_ga (F.args_tuple_getattribute_2 _ _) ?_
  unfold Builtin.«object.__getattribute__»
  refine wpAny_bind (wpAny_pure (wpAny_bind (wpAny_pure (wpAny_bind (L0 _ _ _ _ (fun _ _ e => e) (wpAny_bind (L1 _ _ _ _ (fun _ _ e => e) ?_)))))))
  show wpAny _ _ (holding [.ref p] (call (.ref 139) [.ref p, .ref a, .ref C]) >>= ret) _ _ _
  refine wpAny_bind (wpAny_holding (wpAny_mono (h _) (fun v s' z => wpAny_pure ⟨v, rfl, ?_⟩) fun _ _ z => z))
  show wpAny _ _ (handedOut v) _ _ _
  rw [handedOut_of z.1]
  exact wpAny_pure z.2

section
variable {Y : Act} {q : Vw}
/-- not issubclass(type(obj), tuple) -/
theorem PT.notSub {C : Addr} {l : List PV} {p1 p2 p3 p4 p5 p6 p7 : Pos} {R : Bool → Prop} (hY : Y.toWd = X.toWd) (hC : RowCls X C) (fi : FnIs Y "issubclass" (.builtin "issubclass")) (ft : FnIs Y "type" (.type "type")) (fu : FnIs Y "tuple" (.type "tuple")) (ho : q.ρ "obj" = some (.fz (.row C l))) (hR : R false) :
    PT Y q (.UnaryOp .Not (.Call (.Name "issubclass" p1) [.Call (.Name "type" p2) [.Name "obj" p3] [] p4, .Name "tuple" p5] [] p6) p7) R := fun M V A E s hA G => by
  have hm : Y.mo = X.mo := congrArg Wd.mo hY
  refine wpAny_isTrue_Not (isTrue_plain (wpAny_Call_NameR (rd_fn G fi ?_)))
  refine callWith_of (P := fun h => Y.K.In h) (by rfl) (fun h hh => Callee.looks (X := Y.toWd) (.inr (.inr ⟨_, rfl⟩)) hh) ?_
  have hi : PE Y q (.Call (.Name "type" p2) [.Name "obj" p3] [] p4) fun d => d = .ptr C := PE.call ft (.inr (.inl ⟨_, rfl⟩)) (PE.name ho (by show FC Y.toWd _ _ _ _; rw [hY]; exact fc_typeOf))
  refine evalArgs_plain (spliced_cons (hi.use hA G fun v s₁ d hd hv st₁ G₁ => spliced_cons (rd_fn G₁ fu (spliced_nil ?_))))
  subst hd
  have := val_ptr.mp hv
  subst this
  refine ⟨G₁.hp.inK, ?_⟩
  obtain ⟨oc, od, cd, sl, hl⟩ := hC.cls
  rw [hm]
  refine call_issub (X := X) (hY ▸ G₁.hp) hC.sub hl ?_
  exact wpAny_truthy_bool ⟨st₁, hR⟩

/-- tuple.__getitem__(obj, self.index) -/
theorem PE.tget {C p : Addr} {i : Nat} {l : List PV} {d : PV} {p1 p2 p3 p4 p5 pos : Pos} {P : PV → Prop} (hY : Y.toWd = X.toWd) (hC : RowCls X C) (hD : Desc X p i) (hi : i < 100) (hd : l[i]? = some d) (hP : P d) (fu : FnIs Y "tuple" (.type "tuple")) (ho : q.ρ "obj" = some (.fz (.row C l))) (hs : q.ρ "self" = some (.fz (.ptr p)))
    (he : ∃ pl, eval (.Call (.Attribute (.Name "tuple" p1) "__getitem__" p2) [.Name "obj" p3, .Attribute (.Name "self" p4) "index" p5] [] pos) Y.env = (do
      let ov ← eval (.Name "tuple" p1) Y.env
      standAt p2.atName
      let (f, first) ← holding [ov] (getMethod ov "__getitem__" pl)
      callWith pos f first (backTo pos (starEach [.Name "obj" p3, .Attribute (.Name "self" p4) "index" p5] Y.env)) (backToKw pos (keywordEach [] Y.env)))) :
    PE Y q (.Call (.Attribute (.Name "tuple" p1) "__getitem__" p2) [.Name "obj" p3, .Attribute (.Name "self" p4) "index" p5] [] pos) P := fun M V A E s hA G => by
  have hm : Y.mo = X.mo := congrArg Wd.mo hY
  have hPP : Y.P = X.P := congrArg Wd.P hY
  obtain ⟨pl, he⟩ := he
  refine methodCall_KW (pl := pl) (rd_fn G fu ?_) he
  rw [hm]
  refine meth_tuple (X := X) (hY ▸ G.hp) ?_
  rw [← hm]
  have G₁ := G.toks (s.toks + 1)
  refine callWith_of (P := fun h => Y.K.In h) (by rfl) (fun h hh => Callee.looks (X := Y.toWd) (.inr (.inr ⟨_, rfl⟩)) hh) ?_
  obtain ⟨u, hu, hv⟩ := G₁.slots _ _ ho
  obtain ⟨u₂, hu₂, hv₂⟩ := G₁.slots _ _ hs
  have hv : Val Y.P V s.heap (.row C l) u := hv
  have hv₂ : Val Y.P V s.heap (.ptr p) u₂ := hv₂
  have := val_ptr.mp hv₂
  subst this
  obtain ⟨a, n, oe, ws, rfl, na, hob, hw⟩ := val_row.mp hv
  refine evalArgs_plain (spliced_cons (rd_name G₁ hu (spliced_cons (Attribute_Name_ (rd_name G₁ hu₂ ?_)))))
  have H : Hp X.toWd V { s with toks := s.toks + 1 } := hY ▸ G₁.hp
  have K0 := H.k39
  obtain ⟨ox, dp, od, tk, l1, l2, l3, l4, l5, l6⟩ := hD
  have I : InstAt ({ s with toks := s.toks + 1 } : Shared).heap p ox 156 (some od) := ⟨K0 _ _ l1, l2, l3, by rw [l4]; exact K0 _ _ l5⟩
  rw [hm]
  refine get_value (K := X39 X) K0 I (by rfl) l6 rfl (spliced_nil ?_)
  refine ⟨G.hp.inK, ?_⟩
  obtain ⟨v, hv', hx⟩ := hw.get hd
  rw [Array.getElem?_toList] at hv'
  have H₂ : Hp X.toWd V { s with toks := s.toks + 1 + 1 } := hY ▸ (G.toks (s.toks + 1 + 1)).hp
  exact call_rowitem (X := X) H₂ hC.sub hob hi hv' ⟨Step.toks, d, hP, hx⟩
end

/-- _tuplegetter.__get__ -/
theorem fc_tget {C p : Addr} {i : Nat} {l : List PV} {d : PV} (hC : RowCls X C) (hD : Desc X p i) (hi : i < 100) (hd : l[i]? = some d) : FC X.toWd 6 (.ref 139) [.ptr p, .row C l, .ptr C] fun d' => d' = d := by
  refine fc_enterD (n := 5) (by decide) (ds' := [.ptr p, .row C l, .ptr C]) (names := ["self", "obj", "objtype"]) (by rw [X.hK]; rfl) rfl rfl (fun s V vs H hv => ?_) rfl (by decide)
    (fun L x hx => by
      simp only [List.mem_cons, List.mem_singleton, List.not_mem_nil, or_false] at hx
      rcases hx with hx | hx | hx <;> subst hx <;> exact .inl (by rfl)) (by rw [X.hK]; rfl) rfl rfl rfl rfl rfl fun L V env he => ?_
  · obtain ⟨u, v, w, rfl⟩ := zip3 hv
    exact ⟨[u, v, w], binds_K (K := X39 X) H.k39 rfl (by rfl) rfl rfl rfl, hv⟩
  have hk := congrArg (fun e : Env => e.scope.names) he
  dsimp only [callEnvC, newEnv] at hk
  clear he
  have fi : FnIs (X.act env V 5 (by decide)) "issubclass" (.builtin "issubclass") := fnis_b (X := X) rfl (kd hk (by rfl)) (by rfl) (by rfl)
  have ft : FnIs (X.act env V 5 (by decide)) "type" (.type "type") := fnis_b (X := X) rfl (kd hk (by rfl)) (by rfl) (by rfl)
  have fu : FnIs (X.act env V 5 (by decide)) "tuple" (.type "tuple") := fnis_b (X := X) rfl (kd hk (by rfl)) (by rfl) (by rfl)
  have h1 : (q0 (look ((["self", "obj", "objtype"] : List Str).zip [.ptr p, .row C l, .ptr C]))).ρ "self" = some (.fz (.ptr p)) := q0_here (by rfl)
  have h2 : (q0 (look ((["self", "obj", "objtype"] : List Str).zip [.ptr p, .row C l, .ptr C]))).ρ "obj" = some (.fz (.row C l)) := q0_here (by rfl)
  generalize q0 (look ((["self", "obj", "objtype"] : List Str).zip [.ptr p, .row C l, .ptr C])) = q at h1 h2 ⊢
  refine PS.seq (PS1.if_ (PT.cmp (PE.name h2 (PE.cnone (op_isnone ⟨false, rfl, ?_⟩)))))
  refine ⟨(fun e => nomatch e), fun _ => PS.nil ⟨rfl, ?_⟩⟩
  refine PS.seq (PS1.if_ (PT.notSub (X := X) rfl hC fi ft fu h2 ?_))
  refine ⟨(fun e => nomatch e), fun _ => PS.nil ⟨rfl, ?_⟩⟩
  exact PS.ret (PE.tget (X := X) rfl hC hD hi hd rfl fu h2 h1 ⟨_, rfl⟩)

/-- x.name, a field of a row -/
theorem PE.attr {Y : Act} {q : Vw} {C p : Addr} {i : Nat} {x name : Str} {px pos : Pos} {P : PV → Prop} (hY : Y.toWd = X.toWd) (hn : 7 ≤ Y.n) (hC : RowCls X C) (hD : Desc X p i) (hi : i < 100) (hf : Field X C name p)
    (h : PE Y q (.Name x px) fun d => ∃ l d', d = .row C l ∧ l[i]? = some d' ∧ P d') : PE Y q (.Attribute (.Name x px) name pos) P := fun M V A E s hA G => by
  have hm : Y.mo = X.mo := congrArg Wd.mo hY
  have hPP : Y.P = X.P := congrArg Wd.P hY
  refine Attribute_Name_ (h.use hA G fun v s₁ d hd hv st₁ G₁ => ?_)
  obtain ⟨l, d', rfl, hl, hP⟩ := hd
  obtain ⟨a, n, od, ws, rfl, na, ho, hw⟩ := val_row.mp hv
  have H : Hp X.toWd V s₁ := hY ▸ G₁.hp
  rw [hm]
  have cl : ∃ oc od cd sl, (X39 X).lookup C = some ⟨oc, od, .cls cd, sl⟩ := hC.cls
  refine row_get (X := X) (V := V) H hC ho hf fun E' => ?_
  have hd : (X39 X).lookup p ≠ none := by obtain ⟨ox, dp, od, tk, l1, _⟩ := hD; rw [l1]; exact fun e => nomatch e
  have hv' : Val X.P V s₁.heap (.row C l) (.ref a) := hPP ▸ hv
  refine wpAny_mono (fc_tget (X := X) hC hD hi hl A.in1 E' { s₁ with toks := s₁.toks + 1 } V [.ref p, .ref a, .ref C] ((hA.mono hn).in1.mono (by decide)) ⟨H.keep, H.bnd, H.low⟩ ?_) (fun v s' z => ?_) fun _ _ z => z
  · rw [vals_cons', vals_cons', vals_cons', vals_nil]
    exact ⟨val_ptr.mpr rfl, hv', val_ptr.mpr rfl, rfl⟩
  · obtain ⟨st, d₂, rfl, hx⟩ := z
    exact ⟨val_handed hx, st₁.trans (Step.toks.trans st), d₂, hP, hPP ▸ hx⟩
end
end Mine
namespace Mine
open PySem PySem.W PySem.Calls PyProof.Rows

section
variable {Y : Act} {q : Vw} {n : Nat}
open Classical in
/-- x not in y, where y is a list that grows -/
theorem PT.notinM {e : Expr} {y : Str} {py pos : Pos} {l : List PV} {R : Bool → Prop} (hn : n + 1 ≤ Y.n) (hy : q.ρ y = some (.mt (.list l))) (hl : ∀ x ∈ l, Flat x)
    (h : PE Y q e fun d => Flat d ∧ (∀ x ∈ l, EqOk Y.toWd n x d (decide (x = d))) ∧ R (!decide (d ∈ l)))
    (hd1 : (y == ("__debug__" : Str)) = false := by decide) (hc1 : (y == ("__classdict__" : Str)) = false := by decide) : PT Y q (.Compare e [.NotIn] [.Name y py] pos) R := fun M V A E s hA G => by
  refine wpAny_isTrue_Compare1 (h.use hA G fun v s₁ d hd hv st₁ G₁ => ?_) (by rfl)
  obtain ⟨u, hu, r, rfl, hM, ho, hU, hS, ht⟩ := G₁.slots y _ hy
  refine rd_name G₁ hu ?_ hd1 hc1
  have hV' : ∀ b, (V b ∧ b ≠ r) → V b := fun b w => w.1
  have ht' : Top Y.P (fun b => V b ∧ b ≠ r) s₁.heap (.list l) r := Top.at (V := V) (fun b o n e => ⟨fun w => n w.1, e⟩) ht fun o e => e
  have hlv : Val Y.P (fun b => V b ∧ b ≠ r) s₁.heap (.list l) (.ref r) := ht'.val (fun w => w.2 rfl) (G₁.hp.nosys (G₁.mv _ hM))
  refine wpAny_mono (op_notin (P := fun d' => d' = .bool (!decide (d ∈ l))) (.inl rfl) hd.1 hl hd.2.1 rfl A E s₁ _ v (.ref r) (hA.mono hn) (G₁.hp.less hV') (hv.less hV') hlv) (fun v s₂ z => ?_) fun _ _ z => z
  obtain ⟨st₂, d', rfl, hb⟩ := z
  have := val_bool.mp hb
  subst this
  exact wpAny_truthy_bool ⟨st₁.trans st₂, hd.2.2⟩
end

theorem sKey_flat (k : SK) : Flat (sKey k) := by
  show ∀ x ∈ [PV.str k.1, PV.bool k.2], Atom x
  intro x hx
  simp only [List.mem_cons, List.not_mem_nil, or_false] at hx
  rcases hx with rfl | rfl <;> trivial
open Classical in
theorem eqok_key {X : Wk} {n : Nat} (k k' : SK) : EqOk X.toWd n (sKey k) (sKey k') (decide (sKey k = sKey k')) := eqok_sym k.1 k'.1 k.2 k'.2

theorem nodup_of_map {l : List SK} : (l.map sKey).Nodup → l.Nodup := by
  induction l with
  | nil => simp
  | cons a l ih =>
    intro h
    rw [List.map_cons, List.nodup_cons] at h
    rw [List.nodup_cons]
    exact ⟨fun w => h.1 (List.mem_map.mpr ⟨a, w, rfl⟩), ih h.2⟩
def IsDedup (l : List SK) (d : PV) : Prop := ∃ S : List SK, d = .list (S.map sKey) ∧ S.Nodup ∧ ∀ k, k ∈ S ↔ k ∈ l
theorem dedup_of (l : List SK) : IsDedup l (.list (addAll [] (l.map sKey))) := by
  obtain ⟨S, hS⟩ := syms_map (addAll_sym (ks := []) (l := l) (by simp))
  refine ⟨S, by rw [hS], ?_, fun k => ?_⟩
  · have := nodup_addAll (ks := []) (l := l.map sKey) List.nodup_nil
    rw [hS] at this
    exact nodup_of_map this
  · have := mem_addAll (ks := []) (l := l.map sKey) (x := sKey k)
    rw [hS] at this
    constructor
    · intro h
      rcases this.mp (List.mem_map.mpr ⟨k, h, rfl⟩) with w | w
      · cases w
      · obtain ⟨k', hk', e⟩ := List.mem_map.mp w; exact sKey_inj e ▸ hk'
    · intro h
      obtain ⟨k', hk', e⟩ := List.mem_map.mp (this.mpr (.inr (List.mem_map.mpr ⟨k, h, rfl⟩)))
      exact sKey_inj e ▸ hk'

open Classical in
theorem fc_dedup {X : Wk} (l : List SK) (hz : l.length ≤ 4000) : FC X.toWd 12 (.ref 28) [.list (l.map sKey)] (IsDedup l) := by
  refine fc_enter (n := 11) (by decide) (names := ["l"]) (by rw [X.hK]; rfl) rfl rfl (fun vals hv => match vals, hv with | [a], _ => rfl) rfl (by decide)
    (fun L x hx => by simp only [List.mem_singleton] at hx; subst hx; exact .inl (by rfl)) (by rw [X.hK]; rfl) rfl rfl rfl rfl rfl fun L V env he => ?_
  have hk := congrArg (fun e : Env => e.scope.names) he
  dsimp only [callEnvC, newEnv] at hk
  have hi : interactive env = false := by rw [he]; rfl
  clear he
  have loc : ∀ {x : Str}, env.kindOf x = some .local → Storable (X.act env V 11 (by decide)) x := fun h => .inl h
  have h1 : (q0 (look ((["l"] : List Str).zip [.list (l.map sKey)]))).ρ "l" = some (.fz (.list (l.map sKey))) := q0_here (by rfl)
  generalize q0 (look ((["l"] : List Str).zip [.list (l.map sKey)])) = q at h1 ⊢
  refine PS.seq (PS1.expr (PE.cstr ⟨rfl, ?_⟩) hi (by rfl))
  refine PS.seq (PS1.new (loc (kd hk (by rfl))) (.list _) ⟨rfl, ?_⟩ (by rfl))
  refine PS.cons (Ψ := fun f q' => f = .next ∧ q'.ρ "found" = some (.mt (.list (addAll [] (l.map sKey))))) (PS1.for_ (nm := .seq) (R := fun l' => l' = l.map sKey) (IterE.seq (PE.name (set_there h1) ⟨tList, _, rfl, .inl rfl, rfl⟩)) (.inl ⟨by decide, _, _, rfl⟩) ?_)
    (fun q' h => PS.freeze h.2 (PS.ret (PE.name set_here (dedup_of l)))) fun f q' hne h => absurd h.1 hne
  rintro _ rfl
  refine ⟨fun i q' => q'.ρ "found" = some (.mt (.list (addAll [] ((l.map sKey).take i)))), set_here, ?_, fun q' h => ⟨rfl, by rw [h, List.take_length]⟩⟩
  intro i q' d hd hq
  refine ⟨_, PA.name (loc (kd hk (by rfl))), ?_⟩
  have hq₁ := set_there (x := "one") (sl := .fz d) hq (by decide)
  have hone : (q'.set "one" (.fz d)).ρ "one" = some (.fz d) := set_here
  generalize q'.set "one" (.fz d) = q' at hq₁ hone ⊢
  obtain ⟨k, hk', rfl⟩ := List.mem_map.mp (List.mem_of_getElem? hd)
  have hsym : ∀ x ∈ addAll [] ((l.map sKey).take i), ∃ k, x = sKey k := fun x hx => by
    rcases mem_addAll.mp hx with w | w
    · cases w
    · obtain ⟨k, _, rfl⟩ := List.mem_map.mp (List.mem_of_mem_take w); exact ⟨k, rfl⟩
  have hlen : (addAll [] ((l.map sKey).take i)).length ≤ 4096 := by
    have := (len_addAll (ks := []) (l := (l.map sKey).take i)).2.1
    have h2 : ((l.map sKey).take i).length ≤ l.length := by rw [List.length_take, List.length_map]; exact Nat.min_le_right _ _
    simp only [List.length_nil] at this
    omega
  have next : ∀ q'' : Vw, q''.ρ "found" = some (.mt (.list (add1 (addAll [] ((l.map sKey).take i)) (sKey k)))) → q''.ρ "found" = some (.mt (.list (addAll [] ((l.map sKey).take (i + 1))))) := fun q'' h => by
    rw [h, take_succ_get _ _ _ hd, addAll_snoc]
  refine PS.cons (Ψ := fun f q'' => f = .next ∧ q''.ρ "found" = some (.mt (.list (addAll [] ((l.map sKey).take (i + 1)))))) (PS1.if_ (PT.notinM (n := 4) (by show 5 ≤ 11; decide) hq₁ (fun x hx => by obtain ⟨k, rfl⟩ := hsym x hx; exact sKey_flat k)
    (PE.name hone ⟨sKey_flat k, fun x hx => by obtain ⟨k', rfl⟩ := hsym x hx; exact eqok_key (X := X) k' k, ?_⟩))) (fun q'' h => PS.nil h.2) fun f q'' hne h => absurd h.1 hne
  constructor
  · intro hb
    have hnm : sKey k ∉ addAll [] ((l.map sKey).take i) := by simpa using hb
    refine PS.seq (PS1.append hq₁ hlen (PE.name hone ⟨rfl, PS.nil ⟨rfl, next _ ?_⟩⟩) (by rfl) (by rfl) (by rfl) (by rfl) hi)
    rw [set_here, add1, if_neg hnm]
  · intro hb
    have hm : sKey k ∈ addAll [] ((l.map sKey).take i) := by simpa using hb
    refine PS.nil ⟨rfl, next _ ?_⟩
    rw [hq₁, add1, if_pos hm]
end Mine
namespace Mine
open PySem PySem.W PySem.Calls PyProof.Rows

/-- a rule of symbols -/
abbrev KR := SK × List SK
def Occ (R : List KR) (k : SK) : Prop := (∃ r ∈ R, k ∈ r.2) ∨ ∃ r ∈ R, k = r.1
inductive NulK (R : List KR) : SK → Prop
  | mk (r : KR) (h : r ∈ R) (hx : ∀ x ∈ r.2, NulK R x) : NulK R r.1
inductive FirK (R : List KR) : SK → SK → Prop
  | term (k : SK) (h : k.2 = true) (ho : Occ R k) : FirK R k k
  | step (r : KR) (h : r ∈ R) (i : Nat) (x t : SK) (hx : r.2[i]? = some x) (hn : ∀ y ∈ r.2.take i, NulK R y) (ht : FirK R x t) : FirK R r.1 t
inductive FolK (R : List KR) : SK → SK → Prop
  | last (r : KR) (h : r ∈ R) (i : Nat) (x t : SK) (hx : r.2[i]? = some x) (hn : ∀ y ∈ r.2.drop (i + 1), NulK R y) (ht : FolK R r.1 t) : FolK R x t
  | beside (r : KR) (h : r ∈ R) (i j : Nat) (x y t : SK) (hx : r.2[i]? = some x) (hij : i < j) (hy : r.2[j]? = some y) (hn : ∀ z ∈ (r.2.take j).drop (i + 1), NulK R z) (ht : FirK R y t) : FolK R x t
theorem NulK.occ {R : List KR} {k : SK} : NulK R k → Occ R k
  | .mk r h _ => .inr ⟨r, h, rfl⟩
theorem FirK.occ {R : List KR} {k t : SK} (h : FirK R k t) : Occ R t := by
  induction h with
  | term k h ho => exact ho
  | step r h i x t hx hn ht ih => exact ih
theorem FolK.occ {R : List KR} {k t : SK} (h : FolK R k t) : Occ R t := by
  induction h with
  | last r h i x t hx hn ht ih => exact ih
  | beside r h i j x y t hx hij hy hn ht => exact ht.occ

theorem ky_nf {d : PV} : Ky.nul ≠ .fst d := fun e => nomatch e
theorem ky_nl {d : PV} : Ky.nul ≠ .fol d := fun e => nomatch e
theorem ky_fn {d : PV} : Ky.fst d ≠ .nul := fun e => nomatch e
theorem ky_ln {d : PV} : Ky.fol d ≠ .nul := fun e => nomatch e
theorem ky_fl {d d' : PV} : Ky.fst d ≠ .fol d' := fun e => nomatch e
theorem ky_lf {d d' : PV} : Ky.fol d ≠ .fst d' := fun e => nomatch e
structure Sound (R : List KR) (ct : Cts) : Prop where
  nul : ∀ x ∈ ct .nul, ∃ k, x = sKey k ∧ NulK R k
  fst : ∀ k, ∀ x ∈ ct (.fst (sKey k)), ∃ t, x = sKey t ∧ FirK R k t
  fol : ∀ k, ∀ x ∈ ct (.fol (sKey k)), ∃ t, x = sKey t ∧ FolK R k t

theorem ctSet_nul {ct : Cts} {k : Ky} {ks : List PV} (h : k ≠ .nul) : ctSet ct k ks .nul = ct .nul := ctSet_ne fun e => h e.symm
theorem Sound.addNul {R : List KR} {ct : Cts} {l : List SK} (s : Sound R ct) (hl : ∀ k ∈ l, NulK R k) : Sound R (ctSet ct .nul (addAll (ct .nul) (l.map sKey))) := by
  refine ⟨fun x hx => ?_, fun k x hx => ?_, fun k x hx => ?_⟩
  · rw [ctSet_self, mem_addAll] at hx
    rcases hx with hx | hx
    · exact s.nul x hx
    · obtain ⟨k, hk, rfl⟩ := List.mem_map.mp hx; exact ⟨k, rfl, hl k hk⟩
  · rw [ctSet_ne ky_fn] at hx; exact s.fst k x hx
  · rw [ctSet_ne ky_ln] at hx; exact s.fol k x hx
theorem Sound.addFst {R : List KR} {ct : Cts} {k₀ : SK} {l : List SK} (s : Sound R ct) (hl : ∀ t ∈ l, FirK R k₀ t) : Sound R (ctSet ct (.fst (sKey k₀)) (addAll (ct (.fst (sKey k₀))) (l.map sKey))) := by
  refine ⟨fun x hx => ?_, fun k x hx => ?_, fun k x hx => ?_⟩
  · rw [ctSet_ne ky_nf] at hx; exact s.nul x hx
  · by_cases q : Ky.fst (sKey k) = .fst (sKey k₀)
    · rw [q, ctSet_self, mem_addAll] at hx
      have e : k = k₀ := sKey_inj (Ky.fst.inj q)
      subst e
      rcases hx with hx | hx
      · exact s.fst k x hx
      · obtain ⟨k', hk, rfl⟩ := List.mem_map.mp hx; exact ⟨k', rfl, hl k' hk⟩
    · rw [ctSet_ne q] at hx; exact s.fst k x hx
  · rw [ctSet_ne ky_lf] at hx; exact s.fol k x hx
theorem Sound.addFol {R : List KR} {ct : Cts} {k₀ : SK} {l : List SK} (s : Sound R ct) (hl : ∀ t ∈ l, FolK R k₀ t) : Sound R (ctSet ct (.fol (sKey k₀)) (addAll (ct (.fol (sKey k₀))) (l.map sKey))) := by
  refine ⟨fun x hx => ?_, fun k x hx => ?_, fun k x hx => ?_⟩
  · rw [ctSet_ne ky_nl] at hx; exact s.nul x hx
  · rw [ctSet_ne ky_fl] at hx; exact s.fst k x hx
  · by_cases q : Ky.fol (sKey k) = .fol (sKey k₀)
    · rw [q, ctSet_self, mem_addAll] at hx
      have e : k = k₀ := sKey_inj (Ky.fol.inj q)
      subst e
      rcases hx with hx | hx
      · exact s.fol k x hx
      · obtain ⟨k', hk, rfl⟩ := List.mem_map.mp hx; exact ⟨k', rfl, hl k' hk⟩
    · rw [ctSet_ne q] at hx; exact s.fol k x hx

/-- the sets that there are -/
def keysOf (S : List SK) : List Ky := .nul :: (S.map (fun k => .fst (sKey k)) ++ S.map fun k => .fol (sKey k))
def sz (S : List SK) (ct : Cts) : Nat := ((keysOf S).map fun k => (ct k).length).sum
theorem sum_le {α : Type} (l : List α) (f g : α → Nat) (h : ∀ x ∈ l, f x ≤ g x) : (l.map f).sum ≤ (l.map g).sum := by
  induction l with
  | nil => simp
  | cons a l ih =>
    simp only [List.map_cons, List.sum_cons]
    have := h a List.mem_cons_self
    have := ih fun x hx => h x (List.mem_cons_of_mem _ hx)
    omega
theorem sum_lt {α : Type} (l : List α) (f g : α → Nat) (h : ∀ x ∈ l, f x ≤ g x) {a : α} (ha : a ∈ l) (hlt : f a < g a) : (l.map f).sum < (l.map g).sum := by
  induction l with
  | nil => cases ha
  | cons b l ih =>
    simp only [List.map_cons, List.sum_cons]
    have h1 := h b List.mem_cons_self
    have h2 := sum_le l f g fun x hx => h x (List.mem_cons_of_mem _ hx)
    rcases List.mem_cons.mp ha with rfl | ha
    · omega
    · have := ih (fun x hx => h x (List.mem_cons_of_mem _ hx)) ha
      omega
theorem sum_const {α : Type} (l : List α) (f : α → Nat) (B : Nat) (h : ∀ x ∈ l, f x ≤ B) : (l.map f).sum ≤ l.length * B := by
  induction l with
  | nil => simp
  | cons a l ih =>
    simp only [List.map_cons, List.sum_cons, List.length_cons]
    have := h a List.mem_cons_self
    have := ih fun x hx => h x (List.mem_cons_of_mem _ hx)
    rw [Nat.succ_mul]; omega
theorem len_set {ct : Cts} {k : Ky} {l : List PV} (k' : Ky) : (ct k').length ≤ (ctSet ct k (addAll (ct k) l) k').length := by
  by_cases q : k' = k
  · subst q; rw [ctSet_self]; exact len_addAll.1
  · rw [ctSet_ne q]; exact Nat.le_refl _
theorem sz_grow {S : List SK} {ct : Cts} {k : Ky} {l : List PV} (hk : k ∈ keysOf S) (h : (addAll (ct k) l).length ≠ (ct k).length) : sz S ct < sz S (ctSet ct k (addAll (ct k) l)) := by
  refine sum_lt _ _ _ (fun k' _ => len_set k') hk ?_
  rw [ctSet_self]
  have := (len_addAll (ks := ct k) (l := l)).1
  omega
theorem set_same {ct : Cts} {k : Ky} {l : List PV} (h : (addAll (ct k) l).length = (ct k).length) : ctSet ct k (addAll (ct k) l) = ct ∧ ∀ x ∈ l, x ∈ ct k := by
  have hl := (len_addAll (ks := ct k) (l := l)).2.2 h
  refine ⟨?_, hl⟩
  rw [addAll_same hl]
  funext k'
  by_cases q : k' = k
  · subst q; rw [ctSet_self]
  · rw [ctSet_ne q]
theorem nodup_lenPV : ∀ (l k : List PV), l.Nodup → (∀ x ∈ l, x ∈ k) → l.length ≤ k.length
  | [], _, _, _ => Nat.zero_le _
  | a :: l, k, hn, hs => by
    classical
    have ha := hs a List.mem_cons_self
    have hn' := List.nodup_cons.mp hn
    obtain ⟨s, t, rfl⟩ := List.append_of_mem ha
    have := nodup_lenPV l (s ++ t) hn'.2 fun x hx => by
      have hx' := hs x (List.mem_cons_of_mem _ hx)
      have hne : x ≠ a := fun e => hn'.1 (e ▸ hx)
      simp only [List.mem_append, List.mem_cons] at hx' ⊢
      rcases hx' with h | h | h
      · exact .inl h
      · exact absurd h hne
      · exact .inr h
    simp at this ⊢; omega
theorem sz_bound {R : List KR} {S : List SK} {ct : Cts} (hS : ∀ k, k ∈ S ↔ Occ R k) (s : Sound R ct) (hn : ∀ k ∈ keysOf S, (ct k).Nodup) : sz S ct ≤ (keysOf S).length * S.length := by
  refine sum_const _ _ _ fun k hk => ?_
  have : ∀ x ∈ ct k, x ∈ S.map sKey := fun x hx => by
    rcases List.mem_cons.mp hk with rfl | hk'
    · obtain ⟨k, rfl, h⟩ := s.nul x hx; exact List.mem_map.mpr ⟨k, (hS k).mpr h.occ, rfl⟩
    · rcases List.mem_append.mp hk' with hk' | hk'
      · obtain ⟨k', _, rfl⟩ := List.mem_map.mp hk'
        obtain ⟨t, rfl, h⟩ := s.fst k' x hx; exact List.mem_map.mpr ⟨t, (hS t).mpr h.occ, rfl⟩
      · obtain ⟨k', _, rfl⟩ := List.mem_map.mp hk'
        obtain ⟨t, rfl, h⟩ := s.fol k' x hx; exact List.mem_map.mpr ⟨t, (hS t).mpr h.occ, rfl⟩
  have h2 := nodup_lenPV _ _ (hn k hk) this
  rwa [List.length_map] at h2

/-- nothing more comes: the first loop -/
structure Closed1 (R : List KR) (S : List SK) (ct : Cts) : Prop where
  nul : ∀ r ∈ R, (∀ x ∈ r.2, sKey x ∈ ct .nul) → sKey r.1 ∈ ct .nul
  fst : ∀ r ∈ R, ∀ i x, r.2[i]? = some x → (∀ y ∈ r.2.take i, sKey y ∈ ct .nul) → ∀ t ∈ ct (.fst (sKey x)), t ∈ ct (.fst (sKey r.1))
  term : ∀ k ∈ S, k.2 = true → sKey k ∈ ct (.fst (sKey k))
structure Exact1 (R : List KR) (ct : Cts) : Prop where
  nul : ∀ k, sKey k ∈ ct .nul ↔ NulK R k
  fst : ∀ k t, sKey t ∈ ct (.fst (sKey k)) ↔ FirK R k t
theorem exact1 {R : List KR} {S : List SK} {ct : Cts} (hS : ∀ k, k ∈ S ↔ Occ R k) (s : Sound R ct) (c : Closed1 R S ct) : Exact1 R ct := by
  have hn : ∀ k, NulK R k → sKey k ∈ ct .nul := fun k h => by
    induction h with
    | mk r h hx ih => exact c.nul r h ih
  refine ⟨fun k => ⟨fun h => ?_, hn k⟩, fun k t => ⟨fun h => ?_, fun h => ?_⟩⟩
  · obtain ⟨k', e, h'⟩ := s.nul _ h; exact sKey_inj e ▸ h'
  · obtain ⟨t', e, h'⟩ := s.fst k _ h; exact sKey_inj e ▸ h'
  · induction h with
    | term k h ho => exact c.term k ((hS k).mpr ho) h
    | step r h i x t hx hn' ht ih => exact c.fst r h i x hx (fun y hy => hn y (hn' y hy)) _ ih
structure Closed2 (R : List KR) (ct : Cts) : Prop where
  last : ∀ r ∈ R, ∀ i x, r.2[i]? = some x → (∀ y ∈ r.2.drop (i + 1), sKey y ∈ ct .nul) → ∀ t ∈ ct (.fol (sKey r.1)), t ∈ ct (.fol (sKey x))
  beside : ∀ r ∈ R, ∀ i j x y, r.2[i]? = some x → i < j → r.2[j]? = some y → (∀ z ∈ (r.2.take j).drop (i + 1), sKey z ∈ ct .nul) → ∀ t ∈ ct (.fst (sKey y)), t ∈ ct (.fol (sKey x))
structure Exact (R : List KR) (ct : Cts) : Prop extends Exact1 R ct where
  fol : ∀ k t, sKey t ∈ ct (.fol (sKey k)) ↔ FolK R k t
theorem exact2 {R : List KR} {ct : Cts} (s : Sound R ct) (e1 : Exact1 R ct) (c : Closed2 R ct) : Exact R ct := by
  refine ⟨e1, fun k t => ⟨fun h => ?_, fun h => ?_⟩⟩
  · obtain ⟨t', e, h'⟩ := s.fol k _ h; exact sKey_inj e ▸ h'
  · induction h with
    | last r h i x t hx hn ht ih => exact c.last r h i x hx (fun y hy => (e1.nul y).mpr (hn y hy)) _ ih
    | beside r h i j x y t hx hij hy hn ht => exact c.beside r h i j x y hx hij hy (fun z hz => (e1.nul z).mpr (hn z hz)) _ ((e1.fst y t).mpr ht)

/-- one pass over the rules, as far as it has come -/
structure Pass (R : List KR) (S : List SK) (os : Sto) (ct₀ ct : Cts) (ch : Bool) : Prop where
  same : ch = false → ct = ct₀
  more : ch = true → sz S ct₀ < sz S ct
  sound : Sound R ct
  ok : StoOk os ct
  mono : ∀ k x, x ∈ ct₀ k → x ∈ ct k
theorem Pass.start {R : List KR} {S : List SK} {os : Sto} {ct : Cts} (s : Sound R ct) (o : StoOk os ct) : Pass R S os ct ct false := ⟨fun _ => rfl, (fun e => nomatch e), s, o, fun _ _ h => h⟩
theorem Pass.up {R : List KR} {S : List SK} {os : Sto} {ct₀ ct : Cts} {ch : Bool} {k : Ky} {o : OS} {l : List SK} (p : Pass R S os ct₀ ct ch) (hk : k ∈ keysOf S) (ho : os k = some o) (hs : Sound R (ctSet ct k (addAll (ct k) (l.map sKey))))
    (h : (addAll (ct k) (l.map sKey)).length ≠ (ct k).length) : Pass R S os ct₀ (ctSet ct k (addAll (ct k) (l.map sKey))) true := by
  refine ⟨(fun e => nomatch e), fun _ => ?_, hs, p.ok.set ho, fun k' x hx => ?_⟩
  rotate_left
  · by_cases q : k' = k
    · subst q; rw [ctSet_self]; exact mem_addAll.mpr (.inl (p.mono _ _ hx))
    · rw [ctSet_ne q]; exact p.mono _ _ hx
  have := sz_grow (l := l.map sKey) hk h
  cases ch with
  | false => rw [← p.same rfl]; exact this
  | true => exact Nat.lt_trans (p.more rfl) this
end Mine
namespace Mine
open PySem PySem.W PySem.Calls PyProof.Rows

/-- a rule, as it is given -/
structure CR where
  k : KR
  x : PV
  y : PV
  z : PV
def encQ (c : CR) : PV := .row 388 [sKey c.k.1, .tup (c.k.2.map sKey), c.x, c.y, c.z]
def encQs (Rc : List CR) : PV := .list (Rc.map encQ)
def ksOf (Rc : List CR) : List KR := Rc.map (·.k)
def pt (os : Sto) (k : Ky) : PV := match os k with | some o => .ptr o.a | none => .none
theorem pt_some {os : Sto} {k : Ky} {o : OS} (h : os k = some o) : pt os k = .ptr o.a := by unfold pt; rw [h]
def rset (ρ : Str → Option Slot) (x : Str) (sl : Slot) : Str → Option Slot := fun y => if y = x then some sl else ρ y
theorem rset_here {ρ : Str → Option Slot} {x : Str} {sl : Slot} : rset ρ x sl x = some sl := if_pos rfl
theorem rset_there {ρ : Str → Option Slot} {x y : Str} {sl : Slot} {r : Option Slot} (h : ρ y = r) (hn : ¬ y = x := by decide) : rset ρ x sl y = r := (if_neg hn).trans h
theorem stoV_set {P : Params} {os : Sto} {ct : Cts} {ρ : Str → Option Slot} {x : Str} {sl : Slot} : (stoV P os ct ρ).set x sl = stoV P os ct (rset ρ x sl) := rfl

/-- the names that stay -/
structure Base (Rc : List CR) (S : List SK) (os : Sto) (ρ : Str → Option Slot) : Prop where
  rules : ρ "rules" = some (.fz (encQs Rc))
  nul : ∃ o, os .nul = some o ∧ ρ "NULLABLE" = some (.fz (.ptr o.a))
  fst : ρ "FIRST" = some (.fz (.dict (S.map sKey) (S.map fun k => pt os (.fst (sKey k)))))
  fol : ρ "FOLLOW" = some (.fz (.dict (S.map sKey) (S.map fun k => pt os (.fol (sKey k)))))
def others : List Str := ["rules", "NULLABLE", "FIRST", "FOLLOW", "changed"]
theorem Base.set {Rc : List CR} {S : List SK} {os : Sto} {ρ : Str → Option Slot} {x : Str} {sl : Slot} (b : Base Rc S os ρ) (h : x ∉ (["rules", "NULLABLE", "FIRST", "FOLLOW"] : List Str)) : Base Rc S os (rset ρ x sl) := by
  simp only [List.mem_cons, List.not_mem_nil, or_false, not_or] at h
  obtain ⟨h1, h2, h3, h4⟩ := h
  obtain ⟨o, ho, hn⟩ := b.nul
  exact ⟨rset_there b.rules fun e => h1 e.symm, ⟨o, ho, rset_there hn fun e => h2 e.symm⟩, rset_there b.fst fun e => h3 e.symm, rset_there b.fol fun e => h4 e.symm⟩
structure St (Rc : List CR) (S : List SK) (os : Sto) (ct₀ : Cts) (ct : Cts) (ch : Bool) (ρ : Str → Option Slot) : Prop where
  base : Base Rc S os ρ
  chg : ρ "changed" = some (.fz (.bool ch))
  pass : Pass (ksOf Rc) S os ct₀ ct ch
theorem St.set {Rc : List CR} {S : List SK} {os : Sto} {ct₀ ct : Cts} {ch : Bool} {ρ : Str → Option Slot} {x : Str} {sl : Slot} (s : St Rc S os ct₀ ct ch ρ) (h : x ∉ others := by decide) : St Rc S os ct₀ ct ch (rset ρ x sl) := by
  simp only [others, List.mem_cons, List.not_mem_nil, or_false, not_or] at h
  exact ⟨s.base.set (by simp only [List.mem_cons, List.not_mem_nil, or_false, not_or]; exact ⟨h.1, h.2.1, h.2.2.1, h.2.2.2.1⟩), rset_there s.chg fun e => h.2.2.2.2 e.symm, s.pass⟩

/-- what is known of the symbols and their sets -/
structure Syms (Rc : List CR) (S : List SK) (os : Sto) : Prop where
  nd : S.Nodup
  mem : ∀ k, k ∈ S ↔ Occ (ksOf Rc) k
  len : S.length ≤ 1000
  has : ∀ k ∈ keysOf S, ∃ o, os k = some o
theorem mapKey_nodup {S : List SK} (h : S.Nodup) : (S.map sKey).Nodup := by
  induction S with
  | nil => simp
  | cons a l ih =>
    rw [List.nodup_cons] at h
    rw [List.map_cons, List.nodup_cons]
    exact ⟨fun w => by obtain ⟨b, hb, e⟩ := List.mem_map.mp w; exact h.1 (sKey_inj e ▸ hb), ih h.2⟩
theorem mapKey_ok {S : List SK} : ∀ x ∈ S.map sKey, isSymPV x := fun x hx => by obtain ⟨k, _, rfl⟩ := List.mem_map.mp hx; exact ⟨k, rfl⟩
theorem key_fst {S : List SK} {k : SK} (h : k ∈ S) : Ky.fst (sKey k) ∈ keysOf S := List.mem_cons_of_mem _ (List.mem_append_left _ (List.mem_map.mpr ⟨k, h, rfl⟩))
theorem key_fol {S : List SK} {k : SK} (h : k ∈ S) : Ky.fol (sKey k) ∈ keysOf S := List.mem_cons_of_mem _ (List.mem_append_right _ (List.mem_map.mpr ⟨k, h, rfl⟩))
theorem key_nul {S : List SK} : Ky.nul ∈ keysOf S := List.mem_cons_self
theorem ct_sub {Rc : List CR} {S : List SK} {os : Sto} {ct : Cts} (sy : Syms Rc S os) (s : Sound (ksOf Rc) ct) {k : Ky} (hk : k ∈ keysOf S) : ∀ x ∈ ct k, x ∈ S.map sKey := fun x hx => by
  rcases List.mem_cons.mp hk with rfl | hk'
  · obtain ⟨k, rfl, h⟩ := s.nul x hx; exact List.mem_map.mpr ⟨k, (sy.mem k).mpr h.occ, rfl⟩
  · rcases List.mem_append.mp hk' with hk' | hk'
    · obtain ⟨k', _, rfl⟩ := List.mem_map.mp hk'
      obtain ⟨t, rfl, h⟩ := s.fst k' x hx; exact List.mem_map.mpr ⟨t, (sy.mem t).mpr h.occ, rfl⟩
    · obtain ⟨k', _, rfl⟩ := List.mem_map.mp hk'
      obtain ⟨t, rfl, h⟩ := s.fol k' x hx; exact List.mem_map.mpr ⟨t, (sy.mem t).mpr h.occ, rfl⟩
theorem ct_len {Rc : List CR} {S : List SK} {os : Sto} {ct : Cts} (sy : Syms Rc S os) (s : Sound (ksOf Rc) ct) (ok : StoOk os ct) {k : Ky} (hk : k ∈ keysOf S) : (ct k).length ≤ S.length := by
  obtain ⟨o, ho⟩ := sy.has k hk
  have := nodup_lenPV _ _ (ok.nd k o ho) (ct_sub sy s hk)
  rwa [List.length_map] at this

section
variable {X : Wk} {Y : Act} {os : Sto} {ct ct₀ : Cts} {ρ : Str → Option Slot} {Rc : List CR} {S : List SK} {ch : Bool}
theorem PE.origin {q : Vw} {c : CR} {x : Str} {p1 p2 : Pos} {P : PV → Prop} (hY : Y.toWd = X.toWd) (hn : 7 ≤ Y.n) (hr : q.ρ x = some (.fz (encQ c))) (hP : P (sKey c.k.1))
    (hd : (x == ("__debug__" : Str)) = false := by decide) (hc : (x == ("__classdict__" : Str)) = false := by decide) : PE Y q (.Attribute (.Name x p1) "origin" p2) P :=
  PE.attr (X := X) hY hn row_rule desc_origin (by decide) ⟨by rfl, by rfl, by rfl⟩ (PE.name hr ⟨_, _, rfl, rfl, hP⟩ hd hc)
theorem PE.expansion {q : Vw} {c : CR} {x : Str} {p1 p2 : Pos} {P : PV → Prop} (hY : Y.toWd = X.toWd) (hn : 7 ≤ Y.n) (hr : q.ρ x = some (.fz (encQ c))) (hP : P (.tup (c.k.2.map sKey)))
    (hd : (x == ("__debug__" : Str)) = false := by decide) (hc : (x == ("__classdict__" : Str)) = false := by decide) : PE Y q (.Attribute (.Name x p1) "expansion" p2) P :=
  PE.attr (X := X) hY hn row_rule desc_expansion (by decide) ⟨by rfl, by rfl, by rfl⟩ (PE.name hr ⟨_, _, rfl, rfl, hP⟩ hd hc)

/-- FIRST[e] and FOLLOW[e] -/
theorem PE.subst_ {q : Vw} {x : Str} {f : SK → Ky} {e : Expr} {p1 p2 : Pos} {P : PV → Prop} (hY : Y.toWd = X.toWd) (hn : 5 ≤ Y.n) (hx : q.ρ x = some (.fz (.dict (S.map sKey) (S.map fun k => pt os (f k))))) (hnd : S.Nodup)
    (h : PE Y q e fun d => ∃ k o, k ∈ S ∧ d = sKey k ∧ os (f k) = some o ∧ P (.ptr o.a))
    (hd : (x == ("__debug__" : Str)) = false := by decide) (hc : (x == ("__classdict__" : Str)) = false := by decide) : PE Y q (.Subscript (.Name x p1) e p2) P := by
  refine PE.dget (hY ▸ dkey_sym X (n := 4) (by decide)) hn (PM.dict (PE.name hx rfl hd hc)) mapKey_ok (mapKey_nodup hnd) (PE.mono h fun d ⟨k, o, hk, e, ho, hP⟩ => ⟨⟨k, e⟩, ?_⟩)
  obtain ⟨j, hj⟩ := List.mem_iff_getElem?.mp hk
  refine ⟨j, .ptr o.a, ?_, ?_, hP⟩
  · rw [List.getElem?_map, hj, e]; rfl
  · rw [List.getElem?_map, hj]; exact congrArg some (pt_some ho)

/-- if update_set(..): changed = True -/
theorem PS1.step {p pos ipos p1 p2 p3 : Pos} {kk : Nat} {e₁ e₂ : Expr} {k : Ky} {o : OS} {src : List PV} (hY : Y.toWd = X.toWd) (hn : 12 ≤ Y.n) (hf : FnIs Y "update_set" (.ref 112)) (hch : Y.env.kindOf "changed" = some .local) (sy : Syms Rc S os) (st : St Rc S os ct₀ ct ch ρ)
    (hk : k ∈ keysOf S) (ho : os k = some o) (h1 : PE Y (stoV Y.P os ct ρ) e₁ fun d => d = .ptr o.a) (h2 : PE Y (stoV Y.P os ct ρ) e₂ fun d => ∃ l : List SK, Src2 os ct l d ∧ l.map sKey = src)
    (hz : src.length ≤ 2000) (hs : ∀ l : List SK, l.map sKey = src → Sound (ksOf Rc) (ctSet ct k (addAll (ct k) (l.map sKey)))) (hst : noStar [e₁, e₂] = true) :
    PS1 Y (stoV Y.P os ct ρ) (.If (.Call (.Name "update_set" p) [e₁, e₂] [] pos) [.Assign [.Name "changed" p1] (.Constant (.bool true) kk p2) p3] [] ipos) fun f q' =>
      f = .next ∧ ∃ ct' ch' ρ', q' = stoV Y.P os ct' ρ' ∧ St Rc S os ct₀ ct' ch' ρ' ∧ (∀ x : Str, x ≠ "changed" → ρ' x = ρ x) ∧ (∀ k', k' ≠ k → ct' k' = ct k') ∧ (ch' = false → ch = false ∧ ∀ x ∈ src, x ∈ ct₀ k) := by
  refine PS1.ifUpd (X := X) hY hn hf st.pass.ok (PE.mono h1 fun d hd => ⟨k, o, ho, hd, PE.mono h2 fun d₂ ⟨l, hsrc, hl⟩ => ⟨l, hsrc, ?_, fun hne => ?_, fun he => ?_⟩⟩) hst
  · have := ct_len sy st.pass.sound st.pass.ok hk
    have h3 : l.length = src.length := by rw [← hl, List.length_map]
    have := sy.len
    omega
  · refine PS.seq (PS1.assign (.inl hch) (PE.cbool ⟨rfl, PS.nil ⟨rfl, _, true, _, stoV_set, ⟨st.base.set (by decide), rset_here, st.pass.up hk ho (hs l hl) hne⟩, fun x hx => if_neg hx, fun k' hk' => ctSet_ne hk', fun e => nomatch e⟩⟩) (by rfl))
  · obtain ⟨e, hin⟩ := set_same he
    rw [e]
    refine ⟨rfl, ct, ch, ρ, rfl, st, fun x _ => rfl, fun _ _ => rfl, fun hc => ⟨hc, fun x hx => ?_⟩⟩
    rw [← st.pass.same hc]
    exact hin x (hl ▸ hx)
end
end Mine
namespace Mine
open PySem PySem.W PySem.Calls PyProof.Rows

theorem vals_conv {P : Params} {V V' : Rgn} {h : Heap} {α : Type} {f₁ f₂ : α → PV} : ∀ {l : List α} {vs : List Value}, Vals P V h (l.map f₁) vs → (∀ k ∈ l, ∀ v, Val P V h (f₁ k) v → Val P V' h (f₂ k) v) → Vals P V' h (l.map f₂) vs
  | [], vs, x, _ => by simpa using x
  | a :: l, vs, x, H => by
    rw [List.map_cons] at x ⊢
    obtain ⟨v, r, rfl, h1, h2⟩ := vals_cons.mp x
    rw [vals_cons']
    exact ⟨H a (by simp) v h1, vals_conv h2 fun k hk => H k (by simp [hk])⟩
theorem dict_thaw {P : Params} {V : Rgn} {h : Heap} {os : Sto} {ct : Cts} {S : List SK} {f : SK → Ky} {v : Value} (hv : Val P V h (.dict (S.map sKey) (S.map fun k => pt os (f k))) v) (hi : ∀ k ∈ S, ∃ o, os (f k) = some o) (inv : stoI P os ct V h) (hsm : ∀ b, stoS os b → (b == sysModules) = false) :
    Val P (fun b => V b ∧ ¬ stoS os b) h (.dict (S.map sKey) (S.map fun k => .oset (ct (f k)))) v := by
  obtain ⟨a, n, es, rfl, sm, na, ho, hk, hd, hh⟩ := val_dict.mp hv
  refine val_dict.mpr ⟨a, n, es, rfl, sm, fun w => na w.1, ho, hk.less fun b w => w.1, vals_conv hd fun k hk v hv => ?_, hh⟩
  obtain ⟨o, e⟩ := hi k hk
  rw [pt_some e] at hv
  have := val_ptr.mp hv
  subst this
  exact ((inv _ o e).less fun b w => w.1).val (fun b w n => n.2 ⟨_, o, e, w⟩) (hsm _ ⟨_, o, e, .inr (.inr rfl)⟩)

/-- what calculate_sets hands back -/
def outSets (S : List SK) (ct : Cts) : PV := .tup [.dict (S.map sKey) (S.map fun k => .oset (ct (.fst (sKey k)))), .dict (S.map sKey) (S.map fun k => .oset (ct (.fol (sKey k)))), .oset (ct .nul)]

section
variable {Y : Act} {os : Sto} {ct : Cts} {ρ : Str → Option Slot} {Rc : List CR} {S : List SK}
theorem PS1.retSets {p1 p2 p3 p4 pos : Pos} {kk : Nat} {Φ : AF → Vw → Prop} (b : Base Rc S os ρ) (sy : Syms Rc S os) (hU : ∀ b, stoS os b → ¬ Y.U b) (hΦ : ∀ q', Φ (.ret (outSets S ct)) q') :
    PS1 Y (stoV Y.P os ct ρ) (.Return (some (.Tuple [.Name "FIRST" p1, .Name "FOLLOW" p2, .Name "NULLABLE" p3] kk p4)) pos) Φ := fun M V A E s hA G => by
  obtain ⟨oN, hN, hn⟩ := b.nul
  have hp : PE Y (stoV Y.P os ct ρ) (.Tuple [.Name "FIRST" p1, .Name "FOLLOW" p2, .Name "NULLABLE" p3] kk p4) fun d => d = .tup [.dict (S.map sKey) (S.map fun k => pt os (.fst (sKey k))), .dict (S.map sKey) (S.map fun k => pt os (.fol (sKey k))), .ptr oN.a] :=
    PE.tup (PE.name (a := stoV Y.P os ct ρ) b.fst (PE.name (a := stoV Y.P os ct ρ) b.fol (PE.name (a := stoV Y.P os ct ρ) hn ⟨by simp, rfl⟩)))
  refine wpAny_Return_some (hp.use hA G fun v s₁ d hd hv st₁ G₁ => ?_)
  subst hd
  have hSV : ∀ b, stoS os b → V b := fun b w => G₁.mv b (G₁.sm b w)
  have hsm : ∀ b, stoS os b → (b == sysModules) = false := fun b w => G₁.hp.nosys (hSV b w)
  refine ⟨.ret (outSets S ct), ⟨⟨fun _ => False, fun _ => none, fun _ _ => True⟩, fun b => M b ∧ ¬ stoS os b, fun b => V b ∧ ¬ stoS os b⟩, hΦ _, ⟨v, rfl, ?_⟩, ?_, ?_⟩
  · obtain ⟨a, n, vs, rfl, na, ho, hvs⟩ := val_seq.mp hv
    obtain ⟨v1, r, e1, h1, hvs⟩ := vals_cons.mp hvs
    obtain ⟨v2, r2, e2, h2, hvs⟩ := vals_cons.mp hvs
    obtain ⟨v3, r3, e3, h3, hvs⟩ := vals_cons.mp hvs
    have := vals_nil.mp hvs
    subst this
    refine val_seq.mpr ⟨a, n, vs, rfl, fun w => na w.1, ho, ?_⟩
    rw [e1, e2, e3, vals_cons', vals_cons', vals_cons', vals_nil]
    have := val_ptr.mp h3
    subst this
    exact ⟨dict_thaw h1 (fun k hk => sy.has _ (key_fst hk)) G₁.inv hsm, dict_thaw h2 (fun k hk => sy.has _ (key_fol hk)) G₁.inv hsm, ((G₁.inv .nul oN hN).less fun b w => w.1).val (fun b w n => n.2 ⟨_, oN, hN, w⟩) (hsm _ ⟨_, oN, hN, .inr (.inr rfl)⟩), rfl⟩
  · exact {
      kind := G₁.kind, glob := G₁.glob, blt := G₁.blt, keep := G₁.keep
      bnd := fun x w => G₁.bnd x w.1
      mv := fun x w => ⟨G₁.mv x w.1, w.2⟩
      uv := fun x w => ⟨G₁.uv x w, fun q => hU x q w⟩
      om := fun x w => ⟨G₁.om x w, fun q => G₁.os x q w⟩
      ou := G₁.ou, oo := G₁.oo, lo := G₁.lo
      low := fun x w => G₁.low x w.1
      ns := G₁.ns, cell := G₁.cell, apart := G₁.apart
      slots := fun x sl e => nomatch e
      dist := fun x y d e v hn hx => nomatch hx
      sm := fun x w => w.elim
      os := fun x w => w.elim
      inv := trivial
      stab := fun _ _ _ _ _ _ _ => trivial }
  · exact ⟨st₁.all _, fun x w => .inl w.1, fun x w => .inl w.1, fun x hv hm => ⟨hv, fun q => hm (G₁.sm x q)⟩⟩
end
end Mine
namespace Mine
open PySem PySem.W PySem.Calls PyProof.Rows

def CalcOut (Rc : List CR) (d : PV) : Prop := ∃ (S : List SK) (ct : Cts), S.Nodup ∧ (∀ k, k ∈ S ↔ Occ (ksOf Rc) k) ∧ Exact (ksOf Rc) ct ∧ Sound (ksOf Rc) ct ∧ (∀ k ∈ keysOf S, (ct k).Nodup) ∧ d = outSets S ct

theorem flat_map_key (Rc : List CR) : (Rc.map fun c => c.k.2.map sKey).flatten = ((ksOf Rc).map (·.2)).flatten.map sKey := by
  unfold ksOf
  induction Rc with
  | nil => rfl
  | cons c l ih => simp only [List.map_cons, List.flatten_cons, List.map_append, ih]
theorem len_flat : ∀ (Rc : List CR) (c : CR), c ∈ Rc → c.k.2.length ≤ ((ksOf Rc).map (·.2)).flatten.length
  | [], c, h => nomatch h
  | a :: l, c, h => by
    have ih := len_flat l c
    simp only [ksOf, List.map_cons, List.flatten_cons, List.length_append] at ih ⊢
    rcases List.mem_cons.mp h with rfl | h
    · omega
    · have := ih h; omega
theorem pts_nil {Y : Act} {q : Vw} {elt : Expr} {rest : List Comprehension} {o : List PV} (h : GI Y elt rest q o) : PTS Y q [] fun b => (b = false → o = []) ∧ (b = true → GI Y elt rest q o) := by
  show (true = false → o = []) ∧ (true = true → GI Y elt rest q o)
  exact ⟨(fun e => by cases e), fun _ => h⟩
/-- the last clause: a name over encoded data -/
theorem gi_name {Y : Act} {q : Vw} {elt iter : Expr} {x : Str} {px : Pos} {α : Type} (enc : α → PV) (xs : List α) (f : α → PV) (hz : xs.length ≤ 4096) (hx : Y.env.kindOf x = some .local) (hn : q.ρ x = none)
    (hi : IterE Y q .seq iter fun l => l = xs.map enc) (h : ∀ a q'', a ∈ xs → q''.ρ x = some (.fz (enc a)) → (∀ z, ¬ z = x → q''.ρ z = q.ρ z) → PE Y q'' elt fun d => d = f a) (hs : ∀ x, foldedSetIterable iter Y.env x = pure x) :
    GI Y elt [⟨.Name x px, iter, [], 0⟩] q (xs.map f) := by
  unfold GI
  refine ⟨.seq, .inl ⟨by decide, _, _, rfl⟩, rfl, hs, by simpa using hz, fun M V A E s hA G => wpAny_mono (hi M V A E s hA G) (fun x s₁ h₁ => wpAny_mono h₁ (fun it s₂ h₂ => ?_) fun _ _ z => z) fun _ _ z => z⟩
  obtain ⟨l, own, gn, J, rfl, r⟩ := h₂
  refine ⟨xs.map enc, own, gn, J, ⟨xs.map fun a => [f a], by simp, by rw [flat_one], fun i d o hd ho => ?_⟩, r⟩
  rw [List.getElem?_map] at hd ho
  cases hx' : xs[i]? with
  | none => rw [hx'] at hd; cases hd
  | some a =>
    rw [hx'] at hd ho
    cases hd
    cases ho
    exact ⟨_, PA.name (.inl hx), Vw.le_set hn, pts_elt (PE.mono (h a _ (List.mem_of_getElem? hx') (by rw [Vw.set_ρ, if_pos rfl]) fun z hz => by rw [Vw.set_ρ, if_neg hz]) fun d hd => by rw [hd])⟩

theorem sto0 {P : Params} {ρs : Str → Option PV} : q0 ρs = stoV P (fun _ => none) (fun _ => []) (q0 ρs).ρ := by
  have h1 : (fun _ => False : Rgn) = stoS fun _ => none := funext fun b => propext ⟨fun h => h.elim, fun ⟨k, o, e, _⟩ => by cases e⟩
  have h2 : (fun _ _ => True : Rgn → Heap → Prop) = stoI P (fun _ => none) fun _ => [] := funext fun V => funext fun h => propext ⟨fun _ k o e => (by cases e), fun _ => trivial⟩
  unfold stoV
  rw [← h1, ← h2]
  rfl

/-- while the sets are made -/
structure Mk (Rc : List CR) (S : List SK) (U : Rgn) (i : Nat) (os : Sto) (ct : Cts) (ρ : Str → Option Slot) : Prop where
  rules : ρ "rules" = some (.fz (encQs Rc))
  nul : ∃ o, os .nul = some o ∧ ρ "NULLABLE" = some (.fz (.ptr o.a))
  fst : ρ "FIRST" = some (.mt (.dict ((S.take i).map sKey) ((S.take i).map fun k => pt os (.fst (sKey k)))))
  fol : ρ "FOLLOW" = some (.mt (.dict ((S.take i).map sKey) ((S.take i).map fun k => pt os (.fol (sKey k)))))
  ok : StoOk os ct
  has : ∀ k ∈ S.take i, (∃ o, os (.fst (sKey k)) = some o) ∧ ∃ o, os (.fol (sKey k)) = some o
  non : ∀ k, k ∉ S.take i → os (.fst (sKey k)) = none ∧ os (.fol (sKey k)) = none
  nU : ∀ b, stoS os b → ¬ U b
  sound : Sound (ksOf Rc) ct
  term : ∀ k ∈ S.take i, k.2 = true → sKey k ∈ ct (.fst (sKey k))
theorem pt_ne {os : Sto} {k k' : Ky} {o : OS} (h : k' ≠ k) : pt (osSet os k o) k' = pt os k' := by unfold pt; rw [osSet_ne h]
theorem pt_self {os : Sto} {k : Ky} {o : OS} : pt (osSet os k o) k = .ptr o.a := pt_some osSet_self
theorem not_take {S : List SK} (hn : S.Nodup) {i : Nat} {k : SK} (h : S[i]? = some k) : k ∉ S.take i := fun w => by
  obtain ⟨hlt, e⟩ := List.getElem?_eq_some_iff.mp h
  have hd : S.drop i = k :: S.drop (i + 1) := by rw [List.drop_eq_getElem_cons hlt, e]
  have := hn
  rw [← List.take_append_drop i S, List.nodup_append, hd] at this
  exact this.2.2 k w k List.mem_cons_self rfl
theorem dput_new {ks ds ks' ds' : List PV} {k dv : PV} (h : DPut ks ds k dv ks' ds') (hn : k ∉ ks) : ks' = ks ++ [k] ∧ ds' = ds ++ [dv] := by
  rcases h with ⟨i, hi, rfl, rfl⟩ | ⟨_, rfl, rfl⟩
  · exact absurd (List.mem_of_getElem? hi) hn
  · exact ⟨rfl, rfl⟩
theorem key_notin {l : List SK} {k : SK} (h : k ∉ l) : sKey k ∉ l.map sKey := fun w => by
  obtain ⟨b, hb, e⟩ := List.mem_map.mp w
  exact h (sKey_inj e ▸ hb)

/-- what a symbol's first set is made with -/
noncomputable def init1 (k : SK) : List PV := addAll [] ((if k.2 then [k] else []).map sKey)
theorem mem_init1 {k : SK} {x : PV} : x ∈ init1 k ↔ k.2 = true ∧ x = sKey k := by
  unfold init1
  rw [mem_addAll]
  cases k.2 <;> simp
theorem Mk.next {Rc : List CR} {S : List SK} {U : Rgn} {i : Nat} {os : Sto} {ct : Cts} {ρ ρ₂ : Str → Option Slot} {k : SK} {o₁ o₂ : OS} (mk : Mk Rc S U i os ct ρ) (hS1 : S.take (i + 1) = S.take i ++ [k]) (hnt : k ∉ S.take i) (hocc : Occ (ksOf Rc) k) (s1 : o₁.sep) (s2 : o₂.sep)
    (a1 : ∀ k' o' b, os k' = some o' → o'.has b → ¬ o₁.has b) (a2 : ∀ k' o' b, osSet os (.fst (sKey k)) o₁ k' = some o' → o'.has b → ¬ o₂.has b) (u1 : ∀ b, o₁.has b → ¬ U b) (u2 : ∀ b, o₂.has b → ¬ U b)
    (h1 : ρ₂ "rules" = ρ "rules") (h2 : ρ₂ "NULLABLE" = ρ "NULLABLE") (h3 : ρ₂ "FIRST" = some (.mt (.dict ((S.take i).map sKey ++ [sKey k]) ((S.take i).map (fun k => pt os (.fst (sKey k))) ++ [.ptr o₁.a])))) (h4 : ρ₂ "FOLLOW" = some (.mt (.dict ((S.take i).map sKey ++ [sKey k]) ((S.take i).map (fun k => pt os (.fol (sKey k))) ++ [.ptr o₂.a])))) :
    Mk Rc S U (i + 1) (osSet (osSet os (.fst (sKey k)) o₁) (.fol (sKey k)) o₂) (ctSet (ctSet ct (.fst (sKey k)) (init1 k)) (.fol (sKey k)) []) ρ₂ := by
  have ne1 : ∀ k' ∈ S.take i, Ky.fst (sKey k') ≠ .fst (sKey k) := fun k' hk' e => hnt (sKey_inj (Ky.fst.inj e) ▸ hk')
  have ne2 : ∀ k' ∈ S.take i, Ky.fol (sKey k') ≠ .fol (sKey k) := fun k' hk' e => hnt (sKey_inj (Ky.fol.inj e) ▸ hk')
  obtain ⟨oN, hoN, hN⟩ := mk.nul
  refine ⟨h1.trans mk.rules, ⟨oN, by rw [osSet_ne ky_nl, osSet_ne ky_nf]; exact hoN, h2.trans hN⟩, ?_, ?_, ?_, ?_, ?_, ?_, ?_, ?_⟩
  · rw [h3, hS1, List.map_append, List.map_append, List.map_singleton, List.map_singleton, pt_ne ky_fl, pt_self]
    congr 4
    exact List.map_congr_left fun k' hk' => by rw [pt_ne ky_fl, pt_ne (ne1 k' hk')]
  · rw [h4, hS1, List.map_append, List.map_append, List.map_singleton, List.map_singleton, pt_self]
    congr 4
    exact List.map_congr_left fun k' hk' => by rw [pt_ne (ne2 k' hk'), pt_ne ky_lf]
  · refine (mk.ok.add s1 a1 (fun x hx => ?_) (nodup_addAll List.nodup_nil)).add s2 a2 (fun x hx => nomatch hx) List.nodup_nil
    obtain ⟨_, rfl⟩ := mem_init1.mp hx
    exact ⟨k, rfl⟩
  · intro k' hk'
    rw [hS1, List.mem_append, List.mem_singleton] at hk'
    rcases hk' with hk' | rfl
    · obtain ⟨h1, h2⟩ := mk.has k' hk'
      rw [osSet_ne ky_fl, osSet_ne (ne1 k' hk'), osSet_ne (ne2 k' hk'), osSet_ne ky_lf]
      exact ⟨h1, h2⟩
    · rw [osSet_ne ky_fl, osSet_self, osSet_self]
      exact ⟨⟨_, rfl⟩, _, rfl⟩
  · intro k' hk'
    rw [hS1, List.mem_append, List.mem_singleton, not_or] at hk'
    obtain ⟨h1, h2⟩ := mk.non k' hk'.1
    have n1 : Ky.fst (sKey k') ≠ .fst (sKey k) := fun e => hk'.2 (sKey_inj (Ky.fst.inj e))
    have n2 : Ky.fol (sKey k') ≠ .fol (sKey k) := fun e => hk'.2 (sKey_inj (Ky.fol.inj e))
    rw [osSet_ne ky_fl, osSet_ne n1, osSet_ne n2, osSet_ne ky_lf]
    exact ⟨h1, h2⟩
  · intro b w
    rcases stoS_set w with w | w
    · exact u2 b w
    · rcases stoS_set w with w | w
      · exact u1 b w
      · exact mk.nU b w
  · refine ⟨fun x hx => ?_, fun k' x hx => ?_, fun k' x hx => ?_⟩
    · rw [ctSet_ne ky_nl, ctSet_ne ky_nf] at hx; exact mk.sound.nul x hx
    · rw [ctSet_ne ky_fl] at hx
      by_cases q : Ky.fst (sKey k') = .fst (sKey k)
      · rw [q, ctSet_self] at hx
        obtain ⟨ht, rfl⟩ := mem_init1.mp hx
        have e := sKey_inj (Ky.fst.inj q)
        subst e
        exact ⟨k', rfl, .term k' ht hocc⟩
      · rw [ctSet_ne q] at hx; exact mk.sound.fst k' x hx
    · by_cases q : Ky.fol (sKey k') = .fol (sKey k)
      · rw [q, ctSet_self] at hx; cases hx
      · rw [ctSet_ne q, ctSet_ne ky_lf] at hx; exact mk.sound.fol k' x hx
  · intro k' hk' ht
    rw [hS1, List.mem_append, List.mem_singleton] at hk'
    rw [ctSet_ne ky_fl]
    rcases hk' with hk' | rfl
    · rw [ctSet_ne (ne1 k' hk')]; exact mk.term k' hk' ht
    · rw [ctSet_self]; exact mem_init1.mpr ⟨ht, rfl⟩

def NulC (r : KR) (ct : Cts) : Prop := (∀ x ∈ r.2, sKey x ∈ ct .nul) → sKey r.1 ∈ ct .nul
def FstC (r : KR) (i : Nat) (ct : Cts) : Prop := ∀ x, r.2[i]? = some x → (∀ y ∈ r.2.take i, sKey y ∈ ct .nul) → ∀ t ∈ ct (.fst (sKey x)), t ∈ ct (.fst (sKey r.1))
def LastC (r : KR) (i : Nat) (ct : Cts) : Prop := ∀ x, r.2[i]? = some x → (∀ y ∈ r.2.drop (i + 1), sKey y ∈ ct .nul) → ∀ t ∈ ct (.fol (sKey r.1)), t ∈ ct (.fol (sKey x))
def BesC (r : KR) (i j : Nat) (ct : Cts) : Prop := ∀ x y, r.2[i]? = some x → r.2[j]? = some y → (∀ z ∈ (r.2.take j).drop (i + 1), sKey z ∈ ct .nul) → ∀ t ∈ ct (.fst (sKey y)), t ∈ ct (.fol (sKey x))
theorem sz_le {Rc : List CR} {S : List SK} {os : Sto} {ct : Cts} (sy : Syms Rc S os) (s : Sound (ksOf Rc) ct) (ok : StoOk os ct) : sz S ct ≤ (keysOf S).length * S.length :=
  sz_bound sy.mem s fun k hk => let ⟨o, ho⟩ := sy.has k hk; ok.nd k o ho
theorem map_one {l : List SK} {k : SK} (h : l.map sKey = [sKey k]) : l = [k] := by
  have hl : l.length = 1 := by have := congrArg List.length h; simpa using this
  obtain ⟨a, rfl⟩ := List.length_eq_one_iff.mp hl
  rw [List.map_cons, List.map_nil, List.cons.injEq] at h
  rw [sKey_inj h.1]
theorem mem_rule {Rc : List CR} {i : Nat} {d : PV} (h : (Rc.map encQ)[i]? = some d) : ∃ c, Rc[i]? = some c ∧ d = encQ c ∧ c ∈ Rc := by
  rw [List.getElem?_map] at h
  cases hc : Rc[i]? with
  | none => rw [hc] at h; cases h
  | some c => rw [hc] at h; exact ⟨c, rfl, (Option.some.inj h).symm, List.mem_of_getElem? hc⟩
theorem mem_key {l : List SK} {P : PV → Prop} (h : ∀ x ∈ l, P (sKey x)) : ∀ x ∈ l.map sKey, P x := fun x hx => by obtain ⟨k, hk, rfl⟩ := List.mem_map.mp hx; exact h k hk
theorem sym_occ {Rc : List CR} {S : List SK} {os : Sto} (sy : Syms Rc S os) {c : CR} (hc : c ∈ Rc) : c.k.1 ∈ S ∧ ∀ x ∈ c.k.2, x ∈ S :=
  ⟨(sy.mem _).mpr (.inr ⟨c.k, List.mem_map.mpr ⟨c, hc, rfl⟩, rfl⟩), fun x hx => (sy.mem _).mpr (.inl ⟨c.k, List.mem_map.mpr ⟨c, hc, rfl⟩, hx⟩)⟩

theorem cut_take (l : List SK) (j : Nat) : cut (l.map sKey) none (some j) = (l.take j).map sKey := by simp [cut, List.map_take]
theorem cut_drop (l : List SK) (j : Nat) : cut (l.map sKey) (some j) none = (l.drop j).map sKey := by
  unfold cut
  rw [Option.getD_none, Option.getD_some, List.take_of_length_le (Nat.le_refl _), List.map_drop]
theorem dec_true {p : Prop} {i : Decidable p} (h : @decide p i = true) : p := @of_decide_eq_true p i h
theorem dec_false {p : Prop} {i : Decidable p} (h : @decide p i = false) : ¬ p := @of_decide_eq_false p i h
theorem cut_mid (l : List SK) (a b : Nat) : cut (l.map sKey) (some a) (some b) = ((l.take b).drop a).map sKey := by simp [cut, List.map_take, List.map_drop]
theorem take_mem {l : List SK} {a b : Nat} (h : a ≤ b) {x : SK} (hx : x ∈ l.take a) : x ∈ l.take b := by
  have : l.take a = (l.take b).take a := by rw [List.take_take, Nat.min_eq_left h]
  rw [this] at hx
  exact List.mem_of_mem_take hx
theorem enum_at {l : List SK} {j : Nat} {d : PV} (h : (enumPV 0 (l.map sKey))[j]? = some d) : ∃ x, l[j]? = some x ∧ d = .tup [.int (j : Nat), sKey x] ∧ x ∈ l := by
  rw [enumPV_get, List.getElem?_map] at h
  cases hx : l[j]? with
  | none => rw [hx] at h; cases h
  | some x =>
    rw [hx] at h
    refine ⟨x, rfl, ?_, List.mem_of_getElem? hx⟩
    have := Option.some.inj h
    rw [← this]
    simp
theorem take_rules {Rc : List CR} {i : Nat} {c c' : CR} (h : Rc[i]? = some c) (hc : c' ∈ Rc.take (i + 1)) : c' ∈ Rc.take i ∨ c' = c := by
  rw [take_succ_get _ _ _ h, List.mem_append, List.mem_singleton] at hc
  exact hc
theorem src_of {os : Sto} {ct : Cts} {k₂ : Ky} {o₂ : OS} (ok : StoOk os ct) (h : os k₂ = some o₂) : ∃ l : List SK, Src2 os ct l (.ptr o₂.a) ∧ l.map sKey = ct k₂ := by
  obtain ⟨l, hl⟩ := syms_map (ok.ok k₂ o₂ h)
  exact ⟨l, .inr ⟨k₂, o₂, h, rfl, hl⟩, hl.symm⟩
theorem Exact1.keep {R : List KR} {ct ct' : Cts} {d : PV} (e : Exact1 R ct) (h : ∀ k', k' ≠ .fol d → ct' k' = ct k') : Exact1 R ct' :=
  ⟨fun k => by rw [h _ ky_nl]; exact e.nul k, fun k t => by rw [h _ ky_fl]; exact e.fst k t⟩

theorem fc_calc {X : Wk} (Rc : List CR) (hz : ((ksOf Rc).map (·.2)).flatten.length + Rc.length ≤ 500) : FC X.toWd 16 (.ref 117) [encQs Rc] (CalcOut Rc) := by
  refine fc_enter (n := 15) (by decide) (names := ["rules"]) (by rw [X.hK]; rfl) rfl rfl (fun vals hv => match vals, hv with | [a], _ => rfl) rfl (by decide)
    (fun L x hx => by simp only [List.mem_singleton] at hx; subst hx; exact .inl (by rfl)) (by rw [X.hK]; rfl) rfl rfl rfl rfl rfl fun L V env he => ?_
  have hk := congrArg (fun e : Env => e.scope.names) he
  dsimp only [callEnvC, newEnv] at hk
  have hf : env.scope.kind = .function := by rw [he]; rfl
  have hi : interactive env = false := by rw [he]; rfl
  clear he
  have loc : ∀ {x : Str}, env.kindOf x = some .local → Storable (X.act env V 15 (by decide)) x := fun h => .inl h
  have fdl : FnIs (X.act env V 15 (by decide)) "dedup_list" (.ref 28) := fnis_g (X := X) rfl (kd hk (by rfl)) (by rfl)
  have fos : FnIs (X.act env V 15 (by decide)) "OrderedSet" (.ref 101) := fnis_g (X := X) rfl (kd hk (by rfl)) (by rfl)
  have fus : FnIs (X.act env V 15 (by decide)) "update_set" (.ref 112) := fnis_g (X := X) rfl (kd hk (by rfl)) (by rfl)
  have fen : FnIs (X.act env V 15 (by decide)) "enumerate" (.type "enumerate") := fnis_b (X := X) rfl (kd hk (by rfl)) (by rfl) (by rfl)
  have fle : FnIs (X.act env V 15 (by decide)) "len" (.builtin "len") := fnis_b (X := X) rfl (kd hk (by rfl)) (by rfl) (by rfl)
  have fra : FnIs (X.act env V 15 (by decide)) "range" (.type "range") := fnis_b (X := X) rfl (kd hk (by rfl)) (by rfl) (by rfl)
  have kch : env.kindOf "changed" = some .local := kd hk (by rfl)
  have h1 : (q0 (look ((["rules"] : List Str).zip [encQs Rc]))).ρ "rules" = some (.fz (encQs Rc)) := q0_here (by rfl)
  rw [sto0 (P := X.P)]
  generalize (q0 (look ((["rules"] : List Str).zip [encQs Rc]))).ρ = ρ at h1 ⊢
  have hlen : Rc.length ≤ 500 := by omega
  have hex : ∀ c ∈ Rc, c.k.2.length ≤ 500 := fun c hc => by
    have : c.k.2.length ≤ ((ksOf Rc).map (·.2)).flatten.length := len_flat Rc c hc
    omega
  -- the words
  refine PS.seq (PS1.expr (PE.cstr ⟨rfl, ?_⟩) hi (by rfl))
  -- symbols
  refine PS.seq (PS1.assign (loc (kd hk (by rfl))) (PE.call fdl (.inl (by rw [X.hK]; rfl)) (PE.bin (PE.listcomp (nm := .seq) (comp_nofree (by decide) (by decide) rfl (by decide)) (.inl ⟨by decide, _, _, rfl⟩) (IterE.seq (PE.name (a := stoV X.P (fun _ => none) (fun _ => []) ρ) h1 ⟨tList, Rc.map encQ, rfl, .inl rfl, _,
    compok_name Rc encQ (fun c => c.k.2.map sKey) ?_ (by rfl) (fun C c q'' hc i1 i2 => pts_nil (gi_name sKey c.k.2 sKey (by have := hex c hc; omega) (ck_other (by decide) (by rfl)) ((i2 _ (by decide)).trans (inh_none (ck_other (by decide) (by rfl)))) (IterE.seq (PE.expansion (X := X) rfl (by show 7 ≤ 15; decide) i1 ⟨tTuple, _, rfl, .inr rfl, rfl⟩)) (fun k q₃ hk' j1 j2 => PE.name j1 rfl) (fun _ => rfl))), ?_⟩)) (fun _ => rfl)))) (by rfl))
  · rw [flat_map_key, List.length_map]; omega
  refine PE.listcomp (nm := .seq) (comp_nofree (by decide) (by decide) rfl (by decide)) (.inl ⟨by decide, _, _, rfl⟩) (IterE.seq (PE.name (a := stoV X.P (fun _ => none) (fun _ => []) ρ) h1 ⟨tList, Rc.map encQ, rfl, .inl rfl, _,
    compok_name Rc encQ (fun c => [sKey c.k.1]) ?_ (by rfl) (fun C c q'' hc i1 i2 => pts_elt (PE.origin (X := X) rfl (by show 7 ≤ 15; decide) i1 rfl)), ?_⟩)) (fun _ => rfl)
  · rw [flat_one, List.length_map]; omega
  rw [flat_map_key, flat_one]
  have hm : (Rc.map fun c => sKey c.k.1) = (Rc.map fun c => c.k.1).map sKey := by simp
  rw [hm]
  refine op_addl (by rw [List.length_map, List.length_map, List.length_map]; omega) ?_
  rw [← List.map_append]
  refine (fc_dedup (X := X) _ (by rw [List.length_append, List.length_map]; omega)).mono (by show 12 ≤ 15; decide) ?_
  rintro _ ⟨S, rfl, hSn, hSm⟩
  have hocc : ∀ k, k ∈ S ↔ Occ (ksOf Rc) k := fun k => by
    rw [hSm, List.mem_append, Occ]
    refine or_congr ?_ ?_
    · simp only [List.mem_flatten, List.mem_map, ksOf]
      constructor
      · rintro ⟨l, ⟨r, hr, rfl⟩, hk⟩; exact ⟨r, hr, hk⟩
      · rintro ⟨r, hr, hk⟩; exact ⟨_, ⟨r, hr, rfl⟩, hk⟩
    · simp only [List.mem_map, ksOf]
      constructor
      · rintro ⟨c, hc, rfl⟩; exact ⟨c.k, ⟨c, hc, rfl⟩, rfl⟩
      · rintro ⟨r, ⟨c, hc, rfl⟩, rfl⟩; exact ⟨c, hc, rfl⟩
  refine ⟨rfl, ?_⟩
  have hSl : S.length ≤ 500 := by
    have := nodup_lenPV (S.map sKey) ((((ksOf Rc).map (·.2)).flatten ++ Rc.map fun c => c.k.1).map sKey) (mapKey_nodup hSn) fun x hx => by
      obtain ⟨k, hk, rfl⟩ := List.mem_map.mp hx
      exact List.mem_map.mpr ⟨k, (hSm k).mp hk, rfl⟩
    rw [List.length_map, List.length_map, List.length_append, List.length_map] at this
    omega
  have g1 := rset_there (x := "symbols") (sl := .fz (.list (S.map sKey))) h1 (by decide)
  have g2 : rset ρ "symbols" (.fz (.list (S.map sKey))) "symbols" = some (.fz (.list (S.map sKey))) := rset_here
  rw [stoV_set]
  generalize rset ρ "symbols" (.fz (.list (S.map sKey))) = ρ at g1 g2 ⊢
  -- NULLABLE = OrderedSet()
  refine PS.seq (PS1.assignN (kk := .nul) (ks := []) (loc (kd hk (by rfl))) (PN.call0 (X := X) rfl (by show 9 ≤ 15; decide) fos rfl) (fun oN sepN apN nUN => ⟨rfl, ?_⟩) (by rfl))
  rw [stoV_set]
  have ok0 : StoOk (osSet (fun _ => none) .nul oN) (ctSet (fun _ => []) .nul []) := StoOk.add ⟨⟨(fun k o e => nomatch e), (fun k k' o o' b e => nomatch e)⟩, (fun k o e => nomatch e), (fun k o e => nomatch e)⟩ sepN apN (fun x hx => nomatch hx) List.nodup_nil
  have hct0 : ctSet (fun _ => []) Ky.nul [] = fun _ => [] := by
    funext k
    by_cases q : k = .nul
    · subst q; exact ctSet_self
    · exact ctSet_ne q
  rw [hct0] at ok0 ⊢
  refine PS.seq (PS1.new (loc (kd hk (by rfl))) (.dict _) ⟨rfl, ?_⟩ (by rfl))
  rw [stoV_set]
  refine PS.seq (PS1.new (loc (kd hk (by rfl))) (.dict _) ⟨rfl, ?_⟩ (by rfl))
  rw [stoV_set]
  have mk0 : Mk Rc S V 0 (osSet (fun _ => none) .nul oN) (fun _ => []) (rset (rset (rset ρ "NULLABLE" (.fz (.ptr oN.a))) "FIRST" (.mt (.dict [] []))) "FOLLOW" (.mt (.dict [] []))) :=
    ⟨rset_there (rset_there (rset_there g1)), ⟨oN, osSet_self, rset_there (rset_there rset_here)⟩, rset_there rset_here, rset_here, ok0, (fun k hk => nomatch hk), fun k _ => ⟨osSet_ne ky_fn, osSet_ne ky_ln⟩, fun b w => (stoS_set w).elim (nUN b) fun ⟨k, o, e, _⟩ => (by cases e), ⟨(fun x hx => nomatch hx), (fun k x hx => nomatch hx), (fun k x hx => nomatch hx)⟩, (fun k hk => nomatch hk)⟩
  have g2' := rset_there (x := "FOLLOW") (sl := .mt (.dict [] [])) (rset_there (x := "FIRST") (sl := .mt (.dict [] [])) (rset_there (x := "NULLABLE") (sl := .fz (.ptr oN.a)) g2 (by decide)) (by decide)) (by decide)
  generalize rset (rset (rset ρ "NULLABLE" (.fz (.ptr oN.a))) "FIRST" (.mt (.dict [] []))) "FOLLOW" (.mt (.dict [] [])) = ρ at mk0 g2' ⊢
  generalize osSet (fun _ => none) .nul oN = os at mk0 ⊢
  generalize (fun _ => [] : Cts) = ct at mk0 ⊢
  -- for sym in symbols
  refine PS.cons (Ψ := fun f q' => f = .next ∧ ∃ os ct ρ, q' = stoV X.P os ct ρ ∧ Mk Rc S V S.length os ct ρ) (PS1.for_ (nm := .seq) (R := fun l' => l' = S.map sKey) (IterE.seq (PE.name (a := stoV X.P os ct ρ) g2' ⟨tList, _, rfl, .inl rfl, rfl⟩)) (.inl ⟨by decide, _, _, rfl⟩) ?_) ?_ fun f q' hne h => absurd h.1 hne
  · rintro _ rfl
    refine ⟨fun i q' => ∃ os ct ρ, q' = stoV X.P os ct ρ ∧ Mk Rc S V i os ct ρ, ⟨os, ct, ρ, rfl, mk0⟩, ?_, fun q' h => ⟨rfl, by simpa using h⟩⟩
    rintro i _ d hd ⟨os, ct, ρ, rfl, mk⟩
    rw [List.getElem?_map] at hd
    cases hki : S[i]? with
    | none => rw [hki] at hd; cases hd
    | some k =>
      rw [hki] at hd
      cases hd
      refine ⟨_, PA.name (loc (kd hk (by rfl))), ?_⟩
      rw [stoV_set]
      have hnt := not_take hSn hki
      have hS1 : S.take (i + 1) = S.take i ++ [k] := take_succ_get _ _ _ hki
      have gs : rset ρ "sym" (.fz (sKey k)) "sym" = some (.fz (sKey k)) := rset_here
      have gF := rset_there (x := "sym") (sl := .fz (sKey k)) mk.fst (by decide)
      have gL := rset_there (x := "sym") (sl := .fz (sKey k)) mk.fol (by decide)
      have gR : rset ρ "sym" (.fz (sKey k)) "rules" = ρ "rules" := rset_there rfl (by decide)
      have gN : rset ρ "sym" (.fz (sKey k)) "NULLABLE" = ρ "NULLABLE" := rset_there rfl (by decide)
      generalize rset ρ "sym" (.fz (sKey k)) = ρ' at gs gF gL gR gN ⊢
      have k1 : os (.fst (sKey k)) = none := (mk.non k hnt).1
      have k2 : os (.fol (sKey k)) = none := (mk.non k hnt).2
      have hki' : k ∈ S := List.mem_of_getElem? hki
      have hndt : ((S.take i).map sKey).Nodup := mapKey_nodup (List.Nodup.sublist (List.take_sublist i S) hSn)
      have hzt : ((S.take i).map sKey).length ≤ 4096 := by rw [List.length_map, List.length_take]; omega
      refine PS.seq (PS1.setItemN (kk := .fst (sKey k)) (ks := init1 k) (dkey_sym X (n := 4) (by decide)) (by show 5 ≤ 15; decide) gF mapKey_ok hndt hzt
        (PN.ite (PT.plain (PE.attr (X := X) rfl (by show 7 ≤ 15; decide) row_sym desc_term (by decide) ⟨by rfl, by rfl, by rfl⟩ (PE.name (a := stoV X.P os ct ρ') gs ⟨[.str k.1, .bool k.2], .bool k.2, rfl, rfl, k.2, rfl, ?_, ?_⟩))))
        (fun o₁ s1 a1 u1 => PE.name (a := stoV X.P (osSet os (.fst (sKey k)) o₁) (ctSet ct (.fst (sKey k)) (init1 k)) ρ') gs ⟨⟨k, rfl⟩, fun ks' ds' hput => ⟨rfl, ?_⟩⟩) (by rfl))
      · intro e
        unfold init1
        rw [if_pos e]
        exact PN.call1 (X := X) (l := [k]) rfl (by show 9 ≤ 15; decide) fos k1 (by simp) (PE.list (PE.name (a := stoV X.P os ct ρ') gs ⟨by simp, rfl⟩)) (by rfl)
      · intro e
        unfold init1
        rw [if_neg (by rw [e]; exact Bool.false_ne_true)]
        exact PN.call0 (X := X) rfl (by show 9 ≤ 15; decide) fos k1
      obtain ⟨rfl, rfl⟩ := dput_new hput (key_notin hnt)
      rw [stoV_set]
      have gs' := rset_there (x := "FIRST") (sl := .mt (.dict ((S.take i).map sKey ++ [sKey k]) ((S.take i).map (fun k => pt os (.fst (sKey k))) ++ [.ptr o₁.a]))) gs (by decide)
      have gL' := rset_there (x := "FIRST") (sl := .mt (.dict ((S.take i).map sKey ++ [sKey k]) ((S.take i).map (fun k => pt os (.fst (sKey k))) ++ [.ptr o₁.a]))) gL (by decide)
      have gF' : rset ρ' "FIRST" (.mt (.dict ((S.take i).map sKey ++ [sKey k]) ((S.take i).map (fun k => pt os (.fst (sKey k))) ++ [.ptr o₁.a]))) "FIRST" = _ := rset_here
      have gR' := rset_there (x := "FIRST") (sl := .mt (.dict ((S.take i).map sKey ++ [sKey k]) ((S.take i).map (fun k => pt os (.fst (sKey k))) ++ [.ptr o₁.a]))) gR (by decide)
      have gN' := rset_there (x := "FIRST") (sl := .mt (.dict ((S.take i).map sKey ++ [sKey k]) ((S.take i).map (fun k => pt os (.fst (sKey k))) ++ [.ptr o₁.a]))) gN (by decide)
      generalize rset ρ' "FIRST" (.mt (.dict ((S.take i).map sKey ++ [sKey k]) ((S.take i).map (fun k => pt os (.fst (sKey k))) ++ [.ptr o₁.a]))) = ρ'' at gs' gL' gF' gR' gN' ⊢
      refine PS.seq (PS1.setItemN (kk := .fol (sKey k)) (ks := []) (dkey_sym X (n := 4) (by decide)) (by show 5 ≤ 15; decide) gL' mapKey_ok hndt hzt (PN.call0 (X := X) rfl (by show 9 ≤ 15; decide) fos ((osSet_ne ky_lf).trans k2))
        (fun o₂ s2 a2 u2 => PE.name (a := stoV X.P (osSet (osSet os (.fst (sKey k)) o₁) (.fol (sKey k)) o₂) (ctSet (ctSet ct (.fst (sKey k)) (init1 k)) (.fol (sKey k)) []) ρ'') gs' ⟨⟨k, rfl⟩, fun ks' ds' hput => ⟨rfl, ?_⟩⟩) (by rfl))
      obtain ⟨rfl, rfl⟩ := dput_new hput (key_notin hnt)
      rw [stoV_set]
      exact PS.nil ⟨_, _, _, rfl, mk.next hS1 hnt ((hocc k).mp hki') s1 s2 a1 a2 u1 u2 (rset_there gR') (rset_there gN') (rset_there gF') rset_here⟩
  · rintro _ ⟨_, os, ct, ρ, rfl, mk⟩
    have mf := mk.fst
    have ml := mk.fol
    have mh := mk.has
    have mt := mk.term
    rw [List.take_length] at mf ml mh mt
    refine PS.freeze mf ?_
    rw [stoV_set]
    refine PS.freeze (rset_there ml) ?_
    rw [stoV_set]
    have sy : Syms Rc S os := ⟨hSn, hocc, by omega, fun k hk' => by
      rcases List.mem_cons.mp hk' with rfl | hk'
      · obtain ⟨o, ho, _⟩ := mk.nul; exact ⟨o, ho⟩
      · rcases List.mem_append.mp hk' with hk' | hk'
        · obtain ⟨k', h', rfl⟩ := List.mem_map.mp hk'; exact (mh k' h').1
        · obtain ⟨k', h', rfl⟩ := List.mem_map.mp hk'; exact (mh k' h').2⟩
    have base : Base Rc S os (rset (rset ρ "FIRST" (.fz (.dict (S.map sKey) (S.map fun k => pt os (.fst (sKey k)))))) "FOLLOW" (.fz (.dict (S.map sKey) (S.map fun k => pt os (.fol (sKey k)))))) := by
      obtain ⟨oN, hoN, hN⟩ := mk.nul
      exact ⟨rset_there (rset_there mk.rules), ⟨oN, hoN, rset_there (rset_there hN)⟩, rset_there rset_here, rset_here⟩
    have ok := mk.ok
    have sound := mk.sound
    have nU := mk.nU
    generalize rset (rset ρ "FIRST" (.fz (.dict (S.map sKey) (S.map fun k => pt os (.fst (sKey k)))))) "FOLLOW" (.fz (.dict (S.map sKey) (S.map fun k => pt os (.fol (sKey k))))) = ρ at base ⊢
    clear mk mf ml mh
    -- the first loop
    refine PS.seq (PS1.assign (loc kch) (PE.cbool ⟨rfl, ?_⟩) (by rfl))
    rw [stoV_set]
    have base1 := base.set (x := "changed") (sl := .fz (.bool true)) (by decide)
    have ch1 : rset ρ "changed" (.fz (.bool true)) "changed" = some (.fz (.bool true)) := rset_here
    generalize rset ρ "changed" (.fz (.bool true)) = ρ at base1 ch1 ⊢
    clear base
    refine PS.cons (Ψ := fun f q' => f = .next ∧ ∃ ct ρ, q' = stoV X.P os ct ρ ∧ Base Rc S os ρ ∧ StoOk os ct ∧ Sound (ksOf Rc) ct ∧ Exact1 (ksOf Rc) ct)
      (PS1.while_ (fun n q' => ∃ ct ch ρ, q' = stoV X.P os ct ρ ∧ Base Rc S os ρ ∧ ρ "changed" = some (.fz (.bool ch)) ∧ StoOk os ct ∧ Sound (ksOf Rc) ct ∧ (∀ k ∈ S, k.2 = true → sKey k ∈ ct (.fst (sKey k))) ∧ n = (if ch = true then (keysOf S).length * S.length + 1 - sz S ct else 0) ∧ (ch = false → Closed1 (ksOf Rc) S ct)) _
        ⟨ct, true, ρ, rfl, base1, ch1, ok, sound, mt, rfl, fun e => nomatch e⟩ ?_) ?_ (fun f q' hne h => absurd h.1 hne)
    · rintro n _ ⟨ct, ch, ρ, rfl, base, hch, ok, sound, term, rfl, hcl⟩
      refine PT.name (a := stoV X.P os ct ρ) hch ⟨fun e => ⟨rfl, ct, ρ, rfl, base, ok, sound, exact1 sy.mem sound (hcl e)⟩, fun e => ?_⟩
      subst e
      refine PS.seq (PS1.assign (loc kch) (PE.cbool ⟨rfl, ?_⟩) (by rfl))
      rw [stoV_set]
      have st0 : St Rc S os ct ct false (rset ρ "changed" (.fz (.bool false))) := ⟨base.set (by decide), rset_here, Pass.start sound ok⟩
      generalize rset ρ "changed" (.fz (.bool false)) = ρ at st0 ⊢
      refine PS.cons (Ψ := fun f q' => f = .next ∧ ∃ ct' ch' ρ', q' = stoV X.P os ct' ρ' ∧ St Rc S os ct ct' ch' ρ' ∧ (ch' = false → ∀ c ∈ Rc, NulC c.k ct ∧ ∀ i, FstC c.k i ct))
        (PS1.for_ (nm := .seq) (R := fun l' => l' = Rc.map encQ) (IterE.seq (PE.name (a := stoV X.P os ct ρ) st0.base.rules ⟨tList, _, rfl, .inl rfl, rfl⟩)) (.inl ⟨by decide, _, _, rfl⟩) ?_) ?_ (fun f q' hne h => absurd h.1 hne)
      · rintro _ rfl
        refine ⟨fun i q' => ∃ ct' ch' ρ', q' = stoV X.P os ct' ρ' ∧ St Rc S os ct ct' ch' ρ' ∧ (ch' = false → ∀ c ∈ Rc.take i, NulC c.k ct ∧ ∀ i, FstC c.k i ct), ⟨ct, false, ρ, rfl, st0, fun _ c hc => nomatch hc⟩, ?_, fun q' h => ⟨rfl, by simpa using h⟩⟩
        rintro i _ d hd ⟨ct', ch', ρ', rfl, st, hdone⟩
        obtain ⟨c, hci, rfl, hcR⟩ := mem_rule hd
        refine ⟨_, PA.name (loc (kd hk (by rfl))), ?_⟩
        rw [stoV_set]
        have st1 := st.set (x := "rule") (sl := .fz (encQ c))
        have gr : rset ρ' "rule" (.fz (encQ c)) "rule" = some (.fz (encQ c)) := rset_here
        generalize rset ρ' "rule" (.fz (encQ c)) = ρ' at st1 gr ⊢
        clear st
        obtain ⟨oN, hoN, hN⟩ := st1.base.nul
        obtain ⟨hoS, hxS⟩ := sym_occ sy hcR
        refine PS.cons (Ψ := fun f q' => f = .next ∧ ∃ ct₂ ch₂ ρ₂, q' = stoV X.P os ct₂ ρ₂ ∧ St Rc S os ct ct₂ ch₂ ρ₂ ∧ ρ₂ "rule" = some (.fz (encQ c)) ∧ (ch₂ = false → ch' = false ∧ NulC c.k ct))
          (PS1.if_ (PT.plain (PE.holdsS (X := X) (k := .nul) (o := oN) rfl (by show 10 ≤ 15; decide) hoN hN (st1.pass.ok.ok .nul oN hoN) (st1.pass.ok.nd .nul oN hoN) (PE.expansion (X := X) rfl (by show 7 ≤ 15; decide) gr ⟨tTuple, c.k.2, rfl, .inr rfl, by have := hex c hcR; omega, _, rfl, ?_, ?_⟩) (by rfl) ⟨_, rfl⟩))) ?_ (fun f q' hne h => absurd h.1 hne)
        · intro hb
          have hb : ∀ x ∈ c.k.2, sKey x ∈ ct' .nul := by simpa using hb
          refine PS.cons (PS1.step (X := X) (src := [sKey c.k.1]) (k := .nul) (o := oN) rfl (by show 12 ≤ 15; decide) fus kch sy st1 key_nul hoN (PE.name (a := stoV X.P os ct' ρ') hN rfl) (PE.list (PE.origin (X := X) rfl (by show 7 ≤ 15; decide) gr ⟨by simp, [c.k.1], .inl rfl, rfl⟩)) (by simp) (fun l hl => st1.pass.sound.addNul fun k hk' => ?_) (by rfl)) ?_ (fun f q' hne h => absurd h.1 hne)
          · have := map_one hl
            subst this
            rw [List.mem_singleton] at hk'
            subst hk'
            refine .mk c.k (List.mem_map.mpr ⟨c, hcR, rfl⟩) fun x hx => ?_
            obtain ⟨k', e, h'⟩ := st1.pass.sound.nul _ (hb x hx)
            exact sKey_inj e ▸ h'
          · rintro _ ⟨_, ct₂, ch₂, ρ₂, rfl, st₂, hρ, _, hc⟩
            exact PS.nil ⟨rfl, ct₂, ch₂, ρ₂, rfl, st₂, (hρ _ (by decide)).trans gr, fun e => ⟨(hc e).1, fun _ => (hc e).2 _ (by simp)⟩⟩
        · intro hb
          have hb : ¬ ∀ x ∈ c.k.2, sKey x ∈ ct' .nul := by simpa using hb
          exact PS.nil ⟨rfl, ct', ch', ρ', rfl, st1, gr, fun e => ⟨e, fun h => absurd (st1.pass.same e ▸ h) hb⟩⟩
        rintro _ ⟨_, ct₂, ch₂, ρ₂, rfl, st₂, gr₂, hd₂⟩
        refine PS.cons (Ψ := fun f q' => f = .next ∧ ∃ ct₃ ch₃ ρ₃, q' = stoV X.P os ct₃ ρ₃ ∧ St Rc S os ct ct₃ ch₃ ρ₃ ∧ (ch₃ = false → ch₂ = false ∧ ∀ i, FstC c.k i ct))
          (PS1.for_ (nm := .enum) (R := fun l' => l' = enumPV 0 (c.k.2.map sKey)) (IterE.call fen (.inr (.inl ⟨_, rfl⟩)) (PE.expansion (X := X) rfl (by show 7 ≤ 15; decide) gr₂ (fci_enum (.inr rfl) rfl))) (.inr ⟨_, _, _, rfl⟩) ?_) ?_ (fun f q' hne h => absurd h.1 hne)
        · rintro _ rfl
          refine ⟨fun j q' => ∃ ct₃ ch₃ ρ₃, q' = stoV X.P os ct₃ ρ₃ ∧ St Rc S os ct ct₃ ch₃ ρ₃ ∧ ρ₃ "rule" = some (.fz (encQ c)) ∧ (ch₃ = false → ch₂ = false ∧ ∀ i' < j, FstC c.k i' ct), ⟨ct₂, ch₂, ρ₂, rfl, st₂, gr₂, fun e => ⟨e, fun i' h => absurd h (Nat.not_lt_zero _)⟩⟩, ?_, ?_⟩
          · rintro j _ d hd ⟨ct₃, ch₃, ρ₃, rfl, st₃, gr₃, hd₃⟩
            obtain ⟨x, hx, rfl, hxm⟩ := enum_at hd
            refine ⟨_, PA.tup ⟨_, PA.name (loc (kd hk (by rfl))), _, PA.name (loc (kd hk (by rfl))), rfl⟩, ?_⟩
            rw [stoV_set, stoV_set]
            have st₄ := (st₃.set (x := "i") (sl := .fz (.int (j : Nat)))).set (x := "sym") (sl := .fz (sKey x))
            have gr₄ := rset_there (x := "sym") (sl := .fz (sKey x)) (rset_there (x := "i") (sl := .fz (.int (j : Nat))) gr₃ (by decide)) (by decide)
            have gi₄ : rset (rset ρ₃ "i" (.fz (.int (j : Nat)))) "sym" (.fz (sKey x)) "i" = some (.fz (.int (j : Nat))) := rset_there rset_here (by decide)
            have gs₄ : rset (rset ρ₃ "i" (.fz (.int (j : Nat)))) "sym" (.fz (sKey x)) "sym" = some (.fz (sKey x)) := rset_here
            generalize rset (rset ρ₃ "i" (.fz (.int (j : Nat)))) "sym" (.fz (sKey x)) = ρ₄ at st₄ gr₄ gi₄ gs₄ ⊢
            obtain ⟨oN, hoN, hN⟩ := st₄.base.nul
            obtain ⟨oO, hoO⟩ := sy.has _ (key_fst hoS)
            obtain ⟨ox, hox⟩ := sy.has _ (key_fst (hxS x hxm))
            refine PS.cons (Ψ := fun f q' => match f with
                | .next | .cont => ∃ ct₃ ch₃ ρ₃, q' = stoV X.P os ct₃ ρ₃ ∧ St Rc S os ct ct₃ ch₃ ρ₃ ∧ ρ₃ "rule" = some (.fz (encQ c)) ∧ (ch₃ = false → ch₂ = false ∧ ∀ i' < j + 1, FstC c.k i' ct)
                | .brk => IK.enum ≠ .gen ∧ AF.next = .next ∧ ∃ ct₃ ch₃ ρ₃, q' = stoV X.P os ct₃ ρ₃ ∧ St Rc S os ct ct₃ ch₃ ρ₃ ∧ (ch₃ = false → ch₂ = false ∧ ∀ i, FstC c.k i ct)
                | .ret d => False)
              (PS1.if_ (PT.plain (PE.holdsS (X := X) (k := .nul) (o := oN) rfl (by show 10 ≤ 15; decide) hoN hN (st₄.pass.ok.ok .nul oN hoN) (st₄.pass.ok.nd .nul oN hoN)
                (PE.slice (PE.expansion (X := X) rfl (by show 7 ≤ 15; decide) gr₄ ⟨tTuple, c.k.2.map sKey, rfl, .inr rfl, by have := hex c hcR; rw [List.length_map]; omega, PE.name (a := stoV X.P os ct₃ ρ₄) gi₄ ⟨j, rfl, tTuple, c.k.2.take j, by rw [cut_take], .inr rfl, by have := hex c hcR; rw [List.length_take]; omega, _, rfl, ?_, ?_⟩⟩)) (by rfl) ⟨_, rfl⟩))) (fun q' h => PS.nil h) (fun f q' hne h => ?_)
            · intro hb
              have hb : ∀ y ∈ c.k.2.take j, sKey y ∈ ct₃ .nul := dec_true hb
              refine PS.cons (PS1.step (X := X) (src := ct₃ (.fst (sKey x))) (k := .fst (sKey c.k.1)) (o := oO) rfl (by show 12 ≤ 15; decide) fus kch sy st₄ (key_fst hoS) hoO
                (PE.subst_ (X := X) (f := fun k => .fst (sKey k)) rfl (by show 5 ≤ 15; decide) st₄.base.fst hSn (PE.origin (X := X) rfl (by show 7 ≤ 15; decide) gr₄ ⟨c.k.1, oO, hoS, rfl, hoO, rfl⟩))
                (PE.subst_ (X := X) (f := fun k => .fst (sKey k)) rfl (by show 5 ≤ 15; decide) st₄.base.fst hSn (PE.name (a := stoV X.P os ct₃ ρ₄) gs₄ ⟨x, ox, hxS x hxm, rfl, hox, src_of st₄.pass.ok hox⟩))
                (by have := ct_len sy st₄.pass.sound st₄.pass.ok (key_fst (hxS x hxm)); omega) (fun l hl => st₄.pass.sound.addFst fun t ht => ?_) (by rfl)) ?_ (fun f q' hne h => absurd h.1 hne)
              · refine .step c.k (List.mem_map.mpr ⟨c, hcR, rfl⟩) j x t hx (fun y hy => ?_) ?_
                · obtain ⟨k', e, h'⟩ := st₄.pass.sound.nul _ (hb y hy); exact sKey_inj e ▸ h'
                · have : sKey t ∈ ct₃ (.fst (sKey x)) := hl ▸ List.mem_map.mpr ⟨t, ht, rfl⟩
                  obtain ⟨k', e, h'⟩ := st₄.pass.sound.fst x _ this; exact sKey_inj e ▸ h'
              · rintro _ ⟨_, ct₅, ch₅, ρ₅, rfl, st₅, hρ, _, hc⟩
                refine PS.nil ⟨ct₅, ch₅, ρ₅, rfl, st₅, (hρ _ (by decide)).trans gr₄, fun e => ⟨(hd₃ (hc e).1).1, fun i' hi' => ?_⟩⟩
                rcases Nat.lt_succ_iff_lt_or_eq.mp hi' with h | rfl
                · exact (hd₃ (hc e).1).2 i' h
                · intro x' hx' _ t ht
                  rw [hx] at hx'
                  cases hx'
                  exact (hc e).2 t (st₃.pass.same (hc e).1 ▸ ht)
            · intro hb
              have hb : ¬ ∀ y ∈ c.k.2.take j, sKey y ∈ ct₃ .nul := dec_false hb
              refine PS.cons (Ψ := fun f q' => f = .brk ∧ q' = stoV X.P os ct₃ ρ₄) (PS1.brk ⟨rfl, rfl⟩) (fun q' h => nomatch h.1) fun f q' hne h => ?_
              obtain ⟨rfl, rfl⟩ := h
              refine ⟨(by decide), rfl, ct₃, ch₃, ρ₄, rfl, st₄, fun e => ⟨(hd₃ e).1, fun i' => ?_⟩⟩
              rcases Nat.lt_or_ge i' j with h | h
              · exact (hd₃ e).2 i' h
              · intro x' _ hp
                exact absurd (fun y hy => st₃.pass.same e ▸ hp y (take_mem h hy)) hb
            · cases f with
              | next => exact absurd rfl hne
              | cont => exact h
              | brk => exact h
              | ret d => exact h.elim
          · rintro _ ⟨ct₃, ch₃, ρ₃, rfl, st₃, gr₃, hd₃⟩
            refine ⟨rfl, ct₃, ch₃, ρ₃, rfl, st₃, fun e => ⟨(hd₃ e).1, fun i' => ?_⟩⟩
            rcases Nat.lt_or_ge i' c.k.2.length with h | h
            · exact (hd₃ e).2 i' (by rw [enumPV_length, List.length_map]; exact h)
            · intro x' hx'
              rw [List.getElem?_eq_none h] at hx'
              cases hx'
        · rintro _ ⟨_, ct₃, ch₃, ρ₃, rfl, st₃, hd₃⟩
          refine PS.nil ⟨ct₃, ch₃, ρ₃, rfl, st₃, fun e c' hc' => ?_⟩
          have e₂ := (hd₃ e).1
          have e₁ := (hd₂ e₂).1
          rcases take_rules hci hc' with h | rfl
          · exact hdone e₁ c' h
          · exact ⟨(hd₂ e₂).2, (hd₃ e).2⟩
      · rintro _ ⟨_, ct', ch', ρ', rfl, st, hcl'⟩
        refine PS.nil ⟨_, ?_, ct', ch', ρ', rfl, st.base, st.chg, st.pass.ok, st.pass.sound, fun k hk' ht => st.pass.mono _ _ (term k hk' ht), rfl, fun e => ?_⟩
        · have b1 := sz_le sy sound ok
          have b2 := sz_le sy st.pass.sound st.pass.ok
          rw [if_pos rfl]
          cases ch' with
          | false => rw [if_neg (by decide)]; omega
          | true => have := st.pass.more rfl; rw [if_pos rfl]; omega
        · have hc := hcl' e
          rw [st.pass.same e]
          refine ⟨fun r hr => ?_, fun r hr i x => ?_, term⟩
          · obtain ⟨c, hc', rfl⟩ := List.mem_map.mp hr; exact (hc c hc').1
          · obtain ⟨c, hc', rfl⟩ := List.mem_map.mp hr; exact (hc c hc').2 i x
    · rintro _ ⟨_, ct, ρ, rfl, base, ok, sound, ex1⟩
      -- the second loop
      refine PS.seq (PS1.assign (loc kch) (PE.cbool ⟨rfl, ?_⟩) (by rfl))
      rw [stoV_set]
      have base1 := base.set (x := "changed") (sl := .fz (.bool true)) (by decide)
      have ch1 : rset ρ "changed" (.fz (.bool true)) "changed" = some (.fz (.bool true)) := rset_here
      generalize rset ρ "changed" (.fz (.bool true)) = ρ at base1 ch1 ⊢
      clear base
      refine PS.cons (Ψ := fun f q' => f = .next ∧ ∃ ct ρ, q' = stoV X.P os ct ρ ∧ Base Rc S os ρ ∧ StoOk os ct ∧ Sound (ksOf Rc) ct ∧ Exact (ksOf Rc) ct)
        (PS1.while_ (fun n q' => ∃ ct ch ρ, q' = stoV X.P os ct ρ ∧ Base Rc S os ρ ∧ ρ "changed" = some (.fz (.bool ch)) ∧ StoOk os ct ∧ Sound (ksOf Rc) ct ∧ Exact1 (ksOf Rc) ct ∧ n = (if ch = true then (keysOf S).length * S.length + 1 - sz S ct else 0) ∧ (ch = false → Closed2 (ksOf Rc) ct)) _
          ⟨ct, true, ρ, rfl, base1, ch1, ok, sound, ex1, rfl, fun e => nomatch e⟩ ?_) ?_ (fun f q' hne h => absurd h.1 hne)
      · rintro n _ ⟨ct, ch, ρ, rfl, base, hch, ok, sound, ex1, rfl, hcl⟩
        refine PT.name (a := stoV X.P os ct ρ) hch ⟨fun e => ⟨rfl, ct, ρ, rfl, base, ok, sound, exact2 sound ex1 (hcl e)⟩, fun e => ?_⟩
        subst e
        refine PS.seq (PS1.assign (loc kch) (PE.cbool ⟨rfl, ?_⟩) (by rfl))
        rw [stoV_set]
        have st0 : St Rc S os ct ct false (rset ρ "changed" (.fz (.bool false))) := ⟨base.set (by decide), rset_here, Pass.start sound ok⟩
        generalize rset ρ "changed" (.fz (.bool false)) = ρ at st0 ⊢
        refine PS.cons (Ψ := fun f q' => f = .next ∧ ∃ ct' ch' ρ', q' = stoV X.P os ct' ρ' ∧ St Rc S os ct ct' ch' ρ' ∧ Exact1 (ksOf Rc) ct' ∧ (ch' = false → ∀ c ∈ Rc, ∀ i, LastC c.k i ct ∧ ∀ j, i < j → BesC c.k i j ct))
          (PS1.for_ (nm := .seq) (R := fun l' => l' = Rc.map encQ) (IterE.seq (PE.name (a := stoV X.P os ct ρ) st0.base.rules ⟨tList, _, rfl, .inl rfl, rfl⟩)) (.inl ⟨by decide, _, _, rfl⟩) ?_) ?_ (fun f q' hne h => absurd h.1 hne)
        · rintro _ rfl
          refine ⟨fun i q' => ∃ ct' ch' ρ', q' = stoV X.P os ct' ρ' ∧ St Rc S os ct ct' ch' ρ' ∧ Exact1 (ksOf Rc) ct' ∧ (ch' = false → ∀ c ∈ Rc.take i, ∀ i, LastC c.k i ct ∧ ∀ j, i < j → BesC c.k i j ct), ⟨ct, false, ρ, rfl, st0, ex1, fun _ c hc => nomatch hc⟩, ?_, fun q' h => ⟨rfl, by simpa using h⟩⟩
          rintro i _ d hd ⟨ct₂, ch₂, ρ', rfl, st, ex₂, hdone⟩
          obtain ⟨c, hci, rfl, hcR⟩ := mem_rule hd
          refine ⟨_, PA.name (loc (kd hk (by rfl))), ?_⟩
          rw [stoV_set]
          have st₂ := st.set (x := "rule") (sl := .fz (encQ c))
          have gr₂ : rset ρ' "rule" (.fz (encQ c)) "rule" = some (.fz (encQ c)) := rset_here
          generalize rset ρ' "rule" (.fz (encQ c)) = ρ₂ at st₂ gr₂ ⊢
          clear st
          obtain ⟨hoS, hxS⟩ := sym_occ sy hcR
          have hcl := hex c hcR
          refine PS.cons (Ψ := fun f q' => f = .next ∧ ∃ ct₃ ch₃ ρ₃, q' = stoV X.P os ct₃ ρ₃ ∧ St Rc S os ct ct₃ ch₃ ρ₃ ∧ Exact1 (ksOf Rc) ct₃ ∧ (ch₃ = false → ch₂ = false ∧ ∀ i, LastC c.k i ct ∧ ∀ j, i < j → BesC c.k i j ct))
            (PS1.for_ (nm := .enum) (R := fun l' => l' = enumPV 0 (c.k.2.map sKey)) (IterE.call fen (.inr (.inl ⟨_, rfl⟩)) (PE.expansion (X := X) rfl (by show 7 ≤ 15; decide) gr₂ (fci_enum (.inr rfl) rfl))) (.inr ⟨_, _, _, rfl⟩) ?_) ?_ (fun f q' hne h => absurd h.1 hne)
          · rintro _ rfl
            refine ⟨fun m q' => ∃ ct₃ ch₃ ρ₃, q' = stoV X.P os ct₃ ρ₃ ∧ St Rc S os ct ct₃ ch₃ ρ₃ ∧ ρ₃ "rule" = some (.fz (encQ c)) ∧ Exact1 (ksOf Rc) ct₃ ∧ (ch₃ = false → ch₂ = false ∧ ∀ i' < m, LastC c.k i' ct ∧ ∀ j, i' < j → BesC c.k i' j ct), ⟨ct₂, ch₂, ρ₂, rfl, st₂, gr₂, ex₂, fun e => ⟨e, fun i' h => absurd h (Nat.not_lt_zero _)⟩⟩, ?_, ?_⟩
            · rintro m _ d hd ⟨ct₃, ch₃, ρ₃, rfl, st₃, gr₃, ex₃, hd₃⟩
              obtain ⟨x, hx, rfl, hxm⟩ := enum_at hd
              have hml : m < c.k.2.length := (List.getElem?_eq_some_iff.mp hx).1
              refine ⟨_, PA.tup ⟨_, PA.name (loc (kd hk (by rfl))), _, PA.name (loc (kd hk (by rfl))), rfl⟩, ?_⟩
              rw [stoV_set, stoV_set]
              have st₄ := (st₃.set (x := "i") (sl := .fz (.int (m : Nat)))).set (x := "sym") (sl := .fz (sKey x))
              have gr₄ := rset_there (x := "sym") (sl := .fz (sKey x)) (rset_there (x := "i") (sl := .fz (.int (m : Nat))) gr₃ (by decide)) (by decide)
              have gi₄ : rset (rset ρ₃ "i" (.fz (.int (m : Nat)))) "sym" (.fz (sKey x)) "i" = some (.fz (.int (m : Nat))) := rset_there rset_here (by decide)
              have gs₄ : rset (rset ρ₃ "i" (.fz (.int (m : Nat)))) "sym" (.fz (sKey x)) "sym" = some (.fz (sKey x)) := rset_here
              generalize rset (rset ρ₃ "i" (.fz (.int (m : Nat)))) "sym" (.fz (sKey x)) = ρ₄ at st₄ gr₄ gi₄ gs₄ ⊢
              obtain ⟨oN, hoN, hN⟩ := st₄.base.nul
              obtain ⟨oO, hoO⟩ := sy.has _ (key_fol hoS)
              obtain ⟨ox, hox⟩ := sy.has _ (key_fol (hxS x hxm))
              refine PS.cons (Ψ := fun f q' => f = .next ∧ ∃ ct₅ ch₅ ρ₅, q' = stoV X.P os ct₅ ρ₅ ∧ St Rc S os ct ct₅ ch₅ ρ₅ ∧ ρ₅ "rule" = some (.fz (encQ c)) ∧ ρ₅ "i" = some (.fz (.int (m : Nat))) ∧ ρ₅ "sym" = some (.fz (sKey x)) ∧ Exact1 (ksOf Rc) ct₅ ∧ (ch₅ = false → ch₃ = false ∧ LastC c.k m ct)) ?_ ?_ (fun f q' hne h => absurd h.1 hne)
              · have upd : ∀ {p1 p2 p3 p4 p5 p6 p7 p8 p9 p10 p11 p12 p13 : Pos} {kk : Nat}, (∀ y ∈ c.k.2.drop (m + 1), sKey y ∈ ct₃ .nul) → PS (X.act env V 15 (by decide)) (stoV X.P os ct₃ ρ₄)
                    [.If (.Call (.Name "update_set" p1) [.Subscript (.Name "FOLLOW" p2) (.Name "sym" p3) p4, .Subscript (.Name "FOLLOW" p5) (.Attribute (.Name "rule" p6) "origin" p7) p8] [] p9) [.Assign [.Name "changed" p10] (.Constant (.bool true) kk p11) p12] [] p13]
                    fun f q' => f = .next ∧ ∃ ct₅ ch₅ ρ₅, q' = stoV X.P os ct₅ ρ₅ ∧ St Rc S os ct ct₅ ch₅ ρ₅ ∧ ρ₅ "rule" = some (.fz (encQ c)) ∧ ρ₅ "i" = some (.fz (.int (m : Nat))) ∧ ρ₅ "sym" = some (.fz (sKey x)) ∧ Exact1 (ksOf Rc) ct₅ ∧ (ch₅ = false → ch₃ = false ∧ LastC c.k m ct) := by
                  intro p1 p2 p3 p4 p5 p6 p7 p8 p9 p10 p11 p12 p13 kk hb
                  refine PS.cons (PS1.step (X := X) (src := ct₃ (.fol (sKey c.k.1))) (k := .fol (sKey x)) (o := ox) rfl (by show 12 ≤ 15; decide) fus kch sy st₄ (key_fol (hxS x hxm)) hox
                    (PE.subst_ (X := X) (f := fun k => .fol (sKey k)) rfl (by show 5 ≤ 15; decide) st₄.base.fol hSn (PE.name (a := stoV X.P os ct₃ ρ₄) gs₄ ⟨x, ox, hxS x hxm, rfl, hox, rfl⟩))
                    (PE.subst_ (X := X) (f := fun k => .fol (sKey k)) rfl (by show 5 ≤ 15; decide) st₄.base.fol hSn (PE.origin (X := X) rfl (by show 7 ≤ 15; decide) gr₄ ⟨c.k.1, oO, hoS, rfl, hoO, src_of st₄.pass.ok hoO⟩))
                    (by have := ct_len sy st₄.pass.sound st₄.pass.ok (key_fol hoS); omega) (fun l hl => st₄.pass.sound.addFol fun t ht => ?_) (by rfl)) ?_ (fun f q' hne h => absurd h.1 hne)
                  · refine .last c.k (List.mem_map.mpr ⟨c, hcR, rfl⟩) m x t hx (fun y hy => (ex₃.nul y).mp (hb y hy)) ?_
                    have : sKey t ∈ ct₃ (.fol (sKey c.k.1)) := hl ▸ List.mem_map.mpr ⟨t, ht, rfl⟩
                    obtain ⟨k', e, h'⟩ := st₄.pass.sound.fol c.k.1 _ this; exact sKey_inj e ▸ h'
                  · rintro _ ⟨_, ct₅, ch₅, ρ₅, rfl, st₅, hρ, hct, hc⟩
                    refine PS.nil ⟨rfl, ct₅, ch₅, ρ₅, rfl, st₅, (hρ _ (by decide)).trans gr₄, (hρ _ (by decide)).trans gi₄, (hρ _ (by decide)).trans gs₄, ex₃.keep hct, fun e => ⟨(hc e).1, fun x' hx' _ t ht => ?_⟩⟩
                    rw [hx] at hx'
                    cases hx'
                    exact (hc e).2 t (st₃.pass.same (hc e).1 ▸ ht)
                refine PS1.if_ (PT.or_ (PT.cmp (PE.name (a := stoV X.P os ct₃ ρ₄) gi₄ (PE.bin (PE.call fle (.inr (.inr ⟨_, rfl⟩)) (PE.expansion (X := X) rfl (by show 7 ≤ 15; decide) gr₄ (fc_len_tuple (by rw [List.length_map]; omega) (PE.cint (op_sub (op_eq ⟨_, rfl, ?_, ?_⟩))))))))))
                · intro e
                  refine ⟨fun _ => upd fun y hy => ?_, (fun e => nomatch e)⟩
                  have e' : (m : Int) = ((c.k.2.map sKey).length : Int) - 1 := eq_of_beq e
                  rw [List.length_map] at e'
                  rw [List.drop_of_length_le (by omega)] at hy
                  cases hy
                · intro _
                  refine PT.plain (PE.holdsS (X := X) (k := .nul) (o := oN) rfl (by show 10 ≤ 15; decide) hoN hN (st₄.pass.ok.ok .nul oN hoN) (st₄.pass.ok.nd .nul oN hoN)
                    (PE.slice (PE.expansion (X := X) rfl (by show 7 ≤ 15; decide) gr₄ ⟨tTuple, c.k.2.map sKey, rfl, .inr rfl, by rw [List.length_map]; omega, PE.bin (PE.name (a := stoV X.P os ct₃ ρ₄) gi₄ (PE.cint (op_add ⟨m + 1, rfl, tTuple, c.k.2.drop (m + 1), by rw [cut_drop], .inr rfl, by rw [List.length_drop]; omega, _, rfl, ?_, ?_⟩)))⟩)) (by rfl) ⟨_, rfl⟩)
                  · intro hb
                    exact upd (dec_true hb)
                  · intro hb
                    have hb := dec_false hb
                    exact PS.nil ⟨rfl, ct₃, ch₃, ρ₄, rfl, st₄, gr₄, gi₄, gs₄, ex₃, fun e => ⟨e, fun x' _ hp => absurd (fun y hy => st₃.pass.same e ▸ hp y hy) hb⟩⟩
              · rintro _ ⟨_, ct₅, ch₅, ρ₅, rfl, st₅, gr₅, gi₅, gs₅, ex₅, hd₅⟩
                refine PS.cons (Ψ := fun f q' => f = .next ∧ ∃ ct₆ ch₆ ρ₆, q' = stoV X.P os ct₆ ρ₆ ∧ St Rc S os ct ct₆ ch₆ ρ₆ ∧ ρ₆ "rule" = some (.fz (encQ c)) ∧ Exact1 (ksOf Rc) ct₆ ∧ (ch₆ = false → ch₅ = false ∧ ∀ j, m < j → BesC c.k m j ct))
                  (PS1.for_ (nm := .seq) (R := fun l' => l' = numsFrom ((m : Int) + 1) (c.k.2.length - (m + 1))) (IterE.call fra (.inr (.inl ⟨_, rfl⟩)) (PE.bin (PE.name (a := stoV X.P os ct₅ ρ₅) gi₅ (PE.cint (op_add (PE.call fle (.inr (.inr ⟨_, rfl⟩)) (PE.expansion (X := X) rfl (by show 7 ≤ 15; decide) gr₅ (fc_len_tuple (by rw [List.length_map]; omega) (fci_range (by omega) (by omega) (by rw [List.length_map]; omega) (by rw [List.length_map]; omega) ?_))))))))) (.inl ⟨by decide, _, _, rfl⟩) ?_) ?_ (fun f q' hne h => absurd h.1 hne)
                · rw [List.length_map]
                  congr 1
                  omega
                · rintro _ rfl
                  refine ⟨fun n q' => ∃ ct₆ ch₆ ρ₆, q' = stoV X.P os ct₆ ρ₆ ∧ St Rc S os ct ct₆ ch₆ ρ₆ ∧ ρ₆ "rule" = some (.fz (encQ c)) ∧ ρ₆ "i" = some (.fz (.int (m : Nat))) ∧ ρ₆ "sym" = some (.fz (sKey x)) ∧ Exact1 (ksOf Rc) ct₆ ∧ (ch₆ = false → ch₅ = false ∧ ∀ j, m < j → j < m + 1 + n → BesC c.k m j ct), ⟨ct₅, ch₅, ρ₅, rfl, st₅, gr₅, gi₅, gs₅, ex₅, fun e => ⟨e, fun j h1 h2 => by omega⟩⟩, ?_, ?_⟩
                  · rintro n _ d hd ⟨ct₆, ch₆, ρ₆, rfl, st₆, gr₆, gi₆, gs₆, ex₆, hd₆⟩
                    obtain ⟨rfl, hn⟩ := numsFrom_get _ _ _ hd
                    have hjl : m + 1 + n < c.k.2.length := by omega
                    obtain ⟨y, hy⟩ : ∃ y, c.k.2[m + 1 + n]? = some y := ⟨_, List.getElem?_eq_getElem hjl⟩
                    have hym : y ∈ c.k.2 := List.mem_of_getElem? hy
                    have hint : PV.int ((m : Int) + 1 + (n : Nat)) = .int ((m + 1 + n : Nat) : Int) := by congr 1
                    refine ⟨_, PA.name (loc (kd hk (by rfl))), ?_⟩
                    rw [stoV_set, hint]
                    have st₇ := st₆.set (x := "j") (sl := .fz (.int ((m + 1 + n : Nat) : Int)))
                    have gr₇ := rset_there (x := "j") (sl := .fz (.int ((m + 1 + n : Nat) : Int))) gr₆ (by decide)
                    have gi₇ := rset_there (x := "j") (sl := .fz (.int ((m + 1 + n : Nat) : Int))) gi₆ (by decide)
                    have gs₇ := rset_there (x := "j") (sl := .fz (.int ((m + 1 + n : Nat) : Int))) gs₆ (by decide)
                    have gj₇ : rset ρ₆ "j" (.fz (.int ((m + 1 + n : Nat) : Int))) "j" = some (.fz (.int ((m + 1 + n : Nat) : Int))) := rset_here
                    generalize rset ρ₆ "j" (.fz (.int ((m + 1 + n : Nat) : Int))) = ρ₇ at st₇ gr₇ gi₇ gs₇ gj₇ ⊢
                    obtain ⟨oN, hoN, hN⟩ := st₇.base.nul
                    obtain ⟨oy, hoy⟩ := sy.has _ (key_fst (hxS y hym))
                    refine PS.cons (Ψ := fun f q' => f = .next ∧ ∃ ct₆ ch₆ ρ₆, q' = stoV X.P os ct₆ ρ₆ ∧ St Rc S os ct ct₆ ch₆ ρ₆ ∧ ρ₆ "rule" = some (.fz (encQ c)) ∧ ρ₆ "i" = some (.fz (.int (m : Nat))) ∧ ρ₆ "sym" = some (.fz (sKey x)) ∧ Exact1 (ksOf Rc) ct₆ ∧ (ch₆ = false → ch₅ = false ∧ ∀ j, m < j → j < m + 1 + (n + 1) → BesC c.k m j ct))
                      (PS1.if_ (PT.plain (PE.holdsS (X := X) (k := .nul) (o := oN) rfl (by show 10 ≤ 15; decide) hoN hN (st₇.pass.ok.ok .nul oN hoN) (st₇.pass.ok.nd .nul oN hoN)
                        (PE.slice (PE.expansion (X := X) rfl (by show 7 ≤ 15; decide) gr₇ ⟨tTuple, c.k.2.map sKey, rfl, .inr rfl, by rw [List.length_map]; omega, PE.bin (PE.name (a := stoV X.P os ct₆ ρ₇) gi₇ (PE.cint (op_add ⟨m + 1, rfl, PE.name (a := stoV X.P os ct₆ ρ₇) gj₇ ⟨m + 1 + n, rfl, tTuple, (c.k.2.take (m + 1 + n)).drop (m + 1), by rw [cut_mid], .inr rfl, by rw [List.length_drop, List.length_take]; omega, _, rfl, ?_, ?_⟩⟩)))⟩)) (by rfl) ⟨_, rfl⟩))) (fun q' h => PS.nil h.2) (fun f q' hne h => absurd h.1 hne)
                    · intro hb
                      have hb := dec_true hb
                      refine PS.cons (PS1.step (X := X) (src := ct₆ (.fst (sKey y))) (k := .fol (sKey x)) (o := ox) rfl (by show 12 ≤ 15; decide) fus kch sy st₇ (key_fol (hxS x hxm)) hox
                        (PE.subst_ (X := X) (f := fun k => .fol (sKey k)) rfl (by show 5 ≤ 15; decide) st₇.base.fol hSn (PE.name (a := stoV X.P os ct₆ ρ₇) gs₇ ⟨x, ox, hxS x hxm, rfl, hox, rfl⟩))
                        (PE.subst_ (X := X) (f := fun k => .fst (sKey k)) rfl (by show 5 ≤ 15; decide) st₇.base.fst hSn (PE.item (PE.expansion (X := X) rfl (by show 7 ≤ 15; decide) gr₇ ⟨tTuple, c.k.2.map sKey, rfl, .inr rfl, by rw [List.length_map]; omega, PE.name (a := stoV X.P os ct₆ ρ₇) gj₇ ⟨m + 1 + n, sKey y, rfl, by rw [List.getElem?_map, hy]; rfl, y, oy, hxS y hym, rfl, hoy, src_of st₇.pass.ok hoy⟩⟩)))
                        (by have := ct_len sy st₇.pass.sound st₇.pass.ok (key_fst (hxS y hym)); omega) (fun l hl => st₇.pass.sound.addFol fun t ht => ?_) (by rfl)) ?_ (fun f q' hne h => absurd h.1 hne)
                      · refine .beside c.k (List.mem_map.mpr ⟨c, hcR, rfl⟩) m (m + 1 + n) x y t hx (by omega) hy (fun z hz => (ex₆.nul z).mp (hb z hz)) ?_
                        have : sKey t ∈ ct₆ (.fst (sKey y)) := hl ▸ List.mem_map.mpr ⟨t, ht, rfl⟩
                        exact (ex₆.fst y t).mp this
                      · rintro _ ⟨_, ct₈, ch₈, ρ₈, rfl, st₈, hρ, hct, hc⟩
                        refine PS.nil ⟨rfl, ct₈, ch₈, ρ₈, rfl, st₈, (hρ _ (by decide)).trans gr₇, (hρ _ (by decide)).trans gi₇, (hρ _ (by decide)).trans gs₇, ex₆.keep hct, fun e => ⟨(hd₆ (hc e).1).1, fun j h1 h2 => ?_⟩⟩
                        rcases Nat.lt_or_ge j (m + 1 + n) with h | h
                        · exact (hd₆ (hc e).1).2 j h1 h
                        · have : j = m + 1 + n := by omega
                          subst this
                          intro x' y' hx' hy' _ t ht
                          rw [hx] at hx'
                          rw [hy] at hy'
                          cases hx'
                          cases hy'
                          exact (hc e).2 t (st₆.pass.same (hc e).1 ▸ ht)
                    · intro hb
                      have hb := dec_false hb
                      refine PS.nil ⟨rfl, ct₆, ch₆, ρ₇, rfl, st₇, gr₇, gi₇, gs₇, ex₆, fun e => ⟨(hd₆ e).1, fun j h1 h2 => ?_⟩⟩
                      rcases Nat.lt_or_ge j (m + 1 + n) with h | h
                      · exact (hd₆ e).2 j h1 h
                      · have : j = m + 1 + n := by omega
                        subst this
                        exact fun x' y' _ _ hp => absurd (fun z hz => st₆.pass.same e ▸ hp z hz) hb
                  · rintro _ ⟨ct₆, ch₆, ρ₆, rfl, st₆, gr₆, gi₆, gs₆, ex₆, hd₆⟩
                    refine ⟨rfl, ct₆, ch₆, ρ₆, rfl, st₆, gr₆, ex₆, fun e => ⟨(hd₆ e).1, fun j h1 => ?_⟩⟩
                    rcases Nat.lt_or_ge j c.k.2.length with h | h
                    · exact (hd₆ e).2 j h1 (by rw [numsFrom_length]; omega)
                    · intro x' y' _ hy'
                      rw [List.getElem?_eq_none h] at hy'
                      cases hy'
                · rintro _ ⟨_, ct₆, ch₆, ρ₆, rfl, st₆, gr₆, ex₆, hd₆⟩
                  refine PS.nil ⟨ct₆, ch₆, ρ₆, rfl, st₆, gr₆, ex₆, fun e => ?_⟩
                  have e₅ := (hd₆ e).1
                  have e₃ := (hd₅ e₅).1
                  refine ⟨(hd₃ e₃).1, fun i' hi' => ?_⟩
                  rcases Nat.lt_succ_iff_lt_or_eq.mp hi' with h | rfl
                  · exact (hd₃ e₃).2 i' h
                  · exact ⟨(hd₅ e₅).2, (hd₆ e).2⟩
            · rintro _ ⟨ct₃, ch₃, ρ₃, rfl, st₃, gr₃, ex₃, hd₃⟩
              refine ⟨rfl, ct₃, ch₃, ρ₃, rfl, st₃, ex₃, fun e => ⟨(hd₃ e).1, fun i' => ?_⟩⟩
              rcases Nat.lt_or_ge i' c.k.2.length with h | h
              · exact (hd₃ e).2 i' (by rw [enumPV_length, List.length_map]; exact h)
              · have hnone := List.getElem?_eq_none h
                exact ⟨(fun x' hx' => by rw [hnone] at hx'; cases hx'), (fun j _ x' y' hx' => by rw [hnone] at hx'; cases hx')⟩
          · rintro _ ⟨_, ct₃, ch₃, ρ₃, rfl, st₃, ex₃, hd₃⟩
            refine PS.nil ⟨ct₃, ch₃, ρ₃, rfl, st₃, ex₃, fun e c' hc' => ?_⟩
            rcases take_rules hci hc' with h | rfl
            · exact hdone (hd₃ e).1 c' h
            · exact (hd₃ e).2
        · rintro _ ⟨_, ct', ch', ρ', rfl, st, ex', hcl'⟩
          refine PS.nil ⟨_, ?_, ct', ch', ρ', rfl, st.base, st.chg, st.pass.ok, st.pass.sound, ex', rfl, fun e => ?_⟩
          · have b1 := sz_le sy sound ok
            have b2 := sz_le sy st.pass.sound st.pass.ok
            rw [if_pos rfl]
            cases ch' with
            | false => rw [if_neg (by decide)]; omega
            | true => have := st.pass.more rfl; rw [if_pos rfl]; omega
          · have hc := hcl' e
            rw [st.pass.same e]
            refine ⟨fun r hr i x => ?_, fun r hr i j x y hx hij => ?_⟩
            · obtain ⟨c, hc', rfl⟩ := List.mem_map.mp hr; exact (hc c hc' i).1 x
            · obtain ⟨c, hc', rfl⟩ := List.mem_map.mp hr; exact (hc c hc' i).2 j hij x y hx
      · rintro _ ⟨_, ct, ρ, rfl, base, ok, sound, ex⟩
        refine PS.cons (Ψ := fun f q' => f ≠ .next ∧ Gives (CalcOut Rc) f q') (PS1.retSets base sy nU fun q' => ⟨(fun e => nomatch e), S, ct, hSn, hocc, ex, sound, fun k hk' => ?_, rfl⟩) (fun q' h => absurd rfl h.1) fun f q' _ h => h.2
        obtain ⟨o, ho⟩ := sy.has k hk'
        exact ok.nd k o ho
end Mine
namespace Mine
open PySem PySem.W PySem.Calls PyProof.Rows

/-- a class of rows, as it is made -/
structure RowMk (X : Wk) (C f sm : Addr) : Prop where
  hl : ∃ od cd sl, (X39 X).lookup C = some ⟨.type "type", od, .cls cd, sl⟩ ∧ cd.mro = [.ref C, .type "tuple", .type "object"] ∧ cd.bases = [.type "tuple"] ∧ cd.abstract = false ∧ cd.hasDel = false ∧ (sl.toList[4]?).join = some .none
  sub : subIn (X39 X) (.ref C) (.type "tuple") = some true
  self : subIn (X39 X) (.ref C) (.ref C) = some true
  top : subIn (X39 X) (.ref C) (.type "object") = some true
  init : findIn (X39 X) (.ref C) "__init__" = some (some (.builtin "object.__init__"))
  call : specialIn (X39 X) (.ref C) "__call__" = some (some (.builtin "type.__call__"))
  typ : instIn (X39 X) (.ref C) (.type "type") = some true
  reads : readsIn (X39 X) C (.type "type") = true
  new : findCls (X39 X) (.ref C) (.type "type") "__new__" = some (.get (.builtin "staticmethod.__get__") (.ref sm) .none (.ref C))
  smo : recIn (X39 X) sm "staticmethod" = some [.ref f]
theorem mk_sym {X : Wk} : RowMk X 228 178 229 := ⟨⟨_, _, _, by rfl, rfl, rfl, rfl, rfl, rfl⟩, by rfl, by rfl, by rfl, by rfl, by rfl, by rfl, by rfl, by rfl, by rfl⟩

section
variable {X : Wk} {A : Around} {E : Value → Shared → Prop} {C f sm : Addr}
theorem best_tuple : Builtin.Slots.bestBase [.type "tuple"] = pure (.type "tuple") := by kernel_rfl
theorem RowMk.made {h : Heap} (K0 : (X39 X).In h) (r : RowMk X C f sm) : Looks X.mo h (Bind.madeBy (.ref C)) none := by
  obtain ⟨od, cd, sl, hl, e1, e2, e3, e4, e5⟩ := r.hl
  have hc : clsIn (X39 X) C = some cd := by unfold clsIn; rw [hl]
  have hm : Looks X.mo h (mroOf (.ref C)) cd.mro := (looks_clsIn K0 hc).andThen .now
  intro A Q E s k q
  unfold Bind.madeBy
  refine wpAny_bind (hm A _ E s k ?_)
  rw [e1, List.forIn_cons]
  refine wpAny_bind (wpAny_bind (wpAny_bind (wpAny_bind (wpAny_loadPart (k _ _ (K0 _ _ hl)) (wpAny_pure ?_)))))
  dsimp only
  rw [← Array.getElem?_toList, e5]
  exact wpAny_pure (wpAny_pure (wpAny_pure q))
theorem RowMk.base {h : Heap} (K0 : (X39 X).In h) (r : RowMk X C f sm) : Looks X.mo h (Bind.staticBase (.ref C)) (.type "tuple") := by
  have made := r.made K0
  obtain ⟨od, cd, sl, hl, e1, e2, e3, e4, e5⟩ := r.hl
  have hc : clsIn (X39 X) C = some cd := by unfold clsIn; rw [hl]
  have hm : Looks X.mo h (mroOf (.ref C)) cd.mro := (looks_clsIn K0 hc).andThen .now
  intro A Q E s k q
  unfold Bind.staticBase
  refine wpAny_bind (hm A _ E s k ?_)
  rw [e1, List.forIn_cons]
  refine wpAny_bind (wpAny_bind (wpAny_bind (made A _ E s k ?_)))
  simp only [Option.isSome_none, Bool.false_eq_true, if_false]
  refine wpAny_bind (looks_clsIn K0 hc A _ E s k ?_)
  rw [e2, best_tuple]
  refine wpAny_bind (wpAny_pure (wpAny_pure ?_))
  dsimp only
  rw [List.forIn_cons]
  refine wpAny_bind (wpAny_bind ?_)
  dsimp only
  rw [PySem.F.called_tuple.made]
  refine wpAny_pure ?_
  rw [if_pos (by rfl)]
  exact wpAny_pure (wpAny_pure (wpAny_pure q))

def tnewSig : Manifest.Signature := (Manifest.signature? "tuple.__new__").getD ⟨.hand, "", "", .none, []⟩
/-- tuple.__new__(C, t) -/
theorem call_tnew {s : Shared} {t : Addr} {vs : Array Value} {m : Nat} {Q : Value → Shared → Prop} (K0 : (X39 X).In s.heap) (r : RowMk X C f sm) (ho : s.heap.get? t = some (seqO tTuple vs m)) (hz : vs.size ≤ 4096)
    (h : ∀ h' a od, (∀ b o, s.heap.get? b = some o → h'.get? b = some o) → s.heap.get? a = none → h'.get? a = some (rowO C od vs 0) → Q (.ref a) { s with heap := h' }) : wpAny X.mo A (call (.builtin "tuple.__new__") [.ref C, .ref t]) Q E s := by
  have made := r.made K0
  have base := r.base K0
  have sub := looks_subIn (M := X.mo) K0 r.sub
  have init := looks_findIn (M := X.mo) K0 r.init
  obtain ⟨od, cd, sl, hl, e1, e2, e3, e4, e5⟩ := r.hl
  have hC := K0 _ _ hl
  have here : Looks X.mo s.heap (Bind.madeHere "tuple.__new__" (.ref C)) () := base.andThen (by
    rw [PySem.F.called_tuple.made]
    exact Looks.now.andThen (Looks.of_pure (by simp only [Option.map_some, bne_self_eq_false, Bool.false_eq_true, if_false])))
  refine wpAny_call (codeAny_call_builtin (F.plain_tuple_new) PySem.F.entry_tuple_new ?_)
  obtain ⟨hh, g, d, tk, os⟩ := s
  dsimp only at made base sub init hC here ho
  have hmt : Looks (model X.prog X.w) hh (Bind.madeBy (.type "tuple")) (some "tuple.__new__") := Looks.of_pure PySem.F.called_tuple.made
  have sg : Manifest.signature? "tuple.__new__" = some tnewSig := by kernel_rfl
  have hargs : Bind.checkArgs "tuple.__new__" tnewSig ⟨[.ref C, .ref t], []⟩ = pure () := by kernel_rfl
  simp only [checkBuiltinCall, show builtinKind "tuple.__new__" = some .builtinFn from by decide +kernel, show splitId "tuple.__new__" = some ("tuple", "__new__") from by decide +kernel, sg, hargs]
  have hz' : vs.size ≤ sizeLine := Nat.le_trans hz (by decide)
  repeat (first | with_reducible refine wpAny_collect_seq (T := "tuple") t (.inr rfl) ho rfl rfl (fun h' hk => ?_) hz' | simp only [bne_self_eq_false, Bool.false_eq_true, if_false] | lk)
  rw [if_neg (by simpa using Nat.not_lt.mpr hz')]
  unfold newObjAsIs classHasDel
  refine wpAny_bind (wpAny_alloc (wpAny_bind (wpAny_bind (wpAny_load (Heap.get?_push_of_some _ (Heap.get?_push_of_some _ (hk _ _ hC))) (wpAny_pure ?_)))))
  rw [e4]
  refine wpAny_pure (wpAny_pure ?_)
  have hsz : (h'.push { cls := .type "dict", data := .dict #[] }).objs.size = h'.objs.size + 1 := Heap.size_push ..
  refine h _ _ (some h'.objs.size) (fun b o e => Heap.get?_push_of_some _ (Heap.get?_push_of_some _ (hk b o e))) (none_of_keep (fun o => hk _ o) (get?_none_of_le (by rw [hsz]; exact Nat.le_succ _))) ?_
  rw [Heap.get?_push_size _ rfl, Array.toArray_toList]
end
end Mine
namespace Mine
open PySem PySem.W PySem.Calls PyProof.Rows

section
variable {X : Wk} {A : Around} {E : Value → Shared → Prop} {C f sm : Addr}
theorem get_new {s : Shared} {expr : Bool} {Q : Value → Shared → Prop} (K0 : (X39 X).In s.heap) (r : RowMk X C f sm) (h : Q (.ref f) { s with toks := s.toks + 1 }) : wpAny X.mo A (getAttr (.ref C) "__new__" expr) Q E s :=
  cls_bind K0 r.reads r.new (wpAny_call (sm_get (s := { s with toks := s.toks + 1 }) K0 r.smo (handed_on rfl h)))

theorem call_oinit {s : Shared} {a : Addr} {od : Option Addr} {vs : Array Value} {m : Nat} {rest : List Value} {Q : Value → Shared → Prop} (K0 : (X39 X).In s.heap) (r : RowMk X C f sm) (ho : s.heap.get? a = some (rowO C od vs m)) (hargs : argsOk "object.__init__" ⟨.ref a :: rest, []⟩) (hne : rest.isEmpty = false) (h : Q .none s) :
    wpAny X.mo A (call (.builtin "object.__init__") ([.ref a] ++ rest)) Q E s := by
  have T : Looks X.mo s.heap (typeOf (.ref a)) (.ref C) := row_type ho
  have I2 : Looks X.mo s.heap (isInstance (.ref a) (.type "object")) true := T.andThen (looks_subIn K0 r.top)
  have init := looks_findIn (M := X.mo) K0 r.init
  have made := r.made K0
  refine wpAny_call (codeAny_call_builtin oi_plain entry_oi (@check_slot X.mo _ _ s "object.__init__" "object" "__init__" (.ref a) rest [] _ oi_kind oi_split I2 hargs ?_))
  obtain ⟨b, rest, rfl⟩ : ∃ b r, rest = b :: r := by cases rest with | nil => cases hne | cons b r => exact ⟨b, r, rfl⟩
  obtain ⟨hh, g, d, tk, os⟩ := s
  dsimp only at T init made
  unfold Builtin.«object.__init__»
  repeat (first | lk)
  exact h

theorem call_cls {s : Shared} {V : Rgn} {rest : List Value} {n : Nat} {P : PV → Prop} {Q : Value → Shared → Prop} {ds : List PV} (H : Hp X.toWd V s) (r : RowMk X C f sm) (hA : AOk A (n + 1)) (hargs : ∀ a, argsOk "object.__init__" ⟨.ref a :: rest, []⟩) (hre : rest.isEmpty = false) (hf : FC X.toWd n (.ref f) (.ptr C :: ds) fun d => ∃ l, d = .row C l ∧ P d) (hv : Vals X.P V s.heap ds rest)
    (h : ∀ v s', Res X.toWd V P s v s' → Q v s') : wpAny X.mo A (call (.ref C) rest) Q E s := by
  have K0 : (X39 X).In s.heap := H.k39
  obtain ⟨od, cd, sl, hl, e1, e2, e3, e4, e5⟩ := id r.hl
  have hC := K0 _ _ hl
  have hcl := looks_specialIn (M := X.mo) K0 r.call
  have typ := looks_instIn (M := X.mo) K0 r.typ
  have made := r.made K0
  have hm : Looks X.mo s.heap (mroOf (.ref C)) cd.mro := (looks_clsIn K0 (show clsIn (X39 X) C = some cd by unfold clsIn; rw [hl])).andThen .now
  refine wpAny_call (codeAny_of_tree ?_)
  show wpAny _ _ (callAny (.ref C) _) _ _ _
  refine nd_load hC ?_
  show wpAny _ _ (callAny.viaDunder (.ref C) _) _ _ _
  unfold callAny.viaDunder
  refine wpAny_bind (hcl.here ?_)
  dsimp only
  rw [tc_bind]
  refine wpAny_bind (wpAny_pure (wpAny_bind (wpAny_pure ?_)))
  refine wpAny_pure (a := Fin.again (.call (.builtin "type.__call__") ⟨.ref C :: rest, []⟩)) (And.intro rfl ?_)
  refine codeAny_call_builtin_at (Code.quiet_builtin _ (by decide +kernel)) entry_typeCall (check_slot tc_kind tc_split typ (tc_args _ _ _) ?_)
  have hA' : AOk (A.under (.builtin "type.__call__" ⟨.ref C :: rest, []⟩)) n := aok_tc hA
  generalize A.under (.builtin "type.__call__" ⟨.ref C :: rest, []⟩) = A' at hA' ⊢
  unfold Builtin.«type.__call__»
  obtain ⟨hh, g, d, tk, os⟩ := s
  dsimp only at made hm
  have hne : cd.mro.isEmpty = false := by rw [e1]; rfl
  have hcall : ∀ {tk' : Nat} {E' : Value → Shared → Prop} {Q' : Value → Shared → Prop}, (∀ v s', Res X.toWd V (fun d => ∃ l, d = .row C l ∧ P d) ⟨hh, g, d, tk', os⟩ v s' → Q' v s') → wpAny (model X.prog X.w) A' (call (.ref f) (.ref C :: rest)) Q' E' ⟨hh, g, d, tk', os⟩ := fun {tk' E' Q'} k =>
    wpAny_mono (hf A' E' ⟨hh, g, d, tk', os⟩ V (.ref C :: rest) hA' ⟨H.keep, H.bnd, H.low⟩ (by rw [vals_cons']; exact ⟨val_ptr.mpr rfl, hv⟩)) k fun _ _ z => z
  repeat (first | simp only [hne, Bool.false_eq_true, if_false] | with_reducible refine get_new (X := X) K0 r ?_ | with_reducible refine hcall (fun v s₂ hres => ?_) | lk)
  obtain ⟨st, d', ⟨l, rfl, hP⟩, hd⟩ := hres
  obtain ⟨a, n', oe, ws, rfl, na, ho, hw⟩ := val_row.mp hd
  have K2 : (X39 X).In s₂.heap := K0.keeps fun b o e => st.kp b o e
  obtain ⟨hh₂, g₂, d₂, tk₂, os₂⟩ := s₂
  dsimp only at K2 ho
  have T : Looks (model X.prog X.w) hh₂ (typeOf (.ref a)) (.ref C) := row_type (X := X) (s := ⟨hh₂, g₂, d₂, tk₂, os₂⟩) ho
  have self := looks_subIn (M := X.mo) K2 r.self
  have init := looks_findIn (M := X.mo) K2 r.init
  have made₂ := r.made K2
  have I1 : Looks (model X.prog X.w) hh₂ (isInstance (.ref a) (.ref C)) true := T.andThen self
  have I2 : Looks (model X.prog X.w) hh₂ (isInstance (.ref a) (.type "object")) true := T.andThen (looks_subIn K2 r.top)
  have hob := oi_bind (.ref a)
  have hoi : ∀ {E' : Value → Shared → Prop} {Q' : Value → Shared → Prop}, Q' .none ⟨hh₂, g₂, d₂, tk₂, os₂⟩ → wpAny (model X.prog X.w) A' (call (.builtin "object.__init__") ([.ref a] ++ rest)) Q' E' ⟨hh₂, g₂, d₂, tk₂, os₂⟩ := fun k => call_oinit (X := X) (s := ⟨hh₂, g₂, d₂, tk₂, os₂⟩) K2 r ho (hargs a) hre k
  repeat (first | simp only [Bool.not_true, Bool.false_eq_true, if_false, hob] | with_reducible refine hoi ?_ | lk)
  refine h _ _ ⟨?_, _, hP, hd⟩
  exact (Step.toks (s := ⟨hh, g, d, tk, os⟩) (t := tk + 1)).trans st
end
end Mine
namespace Mine
open PySem PySem.W PySem.Calls PyProof.Rows

section
variable {X : Wk} {A : Around} {E : Value → Shared → Prop} {s : Shared} {V : Rgn}
theorem tuple_nw : findCls (X39 X) (.type "tuple") (.type "type") "__new__" = some (.val (.builtin "tuple.__new__")) := by with_unfolding_all rfl
theorem meth_tnew {pl : Sem Bool} {Q : Value × List Value → Shared → Prop} (H : Hp X.toWd V s) (h : Q (.builtin "tuple.__new__", []) { s with toks := s.toks + 1 }) : wpAny X.mo A (getMethod (.type "tuple") "__new__" pl) Q E s := by
  have K0 := H.k39
  have LO : Looks X.mo s.heap (opaqueClassAbove (.type "tuple")) none := Looks.of_pure (by unfold opaqueClassAbove; dsimp only; rw [show Manifest.isStub "tuple" = false from by decide +kernel]; rfl)
  have L0 : Looks X.mo s.heap (typeOf (.type "tuple")) (.type "type") := Looks.of_pure (by with_unfolding_all rfl)
  unfold getMethod specialOf
  refine wpAny_bind (wpAny_bind (L0.here ((looks_findIn K0 (tuple_tga (X := X))).here ?_)))
  dsimp only
  rw [if_pos canon_tga]
  refine wpAny_bind (wpAny_mono (Q := fun v => Q (v, [])) (E := E) ?_ (fun _ _ z => wpAny_pure z) fun _ _ z => z)
  refine cls_open K0 LO L0 tuple_tga (looks_hook K0 (r := none) (by rfl)) (by show subIn (X39 X) _ _ = _; with_unfolding_all rfl) tuple_nw (wpAny_pure ?_)
  show wpAny _ _ (handedOut (.builtin "tuple.__new__")) _ _ _
  rw [handedOut_of (by decide +kernel)]
  exact wpAny_pure h

/-- tuple.__new__(_cls, (..)) -/
theorem PE.tnew {Y : Act} {q : Vw} {C f sm : Addr} {ds : List PV} {x : Str} {es : List Expr} {kk : Nat} {p1 p2 p3 p4 pos : Pos} {P : PV → Prop} (hY : Y.toWd = X.toWd) (r : RowMk X C f sm) (fu : FnIs Y "tuple" (.type "tuple")) (hc : q.ρ x = some (.fz (.ptr C))) (h : PE Y q (.Tuple es kk p4) fun d => d = .tup ds) (hz : ds.length ≤ 4096) (hP : P (.row C ds))
    (he : ∃ pl, eval (.Call (.Attribute (.Name "tuple" p1) "__new__" p2) [.Name x p3, .Tuple es kk p4] [] pos) Y.env = (do
      let ov ← eval (.Name "tuple" p1) Y.env
      standAt p2.atName
      let (f, first) ← holding [ov] (getMethod ov "__new__" pl)
      callWith pos f first (backTo pos (starEach [.Name x p3, .Tuple es kk p4] Y.env)) (backToKw pos (keywordEach [] Y.env))))
    (hd : (x == ("__debug__" : Str)) = false := by decide) (hcd : (x == ("__classdict__" : Str)) = false := by decide) :
    PE Y q (.Call (.Attribute (.Name "tuple" p1) "__new__" p2) [.Name x p3, .Tuple es kk p4] [] pos) P := fun M V A E s hA G => by
  have hm : Y.mo = X.mo := congrArg Wd.mo hY
  have hPP : Y.P = X.P := congrArg Wd.P hY
  obtain ⟨pl, he⟩ := he
  refine methodCall_KW (pl := pl) (rd_fn G fu ?_) he
  rw [hm]
  refine meth_tnew (X := X) (hY ▸ G.hp) ?_
  rw [← hm]
  have G₁ := G.toks (s.toks + 1)
  refine callWith_of (P := fun h => Y.K.In h) (by rfl) (fun h hh => Callee.looks (X := Y.toWd) (.inr (.inr ⟨_, rfl⟩)) hh) ?_
  have hp : PEs Y q [.Name x p3, .Tuple es kk p4] fun l => l = [.ptr C, .tup ds] := PE.name hc (PE.mono h fun d hd => by rw [hd]; rfl) hd hcd
  refine args_any hp (by rfl) hA G₁ fun vs s' l hl hv st G' => ⟨G'.hp.inK, ?_⟩
  subst hl
  obtain ⟨v₁, r₁, rfl, h1, hv⟩ := vals_cons.mp hv
  obtain ⟨v₂, r₂, rfl, h2, hv⟩ := vals_cons.mp hv
  have := vals_nil.mp hv
  subst this
  have := val_ptr.mp h1
  subst this
  obtain ⟨t, m, ws, rfl, nt, ho, hw⟩ := val_seq.mp h2
  have H : Hp X.toWd V s' := hY ▸ G'.hp
  have hl := hw.length
  rw [hm]
  refine call_tnew (X := X) H.k39 r ho (by simp at hl; omega) fun h' a od hk hn hob => ?_
  refine ⟨Step.trans (Step.toks (t := s.toks + 1)) (st.trans (Step.heap (t := s'.toks) fun b o _ e => hk b o e)), _, hP, val_row.mpr ⟨a, 0, od, ws, rfl, fun w => ?_, hob, hw.keeps fun b o _ e => hk b o e⟩⟩
  obtain ⟨o, e⟩ := H.bnd a w
  rw [hn] at e; cases e
end
theorem row_args2 (a b c : Value) : argsOk "object.__init__" ⟨[a, b, c], []⟩ := by unfold argsOk; kernel_rfl
theorem row_args5 (a b c d e f : Value) : argsOk "object.__init__" ⟨[a, b, c, d, e, f], []⟩ := by unfold argsOk; kernel_rfl

/-- Symbol.__new__ -/
theorem fc_symnew {X : Wk} {x : Str} {b : Bool} : FC X.toWd 6 (.ref 178) [.ptr 228, .str x, .bool b] fun d => ∃ l, d = .row 228 l ∧ (.row 228 l : PV) = .sym x b := by
  refine fc_enter (n := 5) (by decide) (names := ["_cls", "name", "is_term"]) (by rw [X.hK]; rfl) rfl rfl (fun vals hv => match vals, hv with | [a, b, c], _ => rfl) rfl (by decide)
    (fun L x hx => by
      simp only [List.mem_cons, List.mem_singleton, List.not_mem_nil, or_false] at hx
      rcases hx with hx | hx | hx <;> subst hx <;> exact .inl (by rfl)) (by rw [X.hK]; rfl) rfl rfl rfl rfl rfl fun L V env he => ?_
  have hk := congrArg (fun e : Env => e.scope.names) he
  dsimp only [callEnvC, newEnv] at hk
  have hi : interactive env = false := by rw [he]; rfl
  clear he
  have fu : FnIs (X.act env V 5 (by decide)) "tuple" (.type "tuple") := fnis_b (X := X) rfl (kd hk (by rfl)) (by rfl) (by rfl)
  refine PS.seq (PS1.expr (PE.cstr ⟨rfl, ?_⟩) hi (by rfl))
  exact PS.ret (PE.tnew (X := X) (ds := [.str x, .bool b]) rfl mk_sym fu (q0_here (by rfl)) (PE.tup (PE.name (q0_here (by rfl)) (PE.name (q0_here (by rfl)) ⟨by simp, rfl⟩))) (by simp) ⟨_, rfl, rfl⟩ ⟨_, rfl⟩)
theorem fc_sym {X : Wk} {x : Str} {b : Bool} : FC X.toWd 7 (.ref 228) [.str x, .bool b] fun d => d = .sym x b := fun A E s V vs hA H hv => by
  obtain ⟨v₁, r, rfl, h1, hv'⟩ := vals_cons.mp hv
  obtain ⟨v₂, r, rfl, h2, hv'⟩ := vals_cons.mp hv'
  have := vals_nil.mp hv'
  subst this
  exact call_cls (X := X) (P := fun d => d = .sym x b) H mk_sym hA (fun a => row_args2 _ _ _) rfl ((fc_symnew (X := X)).mono (Nat.le_refl _) fun d ⟨l, e, e2⟩ => ⟨l, e, e.trans e2⟩) hv fun v s' r => r
end Mine
namespace Mine
open PySem PySem.W PySem.Calls PyProof.Rows

theorem mk_opt {X : Wk} : RowMk X 308 249 309 := ⟨⟨_, _, _, by rfl, rfl, rfl, rfl, rfl, rfl⟩, by rfl, by rfl, by rfl, by rfl, by rfl, by rfl, by rfl, by rfl, by rfl⟩
theorem mk_rule {X : Wk} : RowMk X 388 329 389 := ⟨⟨_, _, _, by rfl, rfl, rfl, rfl, rfl, rfl⟩, by rfl, by rfl, by rfl, by rfl, by rfl, by rfl, by rfl, by rfl, by rfl⟩

theorem fc_optnew {X : Wk} {a b c d e : PV} : FC X.toWd 6 (.ref 249) [.ptr 308, a, b, c, d, e] fun r => ∃ l, r = .row 308 l ∧ l = [a, b, c, d, e] := by
  refine fc_enter (n := 5) (by decide) (names := ["_cls", "keep_all_tokens", "expand1", "priority", "template_source", "empty_indices"]) (by rw [X.hK]; rfl) rfl rfl (fun vals hv => match vals, hv with | [a, b, c, d, e, f], _ => rfl) rfl (by decide)
    (fun L x hx => by
      simp only [List.mem_cons, List.mem_singleton, List.not_mem_nil, or_false] at hx
      rcases hx with hx | hx | hx | hx | hx | hx <;> subst hx <;> exact .inl (by rfl)) (by rw [X.hK]; rfl) rfl rfl rfl rfl rfl fun L V env he => ?_
  have hk := congrArg (fun e : Env => e.scope.names) he
  dsimp only [callEnvC, newEnv] at hk
  have hi : interactive env = false := by rw [he]; rfl
  clear he
  have fu : FnIs (X.act env V 5 (by decide)) "tuple" (.type "tuple") := fnis_b (X := X) rfl (kd hk (by rfl)) (by rfl) (by rfl)
  refine PS.seq (PS1.expr (PE.cstr ⟨rfl, ?_⟩) hi (by rfl))
  exact PS.ret (PE.tnew (X := X) (ds := [a, b, c, d, e]) rfl mk_opt fu (q0_here (by rfl)) (PE.tup (PE.name (q0_here (by rfl)) (PE.name (q0_here (by rfl)) (PE.name (q0_here (by rfl)) (PE.name (q0_here (by rfl)) (PE.name (q0_here (by rfl)) ⟨by simp, rfl⟩)))))) (by simp) ⟨_, rfl, rfl⟩ ⟨_, rfl⟩)
theorem fc_rulenew {X : Wk} {a b c d e : PV} : FC X.toWd 6 (.ref 329) [.ptr 388, a, b, c, d, e] fun r => ∃ l, r = .row 388 l ∧ l = [a, b, c, d, e] := by
  refine fc_enter (n := 5) (by decide) (names := ["_cls", "origin", "expansion", "order", "alias", "options"]) (by rw [X.hK]; rfl) rfl rfl (fun vals hv => match vals, hv with | [a, b, c, d, e, f], _ => rfl) rfl (by decide)
    (fun L x hx => by
      simp only [List.mem_cons, List.mem_singleton, List.not_mem_nil, or_false] at hx
      rcases hx with hx | hx | hx | hx | hx | hx <;> subst hx <;> exact .inl (by rfl)) (by rw [X.hK]; rfl) rfl rfl rfl rfl rfl fun L V env he => ?_
  have hk := congrArg (fun e : Env => e.scope.names) he
  dsimp only [callEnvC, newEnv] at hk
  have hi : interactive env = false := by rw [he]; rfl
  clear he
  have fu : FnIs (X.act env V 5 (by decide)) "tuple" (.type "tuple") := fnis_b (X := X) rfl (kd hk (by rfl)) (by rfl) (by rfl)
  refine PS.seq (PS1.expr (PE.cstr ⟨rfl, ?_⟩) hi (by rfl))
  exact PS.ret (PE.tnew (X := X) (ds := [a, b, c, d, e]) rfl mk_rule fu (q0_here (by rfl)) (PE.tup (PE.name (q0_here (by rfl)) (PE.name (q0_here (by rfl)) (PE.name (q0_here (by rfl)) (PE.name (q0_here (by rfl)) (PE.name (q0_here (by rfl)) ⟨by simp, rfl⟩)))))) (by simp) ⟨_, rfl, rfl⟩ ⟨_, rfl⟩)
theorem vals5 {P : Params} {V : Rgn} {h : Heap} {a b c d e : PV} {vs : List Value} (x : Vals P V h [a, b, c, d, e] vs) : ∃ v1 v2 v3 v4 v5, vs = [v1, v2, v3, v4, v5] := by
  obtain ⟨v1, r, rfl, _, x⟩ := vals_cons.mp x
  obtain ⟨v2, r, rfl, _, x⟩ := vals_cons.mp x
  obtain ⟨v3, r, rfl, _, x⟩ := vals_cons.mp x
  obtain ⟨v4, r, rfl, _, x⟩ := vals_cons.mp x
  obtain ⟨v5, r, rfl, _, x⟩ := vals_cons.mp x
  have := vals_nil.mp x
  subst this
  exact ⟨v1, v2, v3, v4, v5, rfl⟩
theorem fc_opt {X : Wk} {a b c d e : PV} : FC X.toWd 7 (.ref 308) [a, b, c, d, e] fun r => r = .row 308 [a, b, c, d, e] := fun A E s V vs hA H hv => by
  obtain ⟨v1, v2, v3, v4, v5, rfl⟩ := vals5 hv
  exact call_cls (X := X) (P := fun r => r = .row 308 [a, b, c, d, e]) H mk_opt hA (fun a => row_args5 _ _ _ _ _ _) rfl ((fc_optnew (X := X)).mono (Nat.le_refl _) fun d ⟨l, e, e2⟩ => ⟨l, e, by rw [e, e2]⟩) hv fun v s' r => r
theorem fc_rule {X : Wk} {a b c d e : PV} : FC X.toWd 7 (.ref 388) [a, b, c, d, e] fun r => r = .row 388 [a, b, c, d, e] := fun A E s V vs hA H hv => by
  obtain ⟨v1, v2, v3, v4, v5, rfl⟩ := vals5 hv
  exact call_cls (X := X) (P := fun r => r = .row 388 [a, b, c, d, e]) H mk_rule hA (fun a => row_args5 _ _ _ _ _ _) rfl ((fc_rulenew (X := X)).mono (Nat.le_refl _) fun d ⟨l, e, e2⟩ => ⟨l, e, by rw [e, e2]⟩) hv fun v s' r => r

/-- Terminal(x) and NonTerminal(x) -/
theorem fc_Terminal {X : Wk} {x : Str} : FC X.toWd 8 (.ref 399) [.str x] fun d => d = .sym x true := by
  refine fc_enterD (n := 7) (by decide) (ds' := [.str x, .bool false]) (names := ["name", "filter_out"]) (by rw [X.hK]; rfl) rfl rfl (fun s V vs H hv => ?_) rfl (by decide)
    (fun L x hx => by
      simp only [List.mem_cons, List.mem_singleton, List.not_mem_nil, or_false] at hx
      rcases hx with hx | hx <;> subst hx <;> exact .inl (by rfl)) (by rw [X.hK]; rfl) rfl rfl rfl rfl rfl fun L V env he => ?_
  · obtain ⟨v, r, rfl, h1, hv⟩ := vals_cons.mp hv
    have := vals_nil.mp hv
    subst this
    exact ⟨[v, .bool false], binds_K (K := X39 X) H.k39 rfl (by rfl) rfl rfl rfl, by rw [vals_cons', vals_cons', vals_nil]; exact ⟨h1, val_bool.mpr rfl, rfl⟩⟩
  have hk := congrArg (fun e : Env => e.scope.names) he
  dsimp only [callEnvC, newEnv] at hk
  clear he
  have fs : FnIs (X.act env V 7 (by decide)) "Symbol" (.ref 228) := fnis_g (X := X) rfl (kd hk (by rfl)) (by rfl)
  exact PS.ret (PE.call fs (.inl (by rw [X.hK]; rfl)) (PE.name (q0_here (by rfl)) (PE.cbool (fc_sym (X := X)))))
theorem fc_NonTerminal {X : Wk} {x : Str} : FC X.toWd 8 (.ref 406) [.str x] fun d => d = .sym x false := by
  refine fc_enter (n := 7) (by decide) (names := ["name"]) (by rw [X.hK]; rfl) rfl rfl (fun vals hv => match vals, hv with | [a], _ => rfl) rfl (by decide)
    (fun L x hx => by simp only [List.mem_singleton] at hx; subst hx; exact .inl (by rfl)) (by rw [X.hK]; rfl) rfl rfl rfl rfl rfl fun L V env he => ?_
  have hk := congrArg (fun e : Env => e.scope.names) he
  dsimp only [callEnvC, newEnv] at hk
  clear he
  have fs : FnIs (X.act env V 7 (by decide)) "Symbol" (.ref 228) := fnis_g (X := X) rfl (kd hk (by rfl)) (by rfl)
  exact PS.ret (PE.call fs (.inl (by rw [X.hK]; rfl)) (PE.name (q0_here (by rfl)) (PE.cbool (fc_sym (X := X)))))

def optRow : PV := .row 308 [.bool false, .bool false, .none, .none, .tup []]
theorem fc_RuleOptions {X : Wk} : FC X.toWd 8 (.ref 415) [] fun d => d = optRow := by
  refine fc_enterD (n := 7) (by decide) (ds' := [.bool false, .bool false, .none, .none, .tup []]) (names := ["keep_all_tokens", "expand1", "priority", "template_source", "empty_indices"]) (by rw [X.hK]; rfl) rfl rfl (fun s V vs H hv => ?_) rfl (by decide)
    (fun L x hx => by
      simp only [List.mem_cons, List.mem_singleton, List.not_mem_nil, or_false] at hx
      rcases hx with hx | hx | hx | hx | hx <;> subst hx <;> exact .inl (by rfl)) (by rw [X.hK]; rfl) rfl rfl rfl rfl rfl fun L V env he => ?_
  · have := vals_nil.mp hv
    subst this
    have h407 : X.b₀.get? 407 = some (seqO tTuple #[] 0) := X.inK _ _ (by rw [X.hK]; rfl)
    refine ⟨[.bool false, .bool false, .none, .none, .ref 407], binds_K (K := X39 X) H.k39 rfl (by rfl) rfl rfl rfl, ?_⟩
    rw [vals_cons', vals_cons', vals_cons', vals_cons', vals_cons', vals_nil]
    exact ⟨val_bool.mpr rfl, val_bool.mpr rfl, val_none.mpr rfl, val_none.mpr rfl, val_seq.mpr ⟨407, 0, #[], rfl, (fun w => by have := H.low 407 w; rw [h407] at this; cases this), H.keep _ _ h407, vals_nil.mpr rfl⟩, rfl⟩
  have hk := congrArg (fun e : Env => e.scope.names) he
  dsimp only [callEnvC, newEnv] at hk
  clear he
  have fs : FnIs (X.act env V 7 (by decide)) "RuleOptionsRow" (.ref 308) := fnis_g (X := X) rfl (kd hk (by rfl)) (by rfl)
  exact PS.ret (PE.call fs (.inl (by rw [X.hK]; rfl)) (PE.name (q0_here (by rfl)) (PE.name (q0_here (by rfl)) (PE.name (q0_here (by rfl)) (PE.name (q0_here (by rfl)) (PE.name (q0_here (by rfl)) (fc_opt (X := X))))))))

/-- x or y, where x is None -/
theorem PE.or_none {Y : Act} {q : Vw} {x y : Expr} {pos : Pos} {P : PV → Prop} (hx : PE Y q x fun d => d = .none) (hy : PE Y q y P) : PE Y q (.BoolOp .Or [x, y] pos) P := fun M V A E s hA G => by
  refine BoolOp_or (hx.use hA G fun v s₁ d hd hv st₁ G₁ => ?_)
  subst hd
  have := val_none.mp hv
  subst this
  refine wpAny_pure ?_
  rw [if_neg (by decide)]
  exact BoolOp_one (hy.use hA G₁ fun v s₂ d p x st₂ G₂ => ⟨st₁.trans st₂, d, p, x⟩)
theorem fc_Rule {X : Wk} {o : PV} {l : List PV} {k : Int} (hz : l.length ≤ 4096) : FC X.toWd 10 (.ref 423) [o, .list l, .int k] fun d => d = .row 388 [o, .tup l, .int k, .none, optRow] := by
  refine fc_enterD (n := 9) (by decide) (ds' := [o, .list l, .int k, .none, .none]) (names := ["origin", "expansion", "order", "alias", "options"]) (by rw [X.hK]; rfl) rfl rfl (fun s V vs H hv => ?_) rfl (by decide)
    (fun L x hx => by
      simp only [List.mem_cons, List.mem_singleton, List.not_mem_nil, or_false] at hx
      rcases hx with hx | hx | hx | hx | hx <;> subst hx <;> exact .inl (by rfl)) (by rw [X.hK]; rfl) rfl rfl rfl rfl rfl fun L V env he => ?_
  · obtain ⟨v1, r, rfl, h1, hv⟩ := vals_cons.mp hv
    obtain ⟨v2, r, rfl, h2, hv⟩ := vals_cons.mp hv
    obtain ⟨v3, r, rfl, h3, hv⟩ := vals_cons.mp hv
    have := vals_nil.mp hv
    subst this
    refine ⟨[v1, v2, v3, .none, .none], binds_K (K := X39 X) H.k39 rfl (by rfl) rfl rfl rfl, ?_⟩
    rw [vals_cons', vals_cons', vals_cons', vals_cons', vals_cons', vals_nil]
    exact ⟨h1, h2, h3, val_none.mpr rfl, val_none.mpr rfl, rfl⟩
  have hk := congrArg (fun e : Env => e.scope.names) he
  dsimp only [callEnvC, newEnv] at hk
  have hi : interactive env = false := by rw [he]; rfl
  clear he
  have fs : FnIs (X.act env V 9 (by decide)) "RuleRow" (.ref 388) := fnis_g (X := X) rfl (kd hk (by rfl)) (by rfl)
  have fo : FnIs (X.act env V 9 (by decide)) "RuleOptions" (.ref 415) := fnis_g (X := X) rfl (kd hk (by rfl)) (by rfl)
  have fu : FnIs (X.act env V 9 (by decide)) "tuple" (.type "tuple") := fnis_b (X := X) rfl (kd hk (by rfl)) (by rfl) (by rfl)
  refine PS.seq (PS1.expr (PE.cstr ⟨rfl, ?_⟩) hi (by rfl))
  refine PS.ret (PE.call fs (.inl (by rw [X.hK]; rfl)) (PE.name (q0_here (by rfl)) (PE.call fu (.inr (.inl ⟨_, rfl⟩)) (PE.name (q0_here (by rfl)) (fc_tuple hz (PE.name (q0_here (by rfl)) (PE.name (q0_here (by rfl)) (PE.or_none (PE.name (q0_here (by rfl)) rfl) (PE.call fo (.inl (by rw [X.hK]; rfl)) ?_)))))))))
  refine (fc_RuleOptions (X := X)).mono (by show 8 ≤ 9; decide) ?_
  rintro _ rfl
  exact (fc_rule (X := X)).mono (by show 7 ≤ 9; decide) fun d h => h
end Mine
namespace Mine
open PySem PySem.W PySem.Calls PyProof.Rows

/-- the leaps, once the perturbing bits are spent -/
def lp (M i : Nat) : Nat := (i * 5 + 1) % M
def lps (M : Nat) : Nat → Nat → Nat
  | 0, i => i
  | k + 1, i => lps M k (lp M i)
def sizes : List Nat := [8, 16, 32, 64, 128, 256]
theorem lps_add (M : Nat) : ∀ (a b i : Nat), lps M (a + b) i = lps M b (lps M a i)
  | 0, b, i => by rw [Nat.zero_add]; rfl
  | a + 1, b, i => by rw [Nat.add_right_comm]; show lps M (a + b) (lp M i) = _; rw [lps_add M a b]; rfl
/-- all places that come, one by one, from one -/
def orbit (M : Nat) : Nat → Nat → List Nat
  | 0, _ => []
  | k + 1, i => i :: orbit M k (lp M i)
theorem orbit_mem (M : Nat) : ∀ (k i j : Nat), j ∈ orbit M k i → ∃ n, n < k ∧ lps M n i = j
  | 0, _, _, h => nomatch h
  | k + 1, i, j, h => by
    rcases List.mem_cons.mp h with rfl | h
    · exact ⟨0, Nat.succ_pos _, rfl⟩
    · obtain ⟨n, hn, e⟩ := orbit_mem M k _ j h
      exact ⟨n + 1, Nat.succ_lt_succ hn, e⟩
theorem orbit_full : ∀ M ∈ sizes, ((List.range M).all fun j => (orbit M M 0).contains j) = true ∧ lps M M 0 = 0 := by decide +kernel
/-- from any place every place is met -/
theorem meets {M i j : Nat} (hM : M ∈ sizes) (hi : i < M) (hj : j < M) : ∃ n, n < M ∧ lps M n i = j := by
  obtain ⟨h1, h2⟩ := orbit_full M hM
  have get : ∀ x, x < M → ∃ n, n < M ∧ lps M n 0 = x := fun x hx => by
    have := List.all_eq_true.mp h1 x (List.mem_range.mpr hx)
    exact orbit_mem M M 0 x (by simpa using this)
  obtain ⟨a, ha, ea⟩ := get i hi
  obtain ⟨b, hb, eb⟩ := get j hj
  rcases Nat.lt_or_ge b a with h | h
  · refine ⟨M - a + b, by omega, ?_⟩
    have : lps M (a + (M - a)) 0 = 0 := by rw [Nat.add_sub_cancel' (Nat.le_of_lt ha)]; exact h2
    rw [lps_add, ea] at this
    rw [lps_add, this, eb]
  · refine ⟨b - a, by omega, ?_⟩
    have : lps M (a + (b - a)) 0 = j := by rw [Nat.add_sub_cancel' h]; exact eb
    rw [lps_add, ea] at this
    exact this
theorem size_pos {M : Nat} (h : M ∈ sizes) : 8 ≤ M ∧ M ≤ 256 := by
  simp only [sizes, List.mem_cons, List.not_mem_nil, or_false] at h
  omega
/-- the leaps as the table makes them -/
def hops (mask : Nat) : Nat → Nat × Nat → Nat × Nat
  | 0, x => x
  | k + 1, x => hops mask k (SetTable.leap mask x.1 x.2)
theorem hops_add (mask : Nat) : ∀ (a b : Nat) (x : Nat × Nat), hops mask (a + b) x = hops mask b (hops mask a x)
  | 0, b, i => by rw [Nat.zero_add]; rfl
  | a + 1, b, i => by rw [Nat.add_right_comm]; show hops mask (a + b) _ = _; rw [hops_add mask a b]; rfl
theorem hops_zero (mask : Nat) : ∀ (k i : Nat), hops mask k (i, 0) = (lps (mask + 1) k i, 0)
  | 0, i => rfl
  | k + 1, i => by
    show hops mask k (SetTable.leap mask i 0) = _
    have : SetTable.leap mask i 0 = (lp (mask + 1) i, 0) := by simp [SetTable.leap, lp]
    rw [this, hops_zero mask k]; rfl
theorem hops_snd (mask : Nat) : ∀ (k : Nat) (x : Nat × Nat), (hops mask k x).2 = x.2 / 32 ^ k
  | 0, x => by simp [hops]
  | k + 1, x => by
    show (hops mask k (SetTable.leap mask x.1 x.2)).2 = _
    rw [hops_snd mask k]
    show x.2 / 32 / 32 ^ k = _
    rw [Nat.div_div_eq_div_mul, Nat.pow_succ, Nat.mul_comm]
theorem hops_fst_lt (mask : Nat) : ∀ (k : Nat) (x : Nat × Nat), x.1 < mask + 1 → (hops mask k x).1 < mask + 1
  | 0, x, h => h
  | k + 1, x, h => hops_fst_lt mask k _ (Nat.mod_lt _ (Nat.succ_pos _))
/-- within mask + 15 leaps every place has been the head of a run -/
theorem heads {mask b j : Nat} (hM : mask + 1 ∈ sizes) (hb : b < 2 ^ 64) (hj : j < mask + 1) {i : Nat} (hi : i < mask + 1) : ∃ n, n < mask + 14 ∧ (hops mask n (i, b)).1 = j := by
  have h13 : (hops mask 13 (i, b)).2 = 0 := by
    rw [hops_snd]
    exact Nat.div_eq_of_lt (Nat.lt_of_lt_of_le hb (by decide))
  have hlt := hops_fst_lt mask 13 (i, b) hi
  obtain ⟨n, hn, e⟩ := meets hM hlt hj
  refine ⟨13 + n, by omega, ?_⟩
  have e2 : hops mask 13 (i, b) = ((hops mask 13 (i, b)).1, 0) := Prod.ext rfl h13
  rw [hops_add, e2, hops_zero]
  exact e
end Mine
namespace Mine
open PySem PySem.W PySem.Calls PyProof.Rows

def advs (t : SetTable) : Nat → SetTable.Probe → SetTable.Probe
  | 0, p => p
  | k + 1, p => advs t k (t.advance p)
theorem advs_add (t : SetTable) : ∀ (a b : Nat) (p : SetTable.Probe), advs t (a + b) p = advs t b (advs t a p)
  | 0, b, i => by rw [Nat.zero_add]; rfl
  | a + 1, b, i => by rw [Nat.add_right_comm]; show advs t (a + b) _ = _; rw [advs_add t a b]; rfl
def hpr (t : SetTable) (x : Nat × Nat) : SetTable.Probe := { j := x.1, more := SetTable.runEnd t.mask x.1 - x.1, i := x.1, perturb := x.2, dummy := none }
theorem run_out (t : SetTable) : ∀ (m j i q : Nat), advs t (m + 1) { j := j, more := m, i := i, perturb := q, dummy := none } = hpr t (SetTable.leap t.mask i q)
  | 0, j, i, q => by
    simp [advs, SetTable.advance, hpr]
  | m + 1, j, i, q => by
    show advs t (m + 1) (t.advance _) = _
    have : t.advance { j := j, more := m + 1, i := i, perturb := q, dummy := none } = { j := j + 1, more := m, i := i, perturb := q, dummy := none } := by simp [SetTable.advance]
    rw [this, run_out t m]
theorem run_short (mask i : Nat) : SetTable.runEnd mask i - i ≤ 9 := by unfold SetTable.runEnd; split <;> omega
theorem head_at (t : SetTable) : ∀ (k : Nat) (x : Nat × Nat), ∃ n, n ≤ 10 * k ∧ advs t n (hpr t x) = hpr t (hops t.mask k x)
  | 0, x => ⟨0, Nat.le_refl _, rfl⟩
  | k + 1, x => by
    obtain ⟨n, hn, e⟩ := head_at t k (SetTable.leap t.mask x.1 x.2)
    refine ⟨(SetTable.runEnd t.mask x.1 - x.1 + 1) + n, by have := run_short t.mask x.1; omega, ?_⟩
    rw [advs_add]
    have : advs t (SetTable.runEnd t.mask x.1 - x.1 + 1) (hpr t x) = hpr t (SetTable.leap t.mask x.1 x.2) := run_out t _ _ _ _
    rw [this, e]
    rfl

theorem slot_nodummy {t : SetTable} (hd : t.dummies = #[]) (j : Nat) : t.slot j ≠ .dummy := by
  unfold SetTable.slot
  dsimp only
  split
  · exact fun e => nomatch e
  · rw [hd]
    have : SetTable.has #[] j = false := by unfold SetTable.has; simp
    rw [this, if_neg Bool.false_ne_true]
    exact fun e => nomatch e
theorem slot_empty {t : SetTable} (hd : t.dummies = #[]) {j : Nat} (h : j ∉ t.place.toList) : t.slot j = .empty := by
  unfold SetTable.slot
  dsimp only
  rw [if_neg]
  · rw [hd]
    have : SetTable.has #[] j = false := by unfold SetTable.has; simp
    rw [this, if_neg Bool.false_ne_true]
  · intro e
    have e := eq_of_beq e
    rw [← Array.getElem?_toList] at e
    exact h (List.mem_of_getElem? e)
theorem slot_live {t : SetTable} {j i : Nat} (h : t.slot j = .live i) : t.place[i]? = some j := by
  unfold SetTable.slot at h
  dsimp only at h
  split at h
  · rename_i e
    cases h
    exact eq_of_beq e
  · split at h <;> cases h
theorem advance_dummy (t : SetTable) (p : SetTable.Probe) : (t.advance p).dummy = p.dummy := by
  unfold SetTable.advance
  split <;> rfl
theorem advs_dummy (t : SetTable) : ∀ (k : Nat) (p : SetTable.Probe), (advs t k p).dummy = p.dummy
  | 0, p => rfl
  | k + 1, p => (advs_dummy t k _).trans (advance_dummy t p)

theorem go_ok {t : SetTable} (hd : t.dummies = #[]) (hashAt : Nat → Int) (h : Int) : ∀ (k fuel : Nat) (p : SetTable.Probe), k < fuel → p.dummy = none → t.slot (advs t k p).j = .empty →
    (∃ j, SetTable.probe.go t hashAt h fuel p = some (.empty j none)) ∨ ∃ j i m, SetTable.probe.go t hashAt h fuel p = some (.candidate j i (advs t (m + 1) p)) ∧ m < k ∧ t.slot j = .live i ∧ hashAt i = h
  | k, 0, p, hf, _, _ => absurd hf (Nat.not_lt_zero _)
  | 0, fuel + 1, p, hf, hn, he => by
    have he : t.slot p.j = .empty := he
    left
    refine ⟨p.j, ?_⟩
    unfold SetTable.probe.go
    rw [he, hn]
  | k + 1, fuel + 1, p, hf, hn, he => by
    unfold SetTable.probe.go
    cases hs : t.slot p.j with
    | empty => exact .inl ⟨p.j, by rw [hn]⟩
    | dummy => exact absurd hs (slot_nodummy hd _)
    | live i =>
      dsimp only
      by_cases hh : (hashAt i == h) = true
      · rw [if_pos hh]
        exact .inr ⟨p.j, i, 0, rfl, Nat.succ_pos _, hs, eq_of_beq hh⟩
      · rw [if_neg hh]
        rcases go_ok hd hashAt h k fuel (t.advance p) (Nat.lt_of_succ_lt_succ hf) ((advance_dummy t p).trans hn) he with ⟨j, e⟩ | ⟨j, i', m, e, hm, h1, h2⟩
        · exact .inl ⟨j, e⟩
        · exact .inr ⟨j, i', m + 1, e, Nat.succ_lt_succ hm, h1, h2⟩

/-- a table as it is while only put into -/
structure TabOk (t : SetTable) (n : Nat) : Prop where
  mask : t.mask + 1 ∈ sizes
  dum : t.dummies = #[]
  size : t.place.size = n
  room : n * 5 < t.mask * 3
theorem TabOk.fits {t : SetTable} {n : Nat} (x : TabOk t n) : t.fits n = true := by
  have h := size_pos x.mask
  have := x.room
  unfold SetTable.fits SetTable.fill
  rw [x.dum, x.size]
  simp
  omega
/-- a place that nobody has -/
theorem free_place : ∀ (l : List Nat) (M : Nat), l.length < M → ∃ j, j < M ∧ j ∉ l := fun l M h => by
  rcases Classical.em (∃ j, j < M ∧ j ∉ l) with w | w
  · exact w
  · exfalso
    have hs : ∀ x ∈ List.range M, x ∈ l := fun x hx => by
      rcases Classical.em (x ∈ l) with q | q
      · exact q
      · exact absurd ⟨x, List.mem_range.mp hx, q⟩ w
    have : (List.range M).length ≤ l.length := go (List.range M) l List.nodup_range hs
    simp at this
    omega
where
  go : ∀ (l k : List Nat), l.Nodup → (∀ x ∈ l, x ∈ k) → l.length ≤ k.length
    | [], _, _, _ => Nat.zero_le _
    | a :: l, k, hn, hs => by
      have ha := hs a List.mem_cons_self
      have hn' := List.nodup_cons.mp hn
      have := go l (k.erase a) hn'.2 fun x hx => (List.mem_erase_of_ne (fun e : x = a => hn'.1 (e ▸ hx))).mpr (hs x (List.mem_cons_of_mem _ hx))
      rw [List.length_erase_of_mem ha] at this
      have hp : 0 < k.length := List.length_pos_of_mem ha
      simp; omega
/-- a search comes to an empty place -/
theorem TabOk.ends {t : SetTable} {n : Nat} (x : TabOk t n) (h : Int) : ∃ k, k < 10 * SetTable.turns t.mask ∧ t.slot (advs t k (t.probeStart h)).j = .empty := by
  have hp := size_pos x.mask
  obtain ⟨j, hj, hnj⟩ := free_place t.place.toList (t.mask + 1) (by rw [Array.length_toList, x.size]; have := x.room; omega)
  have hi : SetTable.bits h % (t.mask + 1) < t.mask + 1 := Nat.mod_lt _ (Nat.succ_pos _)
  have hb : SetTable.bits h < 2 ^ 64 := by
    unfold SetTable.bits
    have h1 := Int.emod_nonneg h (b := (2 ^ 64 : Int)) (by decide)
    have h2 := Int.emod_lt_of_pos h (b := (2 ^ 64 : Int)) (by decide)
    omega
  obtain ⟨m, hm, em⟩ := heads x.mask hb hj hi
  obtain ⟨k, hk, ek⟩ := head_at t m (SetTable.bits h % (t.mask + 1), SetTable.bits h)
  refine ⟨k, by unfold SetTable.turns; omega, ?_⟩
  have : t.probeStart h = hpr t (SetTable.bits h % (t.mask + 1), SetTable.bits h) := rfl
  rw [this, ek]
  show t.slot (hops t.mask m _).1 = _
  rw [em]
  exact slot_empty x.dum hnj
end Mine
namespace Mine
open PySem PySem.W PySem.Calls PyProof.Rows

theorem odd_mask {t : SetTable} {n : Nat} (x : TabOk t n) : t.gaveWay = false := by
  have h := x.mask
  unfold SetTable.gaveWay
  simp only [sizes, List.mem_cons, List.not_mem_nil, or_false] at h
  rcases h with h | h | h | h | h | h <;> (have : t.mask % 2 = 1 := by omega) <;> rw [this] <;> rfl

theorem probe_cases {t : SetTable} (hd : t.dummies = #[]) {hashAt : Nat → Int} {h : Int} {k : Nat} {p : SetTable.Probe} {r : Option SetTable.Met} (hk : k < 10 * SetTable.turns t.mask) (hn : p.dummy = none) (he : t.slot (advs t k p).j = .empty) (hr : t.probe hashAt h p = r) :
    (∃ j, r = some (.empty j none)) ∨ ∃ j i m, r = some (.candidate j i (advs t (m + 1) p)) ∧ m < k ∧ t.slot j = .live i ∧ hashAt i = h := by
  subst hr
  exact go_ok hd hashAt h k (10 * SetTable.turns t.mask) p hk hn he

section
variable {X : Wd} {A : Around} {E : Value → Shared → Prop} {s : Shared} {a : Addr}
/-- a search that is to put something in -/
theorem search_ok {es : Array (Int × Value)} {ep : Nat} {t : SetTable} {x : Value} {h : Int} {P : Int × Value → Prop} (ho : s.heap.get? a = some (setO es ep t)) (tab : TabOk t es.size)
    (heq : ∀ e ∈ es.toList, ∃ b, (b = true → P e) ∧ ∀ (Q : Bool → Shared → Prop), Q b s → wpAny X.mo A (eqBool e.2 x) Q E s)
    (hseen : t.led = false → ∀ (l : List Value), (∀ v ∈ l, ∃ e ∈ es.toList, e.2 = v) → ∀ (Q : Bool → Shared → Prop), Q false s → wpAny X.mo A (searchCouldBeSeen x l) Q E s)
    (hself : ∀ e ∈ es.toList, ∃ r, e.2 = .ref r) {Q : SetFound → Shared → Prop} (h1 : (∃ e ∈ es.toList, P e) → Q (.there none) s) (h2 : ∀ j, Q (.free j false) s) :
    ∀ (k fuel : Nat) (stand : Option SetTable.Probe), k < 10 * SetTable.turns t.mask → k < fuel → (stand.getD (t.probeStart h)).dummy = none → t.slot (advs t k (stand.getD (t.probeStart h))).j = .empty → wpAny X.mo A (setSearchFrom a x h true fuel stand) Q E s := by
  intro k
  induction k using Nat.strongRecOn with
  | _ k ih =>
    intro fuel stand hk hf hn he
    obtain ⟨fuel, rfl⟩ : ∃ f, fuel = f + 1 := ⟨fuel - 1, by omega⟩
    unfold setSearchFrom
    refine wpAny_bind (set_state ho tab.fits ?_)
    dsimp only
    rw [odd_mask tab, if_neg Bool.false_ne_true]
    split
    rotate_left
    · rename_i hpr
      exact (probe_cases tab.dum hk hn he rfl).elim (fun ⟨j, e⟩ => (hpr _ e).elim) fun ⟨j, i, m, e, _⟩ => (hpr _ e).elim
    rename_i met hpr
    rcases probe_cases tab.dum hk hn he hpr with ⟨j, e⟩ | ⟨j, i, m, e, hm, hsl, hh⟩
    · cases e
      exact wpAny_pure (h2 j)
    · cases e
      have hpl := slot_live hsl
      have hi : i < es.size := by rw [← tab.size]; exact (Array.getElem?_eq_some_iff.mp hpl).1
      have hei : es[i]? = some es[i] := Array.getElem?_eq_getElem hi
      have hem : es[i] ∈ es.toList := by rw [Array.mem_toList_iff]; exact Array.getElem_mem hi
      dsimp only
      obtain ⟨b, hb, heqb⟩ := heq _ hem
      have rest : wpAny X.mo A (do
          let some (_, y) := es[i]? | unsupported "internal:set-entry"
          let equal ← holding [y] (eqBool y x)
          let (es', _, t') ← setState a
          if true && equal then return .there none
          let some same := t'.sameMemory t.moves t.mask | unsupported "set.changed-during-lookup:is-the-new-block-at-the-old-address"
          let still ← match (if same then t'.slot j else .empty) with
            | .live i' => match es'[i']? with
              | some (_, y') => do pure (if ← isSame y' y then some i' else none)
              | none => pure none
            | _ => pure none
          match still with
          | none => rule "set.search.anew"; setSearchFrom a x h true fuel none
          | some i' => if equal then return .there (some i') else setSearchFrom a x h true fuel (some (advs t (m + 1) (stand.getD (t.probeStart h))))) Q E s := by
        rw [hei]
        dsimp only
        refine wpAny_bind (wpAny_holding (heqb _ ?_))
        refine wpAny_bind (set_state ho tab.fits ?_)
        dsimp only
        cases b with
        | true =>
          simp only [Bool.and_self, if_true]
          exact wpAny_pure (h1 ⟨_, hem, hb rfl⟩)
        | false =>
          simp only [Bool.and_false, Bool.false_eq_true, if_false]
          have hsm : t.sameMemory t.moves t.mask = some true := by unfold SetTable.sameMemory; rw [if_pos (beq_self_eq_true _)]
          rw [hsm]
          dsimp only
          rw [if_pos rfl, hsl]
          dsimp only
          rw [hei]
          dsimp only
          obtain ⟨r, er⟩ := hself _ hem
          rw [er]
          refine wpAny_bind (wpAny_isSame_ref_self (wpAny_bind (wpAny_pure ?_)))
          rw [if_pos rfl]
          dsimp only
          have hk' : k - (m + 1) < k := by omega
          refine ih (k - (m + 1)) hk' fuel (some _) (by omega) (by omega) ?_ ?_
          · show (advs t (m + 1) _).dummy = none
            rw [advs_dummy]; exact hn
          · show t.slot (advs t (k - (m + 1)) (advs t (m + 1) _)).j = .empty
            rw [← advs_add, show m + 1 + (k - (m + 1)) = k by omega]
            exact he
      cases hl : t.led with
      | true =>
        simp only [Bool.not_true, Bool.false_eq_true, if_false]
        exact rest
      | false =>
        simp only [Bool.not_false, if_true]
        refine wpAny_bind (hseen hl _ (fun v hv => ?_) _ ?_)
        · obtain ⟨e, he', rfl⟩ := List.mem_map.mp hv
          rw [Array.toList_filter] at he'
          exact ⟨e, (List.mem_filter.mp he').1, rfl⟩
        · simp only [Bool.false_eq_true, if_false]
          exact rest
end
end Mine
namespace Mine
open PySem PySem.W PySem.Calls PyProof.Rows

theorem run_ge (mask i : Nat) : i ≤ SetTable.runEnd mask i := by unfold SetTable.runEnd; split <;> omega
theorem free_ok {mask : Nat} {owner : Array (Option Nat)} (hs : owner.size = mask + 1) : ∀ (n fuel : Nat) (x : Nat × Nat), n < fuel → owner[(hops mask n x).1]? = some none →
    ∃ j, SetTable.layClean.free mask owner fuel x.1 x.2 = some j ∧ owner[j]? = some none
  | _, 0, _, hf, _ => absurd hf (Nat.not_lt_zero _)
  | n, fuel + 1, x, hf, he => by
    unfold SetTable.layClean.free
    cases hfd : (List.range (SetTable.runEnd mask x.1 + 1 - x.1)).find? fun k => (owner.getD (x.1 + k) (some 0)).isNone with
    | some k =>
      refine ⟨x.1 + k, rfl, ?_⟩
      have hp := List.find?_some hfd
      rw [Array.getD_eq_getD_getElem?] at hp
      cases hj : owner[x.1 + k]? with
      | none => rw [hj] at hp; cases hp
      | some v => rw [hj] at hp; cases v with
        | none => rfl
        | some _ => cases hp
    | none =>
      dsimp only
      cases n with
      | zero =>
        exfalso
        have h0 : 0 ∈ List.range (SetTable.runEnd mask x.1 + 1 - x.1) := List.mem_range.mpr (by have := run_ge mask x.1; omega)
        have hn := List.find?_eq_none.mp hfd 0 h0
        have he' : owner[x.1]? = some none := he
        rw [Nat.add_zero, Array.getD_eq_getD_getElem?, he'] at hn
        exact hn rfl
      | succ n => exact free_ok hs n fuel (SetTable.leap mask x.1 x.2) (Nat.lt_of_succ_lt_succ hf) he

theorem fm_some (a : Nat) (l : List (Option Nat)) : (some a :: l).filterMap id = a :: l.filterMap id := rfl
theorem fm_none (l : List (Option Nat)) : (none :: l).filterMap id = l.filterMap id := rfl
theorem some_len : ∀ (l : List (Option Nat)), (∀ x ∈ l, x ≠ none) → (l.filterMap id).length = l.length
  | [], _ => rfl
  | none :: l, h => absurd rfl (h none (by simp))
  | some a :: l, h => by
    rw [fm_some, List.length_cons, List.length_cons, some_len l fun x hx => h x (by simp [hx])]
theorem set_none_perm (k : Nat) : ∀ (l : List (Option Nat)) (j : Nat), l[j]? = some none → ((l.set j (some k)).filterMap id).Perm (k :: l.filterMap id)
  | [], _, h => by simp at h
  | a :: l, 0, h => by
    simp at h
    subst h
    rw [List.set_cons_zero, fm_some, fm_none]
  | a :: l, j + 1, h => by
    simp at h
    rw [List.set_cons_succ]
    have ih := set_none_perm k l j h
    cases a with
    | none => rw [fm_none, fm_none]; exact ih
    | some b =>
      rw [fm_some, fm_some]
      exact (ih.cons b).trans (List.Perm.swap _ _ _)

/-- the owners of a table's places while it is laid -/
structure Own (mask : Nat) (owner : Array (Option Nat)) (k : Nat) : Prop where
  size : owner.size = mask + 1
  perm : (owner.toList.filterMap id).Perm (List.range k)
theorem own_next {mask : Nat} {owner : Array (Option Nat)} {k : Nat} (hM : mask + 1 ∈ sizes) (o : Own mask owner k) (hk : k < mask + 1) (h : Int) :
    ∃ j, SetTable.layClean.free mask owner (SetTable.turns mask) (SetTable.bits h % (mask + 1)) (SetTable.bits h) = some j ∧ Own mask (owner.setIfInBounds j (some k)) (k + 1) := by
  have hex : ∃ j, j < mask + 1 ∧ owner[j]? = some none := by
    rcases Classical.em (∃ j, j < mask + 1 ∧ owner[j]? = some none) with w | w
    · exact w
    · exfalso
      have hall : ∀ x ∈ owner.toList, x ≠ none := fun x hx e => by
        subst e
        obtain ⟨j, hj⟩ := List.mem_iff_getElem?.mp hx
        rw [Array.getElem?_toList] at hj
        exact w ⟨j, by rw [← o.size]; exact (Array.getElem?_eq_some_iff.mp hj).1, hj⟩
      have h1 := some_len _ hall
      rw [o.perm.length_eq, List.length_range, Array.length_toList, o.size] at h1
      omega
  obtain ⟨j, hj, hjn⟩ := hex
  have hb : SetTable.bits h < 2 ^ 64 := by
    unfold SetTable.bits
    have h1 := Int.emod_nonneg h (b := (2 ^ 64 : Int)) (by decide)
    have h2 := Int.emod_lt_of_pos h (b := (2 ^ 64 : Int)) (by decide)
    omega
  obtain ⟨n, hn, e⟩ := heads hM hb hj (Nat.mod_lt (SetTable.bits h) (Nat.succ_pos mask))
  obtain ⟨i, hi, hin⟩ := free_ok o.size n (SetTable.turns mask) (SetTable.bits h % (mask + 1), SetTable.bits h) (by unfold SetTable.turns; omega) (by rw [e]; exact hjn)
  refine ⟨i, hi, by rw [Array.size_setIfInBounds]; exact o.size, ?_⟩
  rw [Array.toList_setIfInBounds]
  have hp := set_none_perm k owner.toList i (by rw [Array.getElem?_toList]; exact hin)
  refine hp.trans ((o.perm.cons k).trans ?_)
  rw [List.range_succ]
  exact List.perm_append_comm (l₁ := [k]) (l₂ := List.range k)

theorem own_fold {mask : Nat} (hM : mask + 1 ∈ sizes) : ∀ (hs : List Int) (owner : Array (Option Nat)) (k : Nat), Own mask owner k → k + hs.length < mask + 1 →
    ∃ owner', hs.foldl (fun acc h => do
      let (owner, k) ← acc
      let j ← SetTable.layClean.free mask owner (SetTable.turns mask) (SetTable.bits h % (mask + 1)) (SetTable.bits h)
      pure (owner.setIfInBounds j (some k), k + 1)) (some (owner, k)) = some (owner', k + hs.length) ∧ Own mask owner' (k + hs.length)
  | [], owner, k, o, _ => ⟨owner, rfl, o⟩
  | h :: hs, owner, k, o, hk => by
    rw [List.length_cons] at hk
    obtain ⟨j, e, o'⟩ := own_next hM o (by omega) h
    rw [List.foldl_cons]
    have : (do
      let (owner, k) ← some (owner, k)
      let j ← SetTable.layClean.free mask owner (SetTable.turns mask) (SetTable.bits h % (mask + 1)) (SetTable.bits h)
      pure (owner.setIfInBounds j (some k), k + 1) : Option (Array (Option Nat) × Nat)) = some (owner.setIfInBounds j (some k), k + 1) := by
      show (SetTable.layClean.free mask owner (SetTable.turns mask) (SetTable.bits h % (mask + 1)) (SetTable.bits h)).bind _ = _
      rw [e]; rfl
    rw [this]
    obtain ⟨owner', e2, o2⟩ := own_fold hM hs _ (k + 1) o' (by omega)
    refine ⟨owner', ?_, ?_⟩
    · rw [e2, List.length_cons]; congr 2; omega
    · rw [List.length_cons, show k + (hs.length + 1) = k + 1 + hs.length by omega]; exact o2
theorem own_start (mask : Nat) : Own mask (Array.replicate (mask + 1) none) 0 := by
  refine ⟨by simp, ?_⟩
  rw [Array.toList_replicate]
  have : (List.replicate (mask + 1) (none : Option Nat)).filterMap id = [] := by
    rw [List.filterMap_eq_nil_iff]
    intro a ha
    exact (List.mem_replicate.mp ha).2
  rw [this]
  exact List.Perm.refl _
theorem lay_ok {mask : Nat} (hM : mask + 1 ∈ sizes) (hs : Array Int) (hk : hs.size < mask + 1) : ∃ owner, SetTable.layClean mask hs = some owner ∧ Own mask owner hs.size := by
  obtain ⟨owner, e, o⟩ := own_fold hM hs.toList _ 0 (own_start mask) (by rw [Array.length_toList]; omega)
  rw [Nat.zero_add, Array.length_toList] at e o
  refine ⟨owner, ?_, o⟩
  unfold SetTable.layClean
  rw [← Array.foldl_toList]
  exact (congrArg (Option.map (·.1)) e)
end Mine
namespace Mine
open PySem PySem.W PySem.Calls PyProof.Rows

theorem filterMap_get {α : Type} : ∀ (l : List α), (List.range l.length).filterMap (fun i => l[i]?) = l
  | [] => rfl
  | a :: l => by
    rw [List.length_cons, List.range_succ_eq_map, List.filterMap_cons_some (b := a) (by simp), List.filterMap_map]
    have : ((fun i => (a :: l)[i]?) ∘ Nat.succ) = fun i => l[i]? := by funext i; simp
    rw [this, filterMap_get l]
theorem toList_range : ∀ (o : List (Option Nat)), (List.range o.length).filterMap (fun j => (o[j]?).getD none) = o.filterMap id
  | [] => rfl
  | a :: l => by
    rw [List.length_cons, List.range_succ_eq_map, List.filterMap_cons, List.filterMap_map]
    have : ((fun j => ((a :: l)[j]?).getD none) ∘ Nat.succ) = fun j => (l[j]?).getD none := by funext i; simp
    rw [this, toList_range l]
    simp only [List.getElem?_cons_zero, Option.getD_some]
    cases a <;> rfl
theorem above_ok : ((List.range 256).all fun w => decide (SetTable.sizeAbove w ∈ sizes) && decide (w < SetTable.sizeAbove w)) = true := by decide +kernel
theorem above {w : Nat} (h : w < 256) : SetTable.sizeAbove w ∈ sizes ∧ w < SetTable.sizeAbove w := by
  have := List.all_eq_true.mp above_ok w (List.mem_range.mpr h)
  simpa using this

theorem relaid_ok {t : SetTable} {hashes : Array Int} {w : Nat} (hw : w < 256) (hh : hashes.size * 4 ≤ w) (h0 : 0 < hashes.size) :
    ∃ t' order, t.relaid hashes w = some (t', order) ∧ TabOk t' hashes.size ∧ t'.led = t.led ∧ t'.plain = t.plain ∧ order.toList.Perm (List.range hashes.size) := by
  obtain ⟨h1, h2⟩ := above hw
  have hp := size_pos h1
  have hm : SetTable.sizeAbove w - 1 + 1 = SetTable.sizeAbove w := by omega
  obtain ⟨owner, e, o⟩ := lay_ok (mask := SetTable.sizeAbove w - 1) (by rw [hm]; exact h1) hashes (by omega)
  have hsnd : (((List.range (SetTable.sizeAbove w - 1 + 1)).filterMap fun j => (owner.getD j none).map (j, ·)).map (·.2)) = owner.toList.filterMap id := by
    rw [← toList_range, Array.length_toList, o.size, List.map_filterMap]
    congr 1
    funext j
    rw [Array.getD_eq_getD_getElem?, Array.getElem?_toList]
    cases (owner[j]?).getD none <;> rfl
  have hlen : ((List.range (SetTable.sizeAbove w - 1 + 1)).filterMap fun j => (owner.getD j none).map (j, ·)).length = hashes.size := by
    have := congrArg List.length hsnd
    rw [List.length_map, o.perm.length_eq, List.length_range] at this
    exact this
  generalize hlive : ((List.range (SetTable.sizeAbove w - 1 + 1)).filterMap fun j => (owner.getD j none).map (j, ·)) = live at hsnd hlen
  refine ⟨{ mask := SetTable.sizeAbove w - 1, place := (live.map (·.1)).toArray, dummies := #[], finger := t.finger, led := t.led, moves := t.movedTo (SetTable.sizeAbove w - 1), plain := t.plain }, (live.map (·.2)).toArray, ?_, ⟨?_, rfl, ?_, ?_⟩, rfl, rfl, ?_⟩
  · unfold SetTable.relaid SetTable.laid
    rw [e]
    subst hlive
    rfl
  · show SetTable.sizeAbove w - 1 + 1 ∈ sizes
    rw [hm]; exact h1
  · rw [List.size_toArray, List.length_map]; exact hlen
  · show hashes.size * 5 < (SetTable.sizeAbove w - 1) * 3
    omega
  · show (live.map (·.2)).Perm _
    rw [hsnd]
    exact o.perm
end Mine
namespace Mine
open PySem PySem.W PySem.Calls PyProof.Rows

def encPr (p : Pr) : PV := .tup [.str p.1, .str p.2]
theorem encPr_inj {p q : Pr} (h : encPr p = encPr q) : p = q := by
  unfold encPr at h
  injection h with _ h
  injection h with h1 h2
  injection h1 with h1
  injection h2 with h2 _
  injection h2 with h2
  exact Prod.ext h1 h2

section
variable {X : Wd} {A : Around} {E : Value → Shared → Prop} {s : Shared} {V : Rgn}
theorem pair_key {h : Heap} {p : Pr} {v : Value} (hv : Val X.P V h (encPr p) v) : ∃ a, v = .ref a ∧ ¬ V a ∧ IsTupleKey (sk X) h [p.1, p.2] a ∧ ∃ t u n, h.get? a = some (seqO tTuple #[.str p.1 t, .str p.2 u] n) := by
  obtain ⟨a, n, vs, rfl, na, ho, hw⟩ := val_seq.mp hv
  obtain ⟨v1, r1, e1, h1, hw⟩ := vals_cons.mp hw
  obtain ⟨v2, r2, e2, h2, hw⟩ := vals_cons.mp hw
  have := vals_nil.mp hw
  subst this e2
  obtain ⟨t, rfl⟩ := val_str.mp h1
  obtain ⟨u, rfl⟩ := val_str.mp h2
  have e : vs = #[.str p.1 t, .str p.2 u] := by rw [← Array.toArray_toList (xs := vs), e1]
  subst e
  exact ⟨a, rfl, na, ⟨_, _, _, ho, rfl, rfl, .cons (is_iff.mpr ⟨t, rfl⟩) (.cons (is_iff.mpr ⟨u, rfl⟩) .nil)⟩, t, u, n, ho⟩

theorem hbv_pair {a : Addr} {x y : Str} {t u : Tok} {n : Nat} {Q : Bool → Shared → Prop} (ho : s.heap.get? a = some (seqO tTuple #[.str x t, .str y u] n)) (h : Q false s) : wpAny X.mo A (hashByValue 8 (.ref a)) Q E s := by
  have hT : Shared.TypeIs s (.ref a) "tuple" := ⟨_, ho, rfl⟩
  unfold hashByValue
  refine wpAny_bind (wpAny_specialOf hT F.slot_tuple_hash.lookup ?_)
  dsimp only
  refine wpAny_bind (wpAny_seqItems ho rfl ?_)
  refine wpAny_bind ?_
  rw [← Array.forIn_toList]
  show wpAny _ _ (forIn [Value.str x t, Value.str y u] _ _) _ _ s
  rw [List.forIn_cons]
  have e : hashByValue 7 (.str x t) = pure false := by unfold hashByValue; rfl
  rw [e]
  refine wpAny_bind (wpAny_bind (wpAny_pure ?_))
  simp only [Bool.not_false, if_true]
  exact wpAny_pure (wpAny_pure (wpAny_pure h))
theorem class_pair {a : Addr} {x y : Str} {t u : Tok} {n : Nat} {Q : Bool → Shared → Prop} (ho : s.heap.get? a = some (seqO tTuple #[.str x t, .str y u] n)) (h : Q false s) : wpAny X.mo A (ofAClassStatement 8 (.ref a)) Q E s := by
  have hT : Shared.TypeIs s (.ref a) "tuple" := ⟨_, ho, rfl⟩
  unfold ofAClassStatement
  refine wpAny_bind (wpAny_typeOf hT ?_)
  dsimp only
  rw [if_pos (by decide)]
  refine wpAny_bind (wpAny_pure ?_)
  simp only [Bool.not_true, Bool.false_eq_true, if_false]
  refine wpAny_bind (wpAny_seqItems ho rfl ?_)
  dsimp only
  refine wpAny_bind ?_
  rw [← Array.forIn_toList]
  show wpAny _ _ (forIn [Value.str x t, Value.str y u] _ _) _ _ s
  rw [List.forIn_cons]
  have e : ∀ x t, ofAClassStatement 7 (.str x t) = pure false := fun x t => by unfold ofAClassStatement; rfl
  rw [e]
  refine wpAny_bind (wpAny_bind (wpAny_pure ?_))
  simp only [Bool.false_eq_true, if_false]
  refine wpAny_pure ?_
  dsimp only
  rw [List.forIn_cons, e]
  refine wpAny_bind (wpAny_bind (wpAny_pure ?_))
  simp only [Bool.false_eq_true, if_false]
  refine wpAny_pure ?_
  dsimp only
  rw [List.forIn_nil]
  exact wpAny_pure (wpAny_pure h)
theorem seen_pair {v : Value} {p : Pr} (hv : Val X.P V s.heap (encPr p) v) {Q : Bool → Shared → Prop} (h : Q false s) : ∀ (l : List Value), (∀ w ∈ l, ∃ q : Pr, Val X.P V s.heap (encPr q) w) → wpAny X.mo A (searchCouldBeSeen v l) Q E s := by
  intro l hl
  obtain ⟨a, rfl, na, hk, t, u, n, ho⟩ := pair_key hv
  unfold searchCouldBeSeen
  refine wpAny_bind ?_
  refine wpAny_forIn_list _ (fun rest r s' => s' = s ∧ r = (none, ()) ∧ ∀ u ∈ rest, ∃ q : Pr, Val X.P V s.heap (encPr q) u) _ ?_ ?_ _ _ ⟨rfl, rfl, hl⟩
  · rintro w rest r s' ⟨rfl, rfl, hr⟩
    obtain ⟨q, hw⟩ := hr w List.mem_cons_self
    obtain ⟨b, rfl, nb, hkb, t', u', n', hob⟩ := pair_key hw
    have hr' := fun u hu => hr u (List.mem_cons_of_mem _ hu)
    dsimp only
    split
    · exact wpAny_pure ⟨rfl, rfl, hr'⟩
    · refine wpAny_bind (wpAny_eqIsQuiet_tuple hk ?_)
      simp only [Bool.not_true, Bool.false_eq_true, if_false]
      refine wpAny_bind (wpAny_eqIsQuiet_tuple hkb ?_)
      simp only [Bool.not_true, Bool.false_eq_true, if_false]
      refine wpAny_bind (class_pair ho ?_)
      simp only [Bool.false_eq_true, if_false]
      refine wpAny_bind (class_pair hob ?_)
      simp only [Bool.false_eq_true, if_false]
      exact wpAny_pure ⟨rfl, rfl, hr'⟩
  · rintro r s' ⟨rfl, rfl, _⟩
    exact wpAny_pure h
end
end Mine
namespace Mine
open PySem PySem.W PySem.Calls PyProof.Rows

/-- the set of the pairs met so far -/
structure PairSet (X : Wd) (V : Rgn) (h : Heap) (S : Addr) (es : Array (Int × Value)) (l : List Pr) : Prop where
  well : ∃ ep t, h.get? S = some (setO es ep t) ∧ TabOk t es.size ∧ t.led = !X.P.followText "set-order" ∧ (es.size = 0 ∨ t.plain = false)
  el : ∀ e ∈ es.toList, ∃ p ∈ l, Val X.P V h (encPr p) e.2
  mem : ∀ p ∈ l, ∃ e ∈ es.toList, Val X.P V h (encPr p) e.2
  size : es.size ≤ l.length

theorem PairSet.at {X : Wd} {V : Rgn} {h h' : Heap} {S : Addr} {es : Array (Int × Value)} {l : List Pr} (x : PairSet X V h S es l) (hk : ∀ a o, ¬ V a → h.get? a = some o → h'.get? a = some o) (hS : ∀ o, h.get? S = some o → h'.get? S = some o) : PairSet X V h' S es l := by
  obtain ⟨⟨ep, t, ho, r⟩, h2, h3, h4⟩ := x
  exact ⟨⟨ep, t, hS _ ho, r⟩, fun e he => let ⟨p, hp, hv⟩ := h2 e he; ⟨p, hp, hv.keeps hk⟩, fun p hp => let ⟨e, he, hv⟩ := h3 p hp; ⟨e, he, hv.keeps hk⟩, h4⟩

section
variable {X : Wd} {A : Around} {E : Value → Shared → Prop} {s : Shared} {V : Rgn} {S : Addr}
theorem add_pair {es : Array (Int × Value)} {l : List Pr} {p : Pr} {v : Value} {Q : Bool → Shared → Prop} (hu : A.units < cLine) (ps : PairSet X V s.heap S es l) (hVS : V S) (hv : Val X.P V s.heap (encPr p) v) (hz : es.size < 60)
    (h : ∀ h' tk es', Heap.SameBut S s.heap h' → PairSet X V h' S es' (l ++ [p]) → ∀ b, Q b { s with heap := h', toks := tk }) : wpAny X.mo A (setAdd S v) Q E s := by
  obtain ⟨a, rfl, na, hk, t₁, t₂, n, hoa⟩ := pair_key hv
  obtain ⟨⟨ep, t, ho, tab, hled, hpl⟩, hel, hmem, hsize⟩ := ps
  unfold setAdd
  refine wpAny_holding (wpAny_bind (wpAny_pyHash_tuple (knd := sk X) hu hk ?_))
  generalize tupleKeyHash (sk X) [p.1, p.2] = hh
  generalize s.toks + ([p.1, p.2].length + 1) = tk
  unfold setAddHashed setAddHashedIn
  refine wpAny_holding (wpAny_bind (set_state (s := { s with toks := tk }) ho tab.fits ?_))
  dsimp only
  rw [show byScan (.ref a) es = false from rfl, if_neg Bool.false_ne_true]
  unfold setSearch
  obtain ⟨k, hk1, hk2⟩ := tab.ends hh
  have hp8 := size_pos tab.mask
  have hkk : k < 100000 := by unfold SetTable.turns at hk1; omega
  have hnS : ∀ {b : Addr}, ¬ V b → b ≠ S := fun nb e => nb (e ▸ hVS)
  refine wpAny_bind (search_ok (s := { s with toks := tk }) (P := fun e => Val X.P V s.heap (encPr p) e.2) (h := hh) ho tab (fun e he => ?_) (fun hl l' hl' Q' hq => ?_) (fun e he => ?_) (fun hf => ?_) (fun j => ?_) k 100000 none hk1 hkk rfl hk2)
  · obtain ⟨q, hq, hvq⟩ := hel e he
    obtain ⟨b, eb, nb, hkb, _⟩ := pair_key hvq
    refine ⟨decide ([q.1, q.2] = [p.1, p.2]), fun hd => ?_, fun Q' hq' => ?_⟩
    · have hd := of_decide_eq_true hd
      have e1 : q = p := by
        simp only [List.cons.injEq, and_true] at hd
        exact Prod.ext hd.1 hd.2
      exact e1 ▸ hvq
    · rw [eb]
      exact wpAny_eqBool_tuple (s := { s with toks := tk }) (knd := sk X) hu hkb hk hq'
  · refine seen_pair (s := { s with toks := tk }) hv hq l' fun w hw => ?_
    obtain ⟨e, he, rfl⟩ := hl' w hw
    obtain ⟨q, _, hvq⟩ := hel e he
    exact ⟨q, hvq⟩
  · obtain ⟨q, _, hvq⟩ := hel e he
    obtain ⟨b, eb, _⟩ := pair_key hvq
    exact ⟨b, eb⟩
  · obtain ⟨e, he, hve⟩ := hf
    refine wpAny_pure (h s.heap tk es (Heap.SameBut.refl _ _) ⟨⟨ep, t, ho, tab, hled, hpl⟩, fun e he => ?_, fun q hq => ?_, ?_⟩ _)
    · obtain ⟨q, hq, hvq⟩ := hel e he; exact ⟨q, List.mem_append_left _ hq, hvq⟩
    · rcases List.mem_append.mp hq with hq | hq
      · exact hmem q hq
      · rw [List.mem_singleton] at hq
        subst hq
        exact ⟨e, he, hve⟩
    · rw [List.length_append]; exact Nat.le_trans hsize (Nat.le_add_right _ _)
  · dsimp only
    refine wpAny_bind (set_state (s := { s with toks := tk }) ho tab.fits ?_)
    dsimp only
    have hes1 : ∀ pl, (SetTable.insertAt es pl (hh, Value.ref a)).toList.Perm (es.push (hh, .ref a)).toList := fun pl => SetTable.insertAt_perm es pl _
    obtain ⟨t', pl, hput, hmask, hdum, hplace, hled', hplain⟩ : ∃ t' pl, t.put j = (t', pl) ∧ t'.mask = t.mask ∧ t'.dummies = #[] ∧ t'.place.size = t.place.size + 1 ∧ t'.led = t.led ∧ t'.plain = t.plain := by
      refine ⟨_, _, rfl, rfl, ?_, ?_, rfl, rfl⟩
      · show (if SetTable.has t.dummies j = true then _ else t.dummies) = #[]
        rw [tab.dum]
        have : SetTable.has #[] j = false := by unfold SetTable.has; simp
        rw [this, if_neg Bool.false_ne_true]
      · have := (SetTable.insertAt_perm t.place (SetTable.below t.place j) j).length_eq
        rw [Array.length_toList, Array.length_toList, Array.size_push] at this
        exact this
    rw [hput]
    dsimp only
    generalize hes' : SetTable.insertAt es pl (hh, Value.ref a) = es1
    have hperm : es1.toList.Perm (es.toList ++ [(hh, .ref a)]) := by
      have := hes1 pl
      rw [hes', Array.toList_push] at this
      exact this
    have hsz1 : es1.size = es.size + 1 := by
      have := hperm.length_eq
      rw [List.length_append, Array.length_toList, Array.length_toList] at this
      exact this
    -- what is true of any array with these elements
    have fin : ∀ (h' : Heap) (es2 : Array (Int × Value)) (ep2 : Nat) (t2 : SetTable), es2.toList.Perm es1.toList → Heap.SameBut S s.heap h' → h'.get? S = some (setO es2 ep2 t2) → TabOk t2 es2.size → t2.led = t.led → t2.plain = false → ∀ b, Q b { s with heap := h', toks := tk } := fun h' es2 ep2 t2 hp2 hsb hg tab2 hl2 hpl2 b => by
      have hp := hp2.trans hperm
      have hkeep : ∀ c o, ¬ V c → s.heap.get? c = some o → h'.get? c = some o := fun c o nc e => (hsb.2 c (hnS nc)).trans e
      refine h h' tk es2 hsb ⟨⟨ep2, t2, hg, tab2, hl2.trans hled, .inr hpl2⟩, fun e he => ?_, fun q hq => ?_, ?_⟩ b
      · rcases List.mem_append.mp (hp.mem_iff.mp he) with he | he
        · obtain ⟨q, hq, hvq⟩ := hel e he; exact ⟨q, List.mem_append_left _ hq, hvq.keeps hkeep⟩
        · rw [List.mem_singleton] at he
          subst he
          exact ⟨p, List.mem_append_right _ (List.mem_singleton.mpr rfl), hv.keeps hkeep⟩
      · rcases List.mem_append.mp hq with hq | hq
        · obtain ⟨e, he, hvq⟩ := hmem q hq; exact ⟨e, hp.mem_iff.mpr (List.mem_append_left _ he), hvq.keeps hkeep⟩
        · rw [List.mem_singleton] at hq
          subst hq
          exact ⟨_, hp.mem_iff.mpr (List.mem_append_right _ (List.mem_singleton.mpr rfl)), hv.keeps hkeep⟩
      · have := hp.length_eq
        rw [List.length_append, Array.length_toList, Array.length_toList] at this
        rw [List.length_append, this]
        simp only [List.length_singleton]
        omega
    have hgrown : SetTable.grown (es.size + 1) = (es.size + 1) * 4 := by unfold SetTable.grown; rw [if_neg (by omega)]
    have tail : ∀ t2 : SetTable, t2.mask = t.mask → t2.dummies = #[] → t2.place.size = es1.size → t2.led = t.led → t2.plain = false → wpAny X.mo A (do
        storeSet S es1 t2
        if (!false && t2.tooFull) = true then do
          setRelay S (SetTable.grown (es.size + 1))
          pure true
        else pure true) Q E { s with toks := tk } := fun t2 hm2 hd2 hp2 hl2 hpl2 => by
      have hsl : sizeLine ≥ 4096 := by decide
      refine wpAny_bind (wpAny_storeSet_of (s := { s with toks := tk }) ho rfl ?_ (by rw [hsz1]; omega))
      have ho1 := upd_set (es' := es1) (t' := t2) ho
      have hs1 := Heap.SameBut.update s.heap S (Obj.putSet es1 t2)
      by_cases hfull : (!false && t2.tooFull) = true
      · rw [if_pos hfull]
        unfold setRelay
        have hfits : t2.fits es1.size = true := by
          have := tab.room
          unfold SetTable.fits SetTable.fill
          rw [hd2, hp2, hm2, hsz1]
          simp
          omega
        refine wpAny_bind (wpAny_bind (set_state (s := { s with heap := s.heap.update S (Obj.putSet es1 t2), toks := tk }) ho1 hfits ?_))
        dsimp only
        rw [hgrown]
        obtain ⟨ha1, ha2⟩ := above (w := (es.size + 1) * 4) (by omega)
        have ha3 := size_pos ha1
        rw [if_neg (by omega)]
        obtain ⟨t3, order, hrel, tab3, hl3, hpl3, hord⟩ := relaid_ok (t := t2) (hashes := es1.map (·.1)) (w := (es.size + 1) * 4) (by omega) (by rw [Array.size_map, hsz1]; omega) (by rw [Array.size_map, hsz1]; omega)
        rw [Array.size_map] at tab3 hord
        rw [hrel]
        have hes2 : (order.filterMap (fun i => es1[i]?)).toList.Perm es1.toList := by
          rw [Array.toList_filterMap]
          have h1 := hord.filterMap (fun i => es1[i]?)
          have h2 : (List.range es1.size).filterMap (fun i => es1[i]?) = es1.toList := by
            have := filterMap_get es1.toList
            rw [Array.length_toList] at this
            rw [← this]
            simp only [Array.getElem?_toList]
          rw [h2] at h1
          exact h1
        have hsz2 : (order.filterMap (fun i => es1[i]?)).size = es1.size := by
          have := hes2.length_eq
          rwa [Array.length_toList, Array.length_toList] at this
        refine wpAny_bind ?_
        show wpAny _ _ (if ((order.filterMap (fun i => es1[i]?)).size != es1.size) = true then _ else pure (order.filterMap (fun i => es1[i]?), t3)) _ _ _
        rw [if_neg (by rw [hsz2]; simp)]
        refine wpAny_pure ?_
        dsimp only
        refine wpAny_storeSet_of (o := setO es1 (ep + 1) t2) ho1 rfl ?_ (by rw [hsz2, hsz1]; omega)
        refine wpAny_pure (fin _ _ _ t3 hes2 (hs1.trans (Heap.SameBut.update _ S _)) (upd_set ho1) (by rw [hsz2]; exact tab3) (hl3.trans hl2) (hpl3.trans hpl2) _)
      · rw [if_neg hfull]
        refine wpAny_pure (fin _ _ _ t2 (List.Perm.refl _) hs1 ho1 ⟨by rw [hm2]; exact tab.mask, hd2, hp2, ?_⟩ hl2 hpl2 _)
        have : t2.tooFull = false := by simpa using hfull
        unfold SetTable.tooFull SetTable.fill at this
        rw [hd2, hp2] at this
        simp at this
        rw [hm2] at this ⊢
        omega
    by_cases hp : t'.plain = true
    · rw [if_pos hp]
      refine wpAny_bind (hbv_pair (s := { s with toks := tk }) hoa ?_)
      simp only [Bool.false_eq_true, if_false]
      exact tail _ hmask hdum (by show t'.place.size = _; rw [hplace, tab.size, hsz1]) hled' rfl
    · rw [if_neg hp]
      refine wpAny_bind (wpAny_pure ?_)
      simp only [if_true]
      exact tail _ hmask hdum (by rw [hplace, tab.size, hsz1]) hled' (by simpa using hp)
end
end Mine
namespace Mine
open PySem PySem.W PySem.Calls PyProof.Rows

section
variable {X : Wd} {A : Around} {E : Value → Shared → Prop} {s : Shared}
theorem set_loopP {b S I : Addr} {items : Array Value} {nl : Nat} {l : List Pr} {V : Rgn} (hVS : V S) (hVI : V I) (hSI : S ≠ I) (hbI : b ≠ I) (hbS : b ≠ S) (hz : l.length < 60) (hh : A.handled = none) (hu : A.units + 64 < cLine) :
    ∀ (k i : Nat) (s : Shared) (es : Array (Int × Value)) (R : Result → Shared → Prop), l.length - i = k → i ≤ l.length → s.heap.IsListIter I b i → s.heap.get? b = some (seqO tList items nl) → Vals X.P V s.heap (l.map encPr) items.toList →
      PairSet X V s.heap S es (l.take i) →
      (∀ s' es', Step (fun x => x = S ∨ x = I) s s' → PairSet X V s'.heap S es' l → R (.ok (.ret .none)) s') →
      codeAny X.mo A (.builtin "set.update.loop" ⟨[.ref S, .ref I], []⟩) R s := by
  intro k
  induction k with
  | zero =>
    intro i s es R hk hi hit hb hv hS hR
    have hi' : i = l.length := by omega
    subst hi'
    refine codeAny_builtin F.entry_set_update_loop ?_
    rw [Around.under_plainId F.plain_set_update_loop _]
    show wpAny _ A.in1 (pyNext (.ref I) >>= _) _ _ s
    have hx : items[l.length]? = none := by have := hv.length; rw [Array.getElem?_eq_none]; simp at this; omega
    refine wpAny_bind (wpAny_pyNext_list_end (by exact hh) hit (Heap.IsList.of hb) hx fun h' he => ?_)
    show wpAny _ A.in1 (ret Value.none) _ _ _
    have st : Step (fun x => x = S ∨ x = I) s { s with heap := h' } := Step.heap (t := s.toks) fun c o n e => he c o (fun w => n (.inr w)) e
    rw [List.take_length] at hS
    exact wpAny_pure (hR _ es st (hS.at (fun a o na e => he a o (fun w => na (w ▸ hVI)) e) fun o e => he S o hSI e))
  | succ k ih =>
    intro i s es R hk hi hit hb hv hS hR
    have hlt : i < l.length := by omega
    have hd : (l.map encPr)[i]? = some (encPr l[i]) := by rw [List.getElem?_map, List.getElem?_eq_getElem hlt]; rfl
    obtain ⟨v, hv', hval⟩ := hv.get hd
    rw [Array.getElem?_toList] at hv'
    refine codeAny_builtin F.entry_set_update_loop ?_
    rw [Around.under_plainId F.plain_set_update_loop _]
    show wpAny _ A.in1 (pyNext (.ref I) >>= _) _ _ s
    refine wpAny_bind (wpAny_pyNext_list_item hit (Heap.IsList.of hb) hv' fun h₁ hit₁ hs₁ => ?_)
    have st₁ : Step (fun x => x = I) s { s with heap := h₁ } := Step.same (t := s.toks) hs₁ rfl
    have hS₁ : PairSet X V h₁ S es (l.take i) := hS.at (fun a o na e => (hs₁.2 a (fun w => na (w ▸ hVI))).trans e) fun o e => (hs₁.2 S hSI).trans e
    have hval₁ : Val X.P V h₁ (encPr l[i]) v := hval.keeps fun a o na e => (hs₁.2 a (fun w => na (w ▸ hVI))).trans e
    show wpAny _ A.in1 (holding [v] (setAdd S v) >>= _) _ _ _
    have hsz : es.size < 60 := by
      have h1 := hS.size
      have h2 : (l.take i).length ≤ l.length := by rw [List.length_take]; exact Nat.min_le_right _ _
      omega
    refine wpAny_bind (wpAny_holding (add_pair (s := { s with heap := h₁ }) (by show A.units + 1 < cLine; omega) hS₁ hVS hval₁ hsz fun h₂ tk es' hs₂ hS₂ bb => ?_))
    have st₂ : Step (fun x => x = S) { s with heap := h₁ } { s with heap := h₂, toks := tk } := Step.same hs₂ rfl
    have htake : l.take (i + 1) = l.take i ++ [l[i]] := by rw [List.take_add_one, List.getElem?_eq_getElem hlt]; rfl
    have stt : Step (fun x => x = S ∨ x = I) s { s with heap := h₂, toks := tk } := (st₁.mono fun _ w => .inr w).trans (st₂.mono fun _ w => .inl w)
    rw [← htake] at hS₂
    refine wpAny_pure ⟨plainId_quiet F.plain_set_update_loop _, ih (i + 1) _ es' R (by omega) hlt ?_ (stt.keep b _ (fun w => w.elim hbS hbI) hb) ?_ hS₂ fun s' es'' st' hS' => hR s' es'' (stt.trans st') hS'⟩
    · obtain ⟨o, ho, r⟩ := hit₁
      exact ⟨o, st₂.keep I o (Ne.symm hSI) ho, r⟩
    · exact hv.step stt fun c w => w.elim (fun w => w ▸ hVS) fun w => w ▸ hVI

/-- set(list of pairs) -/
theorem set_pairs {V : Rgn} {l : List Pr} {lv : Value} {Q : Value → Shared → Prop} {n : Nat} (hA : AOk A (n + 1)) (H : Hp X V s) (hz : l.length < 60) (hv : Val X.P V s.heap (.list (l.map encPr)) lv)
    (hQ : ∀ S es s', Step None s s' → s.heap.get? S = none → PairSet X V s'.heap S es l → Q (.ref S) s') : wpAny X.mo A (call (.type "set") [lv]) Q E s := by
  obtain ⟨b, nl, items, rfl, nb, ho, hvs⟩ := val_seq.mp hv
  have hsn : s.heap.get? s.heap.objs.size = none := get?_size _
  have hsn1 : s.heap.get? (s.heap.objs.size + 1) = none := get?_none_of_le (Nat.le_succ _)
  have hb0 : b ≠ s.heap.objs.size := fun e => by rw [e, hsn] at ho; cases ho
  have hb1 : b ≠ s.heap.objs.size + 1 := fun e => by rw [e, hsn1] at ho; cases ho
  refine set_of_list ho (fun s' => Step None s s' ∧ ∃ es, PairSet X V s'.heap s.heap.objs.size es l) (fun s₁ hs₁ A' hA' _ hun => ?_) fun s' ⟨st, es, hS⟩ => hQ _ es s' st hsn hS
  subst hs₁
  have keep : ∀ c o, s.heap.get? c = some o → ((s.heap.push (setO #[] 0 (.fresh 0 0 (!X.w.params.followText "set-order")))).push { cls := .type "list_iterator", data := .fields #[.ref b, .int 0 0] }).get? c = some o := fun c o e => Heap.get?_push_of_some _ (Heap.get?_push_of_some _ e)
  have hz1 : (s.heap.push (setO #[] 0 (.fresh 0 0 (!X.w.params.followText "set-order")))).objs.size = s.heap.objs.size + 1 := Heap.size_push ..
  have hunit : A'.units + 64 < cLine := by
    have := hA.units
    have : cLine ≥ 9200 := by decide
    omega
  refine set_loopP (V := fun c => V c ∨ c = s.heap.objs.size ∨ c = s.heap.objs.size + 1) (b := b) (.inr (.inl rfl)) (.inr (.inr rfl)) (Nat.ne_of_lt (Nat.lt_succ_self _)) hb1 hb0 hz (hA'.trans hA.handled) hunit l.length 0 _ #[] _ rfl (Nat.zero_le _) ?_ (keep _ _ ho) ?_
    ⟨⟨0, _, Heap.get?_push_of_some _ (Heap.get?_push_size _ rfl), ⟨by show 8 ∈ sizes; decide, rfl, rfl, by show 0 * 5 < 7 * 3; decide⟩, rfl, .inl rfl⟩, fun e he => by simp at he, fun p hp => by simp at hp, by simp⟩ fun s' es' st hS => ⟨rfl, ?_, es', ?_⟩
  · have := Heap.get?_push_size (s.heap.push (setO #[] 0 (.fresh 0 0 (!X.w.params.followText "set-order")))) (o := { cls := .type "list_iterator", data := .fields #[.ref b, .int 0 0] }) rfl
    rw [hz1] at this; exact ⟨_, this, rfl, rfl⟩
  · refine (hvs.grow fun c w => ?_).keeps fun c o _ e => keep c o e
    rcases w with w | w | w
    · exact .inl w
    · exact .inr (w ▸ hsn)
    · exact .inr (w ▸ hsn1)
  · have st0 : Step None s { s with heap := (s.heap.push (setO #[] 0 (.fresh 0 0 (!X.w.params.followText "set-order")))).push { cls := .type "list_iterator", data := .fields #[.ref b, .int 0 0] } } := Step.heap (t := s.toks) fun c o _ e => keep c o e
    refine ((st0.all _).trans st).old fun c w => .inr ?_
    rcases w with w | w
    · exact w ▸ hsn
    · exact w ▸ hsn1
  · exact ⟨hS.well, fun e he => let ⟨p, hp, hv⟩ := hS.el e he; ⟨p, hp, hv.less fun b w => .inl w⟩, fun p hp => let ⟨e, he, hv⟩ := hS.mem p hp; ⟨e, he, hv.less fun b w => .inl w⟩, hS.size⟩

theorem pairs_of {V : Rgn} {h : Heap} {P : Pr → Prop} : ∀ (es : List (Int × Value)), (∀ e ∈ es, ∃ p, P p ∧ Val X.P V h (encPr p) e.2) → ∃ L : List Pr, Vals X.P V h (L.map encPr) (es.map (·.2)) ∧ ∀ p ∈ L, P p
  | [], _ => ⟨[], by simp, fun p hp => nomatch hp⟩
  | e :: es, H => by
    obtain ⟨p, hp, hv⟩ := H e (by simp)
    obtain ⟨L, hL, hP⟩ := pairs_of es fun e he => H e (by simp [he])
    refine ⟨p :: L, by rw [List.map_cons, List.map_cons, vals_cons']; exact ⟨hv, hL⟩, fun q hq => ?_⟩
    rcases List.mem_cons.mp hq with rfl | hq
    · exact hp
    · exact hP q hq
end
end Mine
namespace Mine
open PySem PySem.W PySem.Calls PyProof.Rows

/-- what a tree of questions asks of and gives -/
def AskOk {α : Type} (n : Nat) (R : α → Prop) : KasT α → Prop
  | .ret a => R a
  | .ask i j k => i < n ∧ j < n ∧ ∀ b, AskOk n R (k b)
theorem AskOk.bind {α β : Type} {n : Nat} {R : α → Prop} {R' : β → Prop} {f : α → KasT β} : ∀ {t : KasT α}, AskOk n R t → (∀ a, R a → AskOk n R' (f a)) → AskOk n R' (t.bind f)
  | .ret a, h, k => k a h
  | .ask i j g, h, k => ⟨h.1, h.2.1, fun b => AskOk.bind (h.2.2 b) k⟩
theorem AskOk.mono {α : Type} {n : Nat} {R R' : α → Prop} (hR : ∀ a, R a → R' a) : ∀ {t : KasT α}, AskOk n R t → AskOk n R' t
  | .ret a, h => hR a h
  | .ask i j g, h => ⟨h.1, h.2.1, fun b => AskOk.mono hR (h.2.2 b)⟩
def Pn (n : Nat) (p : Array Nat) : Prop := p.toList.Perm (List.range n)
theorem Pn.lt {n : Nat} (hn : 0 < n) {p : Array Nat} (h : Pn n p) (k : Nat) : p.getD k 0 < n := by
  rw [Array.getD_eq_getD_getElem?]
  cases hk : p[k]? with
  | none => exact hn
  | some x =>
    have : x ∈ p.toList := List.mem_of_getElem? (by rw [Array.getElem?_toList]; exact hk)
    exact List.mem_range.mp (h.mem_iff.mp this)
theorem Pn.rev {n : Nat} {p : Array Nat} (h : Pn n p) (i j : Nat) : Pn n (kas_rev p i j) := (Array.perm_iff_toList_perm.mp (mirror_perm p i j _)).trans h
theorem Pn.bub {n : Nat} {p : Array Nat} (h : Pn n p) (i j : Nat) : Pn n (bubble p i j) := (Array.perm_iff_toList_perm.mp (bubble_perm p i j)).trans h
section
variable {n : Nat} (hn : 0 < n)
include hn
theorem asc_ok {p : Array Nat} (h : Pn n p) : ∀ (f m : Nat), AskOk n (fun _ => True) (kas_asc p f m)
  | 0, m => trivial
  | f + 1, m => ⟨h.lt hn _, h.lt hn _, fun c => by
      dsimp only
      split
      · trivial
      · exact asc_ok h f (m + 1)⟩
theorem desc_ok : ∀ (f : Nat) (p : Array Nat) (m q : Nat), Pn n p → AskOk n (fun r => Pn n r.1) (kas_desc f p m q)
  | 0, p, m, q, h => h
  | f + 1, p, m, q, h => ⟨h.lt hn _, h.lt hn _, fun c => by
      dsimp only
      split
      · split
        · exact desc_ok f _ _ _ (h.rev _ _)
        · exact desc_ok f _ _ _ h
      · exact ⟨h.lt hn _, h.lt hn _, fun d => by
          dsimp only
          split
          · exact h
          · exact desc_ok f _ _ _ h⟩⟩
theorem tail3_ok {m r : Nat} {p : Array Nat} (h : Pn n p) : AskOk n (fun x => Pn n x.2) (kas_tail3 m r p) :=
  AskOk.bind (asc_ok hn (h.rev 0 m) _ _) fun _ _ => h.rev 0 m
theorem descPart_ok {m r : Nat} {p : Array Nat} (h : Pn n p) : AskOk n (fun x => Pn n x.2) (kas_descPart m r p) :=
  AskOk.bind (desc_ok hn _ p _ _ h) fun x hx => by
    try dsimp only
    split
    · exact tail3_ok hn (hx.rev _ _)
    · exact tail3_ok hn hx
theorem count_ok {r : Nat} {p : Array Nat} (h : Pn n p) : AskOk n (fun x => Pn n x.2) (kas_count r p) :=
  AskOk.bind (asc_ok hn h _ _) fun m _ => by
    try dsimp only
    split
    · exact h
    · split
      · exact ⟨h.lt hn _, h.lt hn _, fun c => by
          dsimp only
          split
          · exact h
          · exact descPart_ok hn (h.rev _ _)⟩
      · exact descPart_ok hn h
theorem place_ok {p : Array Nat} {k : Nat} (h : Pn n p) : ∀ (f l r : Nat), AskOk n (fun _ => True) (kas_place p k f l r)
  | 0, l, r => trivial
  | f + 1, l, r => by
    unfold kas_place
    split
    · trivial
    · exact ⟨h.lt hn _, h.lt hn _, fun c => by
        dsimp only
        split
        · exact place_ok h f _ _
        · exact place_ok h f _ _⟩
theorem bin_ok : ∀ (f : Nat) (p : Array Nat) (k : Nat), Pn n p → AskOk n (Pn n) (kas_bin f p k)
  | 0, p, k, h => h
  | f + 1, p, k, h => AskOk.bind (place_ok hn h _ _ _) fun l _ => bin_ok f _ _ (h.bub _ _)
theorem sort_ok : AskOk n (Pn n) (kas_sort n) :=
  AskOk.bind (count_ok hn (List.Perm.refl _)) fun r hr => by
    try dsimp only
    split
    · exact bin_ok hn _ _ _ hr
    · exact hr
end

/-- a tree, answered by a function -/
def evalT {α : Type} (lt : Nat → Nat → Bool) : KasT α → α
  | .ret a => a
  | .ask i j k => evalT lt (k (lt i j))
theorem eval_ok {α : Type} {n : Nat} {R : α → Prop} (lt : Nat → Nat → Bool) : ∀ {t : KasT α}, AskOk n R t → R (evalT lt t)
  | .ret a, h => h
  | .ask i j k, h => show R (evalT lt (k (lt i j))) from eval_ok lt (h.2.2 (lt i j))
theorem eval_wp {α : Type} {n : Nat} {R : α → Prop} {cmp : Nat → Nat → (Bool → Shared → Prop) → Shared → Prop} {lt : Nat → Nat → Bool} {Kp : Shared → Prop}
    (hlt : ∀ i j, i < n → j < n → ∀ (C : Bool → Shared → Prop) s, Kp s → (∀ s', Kp s' → C (lt i j) s') → cmp i j C s) {Q : α → Shared → Prop} : ∀ {t : KasT α} (s : Shared), AskOk n R t → Kp s → (∀ s', Kp s' → Q (evalT lt t) s') → t.kasWp cmp Q s
  | .ret a, s, h, hK, hQ => hQ s hK
  | .ask i j k, s, h, hK, hQ => hlt i j h.1 h.2.1 _ s hK fun s' hK' => eval_wp hlt s' (h.2.2 _) hK' hQ
end Mine
namespace Mine
open PySem PySem.W PySem.Calls PyProof.Rows

section
variable {prog : Program} {w : World} {A : Around} {E : Value → Shared → Prop} {s : Shared}
theorem list_sort_ask {a : Addr} {vs : List Value} {n : Nat} {lt : Nat → Nat → Bool} {κ : SortKind} {P : PySem.Fin → Shared → Prop} (ho : s.heap.get? a = some (seqObj "list" vs.toArray n)) (h2 : 2 ≤ vs.length) (h64 : vs.length < 64)
    (hkind : ∀ (s' : Shared) (Q : SortKind → Shared → Prop), (∀ b o, b ≠ a → s.heap.get? b = some o → s'.heap.get? b = some o) → Q κ s' → wpAny (model prog w) A (keyKind' vs.toArray) Q (fun _ _ => False) s')
    (hlt : ∀ i j, i < vs.length → j < vs.length → ∀ (C : Bool → Shared → Prop) (s' : Shared), (∀ b o, b ≠ a → s.heap.get? b = some o → s'.heap.get? b = some o) → C (lt i j) s' → kas_ask prog w A κ vs i j C s')
    (h : ∀ h' e, (∀ b o, b ≠ a → s.heap.get? b = some o → h'.get? b = some o) → h'.get? a = some (seqObj "list" (List.toArray ((evalT lt (kas_sort vs.length)).toList.map fun i => vs.getD i Value.none)) e) → P (.done (.ret .none)) { s with heap := h' }) :
    wpAny (model prog w) A (Builtin.«list.sort» ⟨[.ref a], []⟩) P E s := by
  have ha : a < s.heap.objs.size := Heap.lt_size ho
  have s1 := Heap.SameBut.update s.heap a (Obj.mapSeq fun _ => (#[] : Array Value))
  obtain ⟨e1, ho1⟩ : ∃ e1, (s.heap.update a (Obj.mapSeq fun _ => (#[] : Array Value))).get? a = some (seqObj "list" #[] e1) := ⟨_, get?_update_seq ho fun _ => #[]⟩
  rw [list_sort_plain]
  refine wpAny_bind (listItems_at ho rfl ?_)
  refine wpAny_bind (listUpdate_at ho rfl ?_ (by rw [List.size_toArray, sizeLine_eq]; omega) (Nat.zero_le _))
  refine wpAny_bind (seqEpoch_at ho1 rfl ?_)
  refine wpAny_bind (wpAny_newTuple ?_ (by show vs.length ≤ _; rw [sizeLine_eq]; omega))
  refine wpAny_bind (wpAny_newList ?_ (Nat.zero_le _))
  refine wpAny_holding ?_
  show wpAny (model prog w) A _ P E { s with heap := ((s.heap.update a (Obj.mapSeq fun _ => (#[] : Array Value))).push (seqObj "tuple" vs.toArray 0)).push (seqObj "list" #[] 0) }
  have ho6 : (((s.heap.update a (Obj.mapSeq fun _ => (#[] : Array Value))).push (seqObj "tuple" vs.toArray 0)).push (seqObj "list" #[] 0)).get? a = some (seqObj "list" #[] e1) := Heap.get?_push_of_some _ (Heap.get?_push_of_some _ ho1)
  have hkeep : ∀ b o, b ≠ a → s.heap.get? b = some o → (((s.heap.update a (Obj.mapSeq fun _ => (#[] : Array Value))).push (seqObj "tuple" vs.toArray 0)).push (seqObj "list" #[] 0)).get? b = some o := fun b o nb e => Heap.get?_push_of_some _ (Heap.get?_push_of_some _ ((s1.2 b nb).trans e))
  generalize ((s.heap.update a (Obj.mapSeq fun _ => (#[] : Array Value))).push (seqObj "tuple" vs.toArray 0)).push (seqObj "list" #[] 0) = h3 at ho6 hkeep ⊢
  dsimp only
  have hn2 : ¬ vs.toArray.size < 2 := by rw [List.size_toArray]; omega
  rw [if_neg hn2, if_neg hn2]
  refine wpAny_bind (wpAny_mono (hkind { s with heap := h3 } (fun κ' s' => κ' = κ ∧ s' = { s with heap := h3 }) hkeep ⟨rfl, rfl⟩) (fun κ' s0 hk => ?_) fun _ _ x => x.elim)
  obtain ⟨rfl, rfl⟩ := hk
  have hn : 0 < vs.length := by omega
  refine wpAny_bind (wpAny_mono (kat_run (G := fun p' s' => p' = evalT lt (kas_sort vs.length) ∧ s' = { s with heap := h3 }) (Q := fun st' s' => ∃ p : Array Nat, p.size = vs.length ∧ arrOf st' = p.map (kas_item (vs.toArray.zip vs.toArray)) ∧ failedOf st' = none ∧ p = evalT lt (kas_sort vs.length) ∧ s' = { s with heap := h3 })
    rfl h2 h64 (fun p' st' s' a1 a2 a3 a4 => ⟨p', a1, a2, a3, a4.1, a4.2⟩)
    (eval_wp (n := vs.length) (R := Pn vs.length) (lt := lt) (Kp := fun s' => s' = { s with heap := h3 }) (fun i j hi hj C s' hs' hC => by subst hs'; exact hlt i j hi hj C _ hkeep (hC _ rfl)) _ (sort_ok hn) rfl fun s' hs' => ⟨rfl, hs'⟩)) ?_ fun _ _ e => e)
  rintro ⟨⟨⟩, st'⟩ s' ⟨p, hp, har, hf, rfl, rfl⟩
  dsimp only
  have hout := kat_snds (ks := vs) (vs := vs) rfl har
  have hsz : (List.toArray ((evalT lt (kas_sort vs.length)).toList.map fun i => vs.getD i Value.none)).size = vs.length := by rw [List.size_toArray, List.length_map, Array.length_toList, hp]
  rw [hout]
  have s2 := Heap.SameBut.update h3 a (Obj.mapSeq fun _ => List.toArray ((evalT lt (kas_sort vs.length)).toList.map fun i => vs.getD i Value.none))
  refine wpAny_bind (seqEpoch_at (s := { s with heap := h3 }) ho6 rfl ?_)
  refine wpAny_bind (listUpdate_at (s := { s with heap := h3 }) ho6 rfl ?_ (Nat.zero_le _) (Nat.le_trans (Nat.le_of_eq hsz) (by rw [sizeLine_eq]; omega)))
  rw [hf]
  simp only [bne_self_eq_false, Bool.false_eq_true, if_false]
  exact wpAny_pure (h _ _ (fun b o nb e => (s2.2 b nb).trans (hkeep b o nb e)) (get?_update_seq ho6 fun _ => List.toArray ((evalT lt (kas_sort vs.length)).toList.map fun i => vs.getD i Value.none)))
end
end Mine
namespace Mine
open PySem PySem.W PySem.Calls PyProof.Rows

section
variable {prog : Program} {w : World} {A : Around} {E : Value → Shared → Prop} {s : Shared}
theorem list_sort_short {a : Addr} {vs : List Value} {n : Nat} {P : PySem.Fin → Shared → Prop} (ho : s.heap.get? a = some (seqObj "list" vs.toArray n)) (h2 : vs.length < 2)
    (h : ∀ h' e, (∀ b o, b ≠ a → s.heap.get? b = some o → h'.get? b = some o) → h'.get? a = some (seqObj "list" vs.toArray e) → P (.done (.ret .none)) { s with heap := h' }) :
    wpAny (model prog w) A (Builtin.«list.sort» ⟨[.ref a], []⟩) P E s := by
  have s1 := Heap.SameBut.update s.heap a (Obj.mapSeq fun _ => (#[] : Array Value))
  obtain ⟨e1, ho1⟩ : ∃ e1, (s.heap.update a (Obj.mapSeq fun _ => (#[] : Array Value))).get? a = some (seqObj "list" #[] e1) := ⟨_, get?_update_seq ho fun _ => #[]⟩
  rw [list_sort_plain]
  refine wpAny_bind (listItems_at ho rfl ?_)
  refine wpAny_bind (listUpdate_at ho rfl ?_ (by rw [List.size_toArray, sizeLine_eq]; omega) (Nat.zero_le _))
  refine wpAny_bind (seqEpoch_at ho1 rfl ?_)
  refine wpAny_bind (wpAny_newTuple ?_ (by show vs.length ≤ _; rw [sizeLine_eq]; omega))
  refine wpAny_bind (wpAny_newList ?_ (Nat.zero_le _))
  refine wpAny_holding ?_
  show wpAny (model prog w) A _ P E { s with heap := ((s.heap.update a (Obj.mapSeq fun _ => (#[] : Array Value))).push (seqObj "tuple" vs.toArray 0)).push (seqObj "list" #[] 0) }
  have ho6 : (((s.heap.update a (Obj.mapSeq fun _ => (#[] : Array Value))).push (seqObj "tuple" vs.toArray 0)).push (seqObj "list" #[] 0)).get? a = some (seqObj "list" #[] e1) := Heap.get?_push_of_some _ (Heap.get?_push_of_some _ ho1)
  have hkeep : ∀ b o, b ≠ a → s.heap.get? b = some o → (((s.heap.update a (Obj.mapSeq fun _ => (#[] : Array Value))).push (seqObj "tuple" vs.toArray 0)).push (seqObj "list" #[] 0)).get? b = some o := fun b o nb e => Heap.get?_push_of_some _ (Heap.get?_push_of_some _ ((s1.2 b nb).trans e))
  generalize ((s.heap.update a (Obj.mapSeq fun _ => (#[] : Array Value))).push (seqObj "tuple" vs.toArray 0)).push (seqObj "list" #[] 0) = h3 at ho6 hkeep ⊢
  dsimp only
  have hn2 : vs.toArray.size < 2 := by rw [List.size_toArray]; exact h2
  rw [if_pos hn2, if_pos hn2]
  refine wpAny_bind (wpAny_pure ?_)
  rw [StateT.run_pure]
  refine wpAny_bind (wpAny_pure ?_)
  dsimp only
  have hout : (vs.toArray.zip vs.toArray).map (·.2) = vs.toArray := by
    apply Array.toList_inj.mp
    rw [Array.toList_map, Array.toList_zip, List.map_snd_zip (Nat.le_refl _)]
  have s2 := Heap.SameBut.update h3 a (Obj.mapSeq fun _ => vs.toArray)
  refine wpAny_bind (seqEpoch_at (s := { s with heap := h3 }) ho6 rfl ?_)
  show wpAny _ _ (Builtin.List.listUpdate (.ref a) (fun _ => (vs.toArray.zip vs.toArray).map (·.2)) >>= _) _ _ _
  rw [hout]
  refine wpAny_bind (listUpdate_at (s := { s with heap := h3 }) ho6 rfl ?_ (Nat.zero_le _) (by rw [List.size_toArray, sizeLine_eq]; omega))
  simp only [bne_self_eq_false, Bool.false_eq_true, if_false]
  exact wpAny_pure (h _ _ (fun b o nb e => (s2.2 b nb).trans (hkeep b o nb e)) (get?_update_seq ho6 fun _ => vs.toArray))
end

/-- what sorting gives, as data -/
def sortL {α : Type} (lt : α → α → Bool) (l : List α) : List α := if l.length < 2 then l else
  (evalT (fun i j => match l[i]?, l[j]? with | some p, some q => lt p q | _, _ => false) (kas_sort l.length)).toList.filterMap fun i => l[i]?
theorem sortL_perm {α : Type} (lt : α → α → Bool) (l : List α) : (sortL lt l).Perm l := by
  unfold sortL
  split
  · exact List.Perm.refl _
  · rename_i h
    have hp : Pn l.length (evalT (fun i j => match l[i]?, l[j]? with | some p, some q => lt p q | _, _ => false) (kas_sort l.length)) := eval_ok _ (sort_ok (by omega))
    have := hp.filterMap fun i => l[i]?
    rw [filterMap_get] at this
    exact this

section
variable {X : Wd} {A : Around} {E : Value → Shared → Prop} {s : Shared} {V : Rgn} {α : Type}
theorem vals_pick {h : Heap} {enc : α → PV} {l : List α} {vs : List Value} (hv : Vals X.P V h (l.map enc) vs) : ∀ (p : List Nat), (∀ i ∈ p, i < l.length) → Vals X.P V h ((p.filterMap fun i => l[i]?).map enc) (p.map fun i => vs.getD i Value.none)
  | [], _ => by simp
  | i :: p, hp => by
    have hi := hp i (by simp)
    rw [List.filterMap_cons_some (b := l[i]) (List.getElem?_eq_getElem hi), List.map_cons, List.map_cons, vals_cons']
    refine ⟨?_, vals_pick hv p fun j hj => hp j (by simp [hj])⟩
    obtain ⟨v, hv', hx⟩ := hv.get (i := i) (d := enc l[i]) (by rw [List.getElem?_map, List.getElem?_eq_getElem hi]; rfl)
    rw [List.getD_eq_getElem?_getD, hv']
    exact hx

/-- how a kind of rows is sorted -/
structure SortK (X : Wd) (enc : α → PV) (lt : α → α → Bool) : Prop where
  obj : ∀ {V : Rgn} {h : Heap} {p : α} {v : Value}, Val X.P V h (enc p) v → ∃ a x t w n, v = .ref a ∧ ¬ V a ∧ h.get? a = some (seqO tTuple #[.str x t, w] n)
  cmp : ∀ {V : Rgn} {A : Around} {s : Shared} {p q : α} {a b : Addr} {C : Bool → Shared → Prop}, Val X.P V s.heap (enc p) (.ref a) → Val X.P V s.heap (enc q) (.ref b) → C (lt p q) s → wpAny X.mo A (keyLt' (tuples' true) (.ref a) (.ref b)) C (fun _ _ => False) s

theorem tups_of {enc : α → PV} {lt : α → α → Bool} (K : SortK X enc lt) {h : Heap} : ∀ {l : List α} {vs : List Value}, Vals X.P V h (l.map enc) vs → ∃ fs, KatTups h vs fs ∧ fs.length = l.length ∧ ∀ v ∈ fs, ∃ x t, v = .str x t
  | [], vs, hv => by
    have := vals_nil.mp hv
    subst this
    exact ⟨[], .nil, rfl, fun v hv => nomatch hv⟩
  | p :: l, vs, hv => by
    rw [List.map_cons] at hv
    obtain ⟨v, r, rfl, h1, h2⟩ := vals_cons.mp hv
    obtain ⟨a, x, t, w, n, rfl, na, ho⟩ := K.obj h1
    obtain ⟨fs, ht, hl, hf⟩ := tups_of K h2
    refine ⟨.str x t :: fs, .cons ho rfl rfl rfl ht, by simp [hl], fun v hv => ?_⟩
    rcases List.mem_cons.mp hv with rfl | hv
    · exact ⟨x, t, rfl⟩
    · exact hf v hv

theorem sorted_rows {enc : α → PV} {lt : α → α → Bool} (K : SortK X enc lt) {v : Value} {C : List α → Prop} {Q : Value → Shared → Prop} (H : Hp X V s) (hcol : wpAny X.mo A.in1 (collect v) (fun vs s₁ => ∃ l : List α, Step None s s₁ ∧ Vals X.P V s₁.heap (l.map enc) vs ∧ l.length < 64 ∧ C l) E s)
    (hQ : ∀ s' r l, C l → Step None s s' → Val X.P V s'.heap (.list ((sortL lt l).map enc)) (.ref r) → Q (.ref r) s') : wpAny X.mo A (call (.builtin "sorted") [v]) Q E s := by
  refine Calls.call_function_entry kind_sorted plain_sorted entry_sorted (args_sorted1 _) ?_
  unfold Builtin.«sorted»
  refine wpAny_bind (m := checkCount "sorted" 1 1 _) (wpAny_pure ?_)
  refine wpAny_bind (wpAny_mono hcol (fun vs s₁ ⟨l, st, hv, h64, hC⟩ => ?_) fun _ _ x => x)
  have hvl : l.length = vs.length := by have := hv.length; simpa using this
  refine wpAny_bind (wpAny_newList ?_ (by
    have : sizeLine ≥ 64 := by decide
    omega))
  have hsn : s₁.heap.get? s₁.heap.objs.size = none := get?_size _
  have hs0 : s.heap.get? s₁.heap.objs.size = none := none_of_keep (fun o e => st.kp _ o e) hsn
  have hoL : (s₁.heap.push (seqObj "list" vs.toArray 0)).get? s₁.heap.objs.size = some (seqObj "list" vs.toArray 0) := Heap.get?_push_size _ rfl
  have hVa : ∀ b, V b → b ≠ s₁.heap.objs.size := fun b w e => by obtain ⟨o, e'⟩ := H.bnd b w; rw [e, hs0] at e'; cases e'
  have hv₁ : Vals X.P (fun b => V b ∨ b = s₁.heap.objs.size) (s₁.heap.push (seqObj "list" vs.toArray 0)) (l.map enc) vs := (hv.grow fun b w => w.imp id fun (w : b = s₁.heap.objs.size) => w ▸ hsn).keeps fun b o _ e => Heap.get?_push_of_some _ e
  generalize s₁.heap.objs.size = a at hsn hs0 hoL hVa hv₁ ⊢
  have keepV : ∀ {s' : Shared}, (∀ b o, b ≠ a → (s₁.heap.push (seqObj "list" vs.toArray 0)).get? b = some o → s'.heap.get? b = some o) → Vals X.P (fun b => V b ∨ b = a) s'.heap (l.map enc) vs := fun {s'} hk => hv₁.keeps fun b o n e => hk b o (fun q => n (.inr q)) e
  have fin : ∀ h' e out l', (∀ b o, b ≠ a → (s₁.heap.push (seqObj "list" vs.toArray 0)).get? b = some o → h'.get? b = some o) → h'.get? a = some (seqObj "list" (List.toArray out) e) → Vals X.P (fun b => V b ∨ b = a) h' (l'.map enc) out → l' = sortL lt l → Q (.ref a) { s₁ with heap := h' } := fun h' e out l' hk ho hvo hl' => by
    subst hl'
    refine hQ _ a l hC (st.trans (Step.heap (t := s₁.toks) fun b o _ e => hk b o (fun q => by rw [q, hsn] at e; cases e) (Heap.get?_push_of_some _ e))) (val_seq.mpr ⟨a, e, _, rfl, fun w => hVa a w rfl, ho, ?_⟩)
    exact hvo.less fun b w => .inl w
  refine wpAny_bind (wpAny_holding (wpAny_call_entry slot_list_sort (s := { s₁ with heap := s₁.heap.push (seqObj "list" vs.toArray 0) }) ⟨_, hoL, rfl⟩ entry_list_sort ?_ (args_list_sort _)))
  by_cases h2 : vs.length < 2
  · refine list_sort_short (s := { s₁ with heap := s₁.heap.push (seqObj "list" vs.toArray 0) }) hoL h2 fun h' e hk ho => ⟨_, rfl, ?_⟩
    refine wpAny_pure ⟨_, rfl, fin h' e vs l hk ho (keepV (s' := { s₁ with heap := h' }) hk) ?_⟩
    unfold sortL
    rw [if_pos (by omega)]
  · refine list_sort_ask (s := { s₁ with heap := s₁.heap.push (seqObj "list" vs.toArray 0) }) (κ := tuples' true) (lt := fun i j => match l[i]?, l[j]? with | some p, some q => lt p q | _, _ => false) hoL (by omega) (by omega) (fun s' Q' hk hq => ?_) (fun i j hi hj C' s' hk hc => ?_) fun h' e hk ho => ⟨_, rfl, ?_⟩
    · obtain ⟨fs, ht, hl, hf⟩ := tups_of K (keepV hk)
      exact kat_kind (T := .type "str") ht (by omega) (fun v hv => by obtain ⟨x, t, rfl⟩ := hf v hv; exact Looks.of_pure rfl) (by decide) hq
    · have hi' : i < l.length := by omega
      have hj' : j < l.length := by omega
      rw [List.getElem?_eq_getElem hi', List.getElem?_eq_getElem hj'] at hc
      obtain ⟨vi, evi, hvi⟩ := (keepV hk).get (i := i) (d := enc l[i]) (by rw [List.getElem?_map, List.getElem?_eq_getElem hi']; rfl)
      obtain ⟨vj, evj, hvj⟩ := (keepV hk).get (i := j) (d := enc l[j]) (by rw [List.getElem?_map, List.getElem?_eq_getElem hj']; rfl)
      obtain ⟨ai, _, _, _, _, rfl, _⟩ := K.obj hvi
      obtain ⟨aj, _, _, _, _, rfl, _⟩ := K.obj hvj
      unfold kas_ask
      rw [List.getD_eq_getElem?_getD, List.getD_eq_getElem?_getD, evi, evj]
      exact K.cmp hvi hvj hc
    · have hp : Pn vs.length (evalT (fun i j => match l[i]?, l[j]? with | some p, some q => lt p q | _, _ => false) (kas_sort vs.length)) := eval_ok _ (sort_ok (by omega))
      refine wpAny_pure ⟨_, rfl, fin h' e _ _ hk ho (vals_pick (keepV (s' := { s₁ with heap := h' }) hk) _ fun i hi => ?_) ?_⟩
      · have := List.mem_range.mp (hp.mem_iff.mp hi)
        omega
      · unfold sortL
        rw [if_neg (by omega), hvl]
end
end Mine
namespace Mine
open PySem PySem.W PySem.Calls PyProof.Rows

def ltS (a b : Str) : Bool := decide (a.cps.toList < b.cps.toList)
def ltP (p q : Pr) : Bool := if p.1 = q.1 then (if p.2 = q.2 then false else ltS p.2 q.2) else ltS p.1 q.1
def ltB (x y : Str) : Bool := if x = y then false else ltS x y
def encB (b : Bool) (x : Str) : PV := .tup [.str x, .bool b]

section
variable {X : Wd}
theorem encB_obj {V : Rgn} {h : Heap} {b : Bool} {x : Str} {v : Value} (hv : Val X.P V h (encB b x) v) : ∃ a t n, v = .ref a ∧ ¬ V a ∧ h.get? a = some (seqO tTuple #[.str x t, .bool b] n) := by
  obtain ⟨a, n, vs, rfl, na, ho, hw⟩ := val_seq.mp hv
  obtain ⟨v1, r1, e1, h1, hw⟩ := vals_cons.mp hw
  obtain ⟨v2, r2, e2, h2, hw⟩ := vals_cons.mp hw
  have := vals_nil.mp hw
  subst this e2
  obtain ⟨t, rfl⟩ := val_str.mp h1
  have := val_bool.mp h2
  subst this
  have e : vs = #[.str x t, .bool b] := by rw [← Array.toArray_toList (xs := vs), e1]
  subst e
  exact ⟨a, t, n, rfl, na, ho⟩
theorem sk_pairs : SortK X encPr ltP where
  obj := fun {V h p v} hv => by
    obtain ⟨a, rfl, na, _, t, u, n, ho⟩ := pair_key hv
    exact ⟨a, _, _, _, _, rfl, na, ho⟩
  cmp := fun {V A s p q a b C} h1 h2 hC => by
    obtain ⟨a', ea, na, _, t, u, n, ho⟩ := pair_key h1
    obtain ⟨b', eb, nb, _, t', u', n', ho'⟩ := pair_key h2
    cases ea
    cases eb
    refine kat_lt ho rfl ho' rfl ?_
    show KatLex X.prog X.w A true (decide (2 < 2)) C [(.str p.1 t, .str q.1 t'), (.str p.2 u, .str q.2 u')] 0 s
    refine kat_cons (wpAny_eqBool_str (kat_go (fun e => kat_yes (kat_cons (wpAny_eqBool_str (kat_go (fun e2 => kat_yes (kat_nil ?_)) fun e2 => kat_no (kat_one _ _ (lt_str ?_)))))) fun e => kat_no ?_))
    · have e := of_decide_eq_true e
      have e2 := of_decide_eq_true e2
      unfold ltP at hC
      rw [if_pos e, if_pos e2] at hC
      exact hC
    · have e := of_decide_eq_true e
      have e2 := of_decide_eq_false e2
      unfold ltP at hC
      rw [if_pos e, if_neg e2] at hC
      exact hC
    · have e := of_decide_eq_false e
      unfold ltP at hC
      rw [if_neg e] at hC
      exact oneLt_str hC
theorem sk_bool (b : Bool) : SortK X (encB b) ltB where
  obj := fun {V h p v} hv => by
    obtain ⟨a, t, n, rfl, na, ho⟩ := encB_obj hv
    exact ⟨a, _, _, _, _, rfl, na, ho⟩
  cmp := fun {V A s p q a c C} h1 h2 hC => by
    obtain ⟨a', t, n, ea, na, ho⟩ := encB_obj h1
    obtain ⟨b', t', n', eb, nb, ho'⟩ := encB_obj h2
    cases ea
    cases eb
    refine kat_lt ho rfl ho' rfl ?_
    show KatLex X.prog X.w A true (decide (2 < 2)) C [(.str p t, .str q t'), (.bool b, .bool b)] 0 s
    refine kat_cons (wpAny_eqBool_str (kat_go (fun e => kat_yes (kat_cons (SeqAt.EqAt.bool_bool b b _ _ _ _ ?_))) fun e => kat_no ?_))
    · have e := of_decide_eq_true e
      unfold ltB at hC
      rw [if_pos e] at hC
      rw [beq_self_eq_true]
      exact kat_yes (kat_nil hC)
    · have e := of_decide_eq_false e
      unfold ltB at hC
      rw [if_neg e] at hC
      exact oneLt_str hC

theorem fc_sortedB {n : Nat} {b : Bool} {xs : List Str} {P : PV → Prop} (hz : xs.length < 64) (h : P (.list ((sortL ltB xs).map (encB b)))) : FC X n (.builtin "sorted") [.list (xs.map (encB b))] P := fun A E s V vs hA H hv => by
  obtain ⟨v, r, rfl, h1, hv⟩ := vals_cons.mp hv
  have := vals_nil.mp hv
  subst this
  obtain ⟨c, m, ws, rfl, nb, ho, hw⟩ := val_seq.mp h1
  have hwl := hw.length
  have hl' : s.heap.IsList c ws.toList.toArray := by simpa using Heap.IsList.of ho
  have hsl : ws.toList.length ≤ sizeLine := by
    have h1 : (64 : Nat) ≤ sizeLine := by decide
    simp at hwl ⊢
    omega
  have hkeep : ∀ c o, s.heap.get? c = some o → ((s.heap.push (seqObj "list" #[] 0)).update s.heap.objs.size (Obj.mapSeq (· ++ ws.toList.toArray))).get? c = some o := fun c o e => by
    rw [Heap.get?_update_ne _ _ _ _ (Nat.ne_of_lt (Heap.lt_size e))]
    exact Heap.get?_push_of_some _ e
  refine sorted_rows (sk_bool b) (C := fun l => l = xs) H (collect_list hl' ⟨xs, Step.heap (t := s.toks) fun c o _ e => hkeep c o e, hw.keeps fun c o _ e => hkeep c o e, hz, rfl⟩ hsl) fun s' r l hC st hval => ⟨st, _, ?_, hval⟩
  subst hC
  exact h

theorem encB_same {V : Rgn} {A : Around} {s : Shared} {b : Bool} {x : Str} {v u : Value} (hu : A.units < cLine) (h1 : Val X.P V s.heap (encB b x) v) (h2 : Val X.P V s.heap (encB b x) u) : SeqAt.EqAt A s v u true := by
  obtain ⟨a, t, n, rfl, na, ho⟩ := encB_obj h1
  obtain ⟨c, t', n', rfl, nc, ho'⟩ := encB_obj h2
  by_cases e : a = c
  · subst e
    exact SeqAt.EqAt.same _
  · refine SeqAt.EqAt.of_refs e ?_
    have := SeqAt.RcAt.tuples (s := s) (A := A) (e := fun _ => true) (Heap.IsTuple.of ho) (Heap.IsTuple.of ho') hu (fun j hj1 hj2 => ?_)
    · exact this
    · have hj : j = 0 ∨ j = 1 := by
        have : j < 2 := hj1
        omega
      rcases hj with rfl | rfl
      · have := SeqAt.EqAt.str_str (A := A.in1) (s := s) x t x t'
        rw [beq_self_eq_true] at this
        exact this
      · have := SeqAt.EqAt.bool_bool (A := A.in1) (s := s) b b
        rw [beq_self_eq_true] at this
        exact this
theorem op_ne_sameB {n : Nat} {b : Bool} {xs : List Str} {P : PV → Prop} (h : P (.bool false)) : Op2 X n (compareOp .NotEq) (.list (xs.map (encB b))) (.list (xs.map (encB b))) P := fun A E s V v₁ v₂ hA H h1 h2 => by
  obtain ⟨r, m, vs, rfl, nr, ho, hv⟩ := val_seq.mp h1
  obtain ⟨r', m', vs', rfl, nr', ho', hv'⟩ := val_seq.mp h2
  have hu : A.units + 64 < cLine := hA.unit
  have l1 := hv.length
  have l2 := hv'.length
  have hsz : vs.size = vs'.size := by simp at l1 l2; omega
  refine SeqAt.RcNeAt.lists (e := fun _ => true) (Heap.IsList.of ho) (Heap.IsList.of ho') hsz (by omega) (fun j h1 h2 => ?_) X.prog X.w E _ ?_
  · obtain ⟨d, hd, hx⟩ := hv.get' (i := j) (v := vs[j]) (by rw [Array.getElem?_toList, Array.getElem?_eq_getElem h1])
    obtain ⟨d', hd', hx'⟩ := hv'.get' (i := j) (v := vs'[j]) (by rw [Array.getElem?_toList, Array.getElem?_eq_getElem h2])
    rw [hd] at hd'
    cases hd'
    rw [List.getElem?_map] at hd
    cases hq : xs[j]? with
    | none => rw [hq] at hd; cases hd
    | some x =>
      rw [hq] at hd
      cases hd
      exact encB_same (by show A.units + 1 < cLine; omega) hx hx'
  · have : (!(List.range vs.size).all fun _ => true) = false := by simp
    rw [this]
    exact ⟨Step.refl _ _, _, h, val_bool.mpr rfl⟩
end
end Mine
namespace Mine
open PySem PySem.W PySem.Calls PyProof.Rows

theorem tups_pairs : ∀ {l' : List PV} {L : List Pr}, l'.Perm (L.map encPr) → ∃ M : List Pr, l' = M.map encPr ∧ M.Perm L := fun {l' L} h => by
  let g : PV → Pr := fun d => match d with | .seq _ [.str a, .str b] => (a, b) | _ => (⟨#[]⟩, ⟨#[]⟩)
  have hg : ∀ p, g (encPr p) = p := fun p => rfl
  refine ⟨l'.map g, ?_, ?_⟩
  · rw [List.map_map]
    refine (List.map_id' l').symm.trans (List.map_congr_left fun d hd => ?_)
    obtain ⟨p, _, rfl⟩ := List.mem_map.mp (h.mem_iff.mp hd)
    show encPr p = encPr (g (encPr p))
    rw [hg]
  · have := h.map g
    rw [List.map_map] at this
    refine this.trans ?_
    have e : L.map (g ∘ encPr) = L := by
      refine (List.map_congr_left fun p _ => ?_).trans (List.map_id' L)
      exact hg p
    rw [e]

section
variable {X : Wd} {A : Around} {E : Value → Shared → Prop} {s : Shared}
theorem sorted_setP {V : Rgn} {l : List Pr} {lv : Value} {P : PV → Prop} (hA : AOk A 9) (H : Hp X V s) (hz : l.length < 60) (hv : Val X.P V s.heap (.list (l.map encPr)) lv) (h : ∀ l' : List Pr, (∀ p, p ∈ l' ↔ p ∈ l) → P (.list (l'.map encPr))) (Q : Value → Shared → Prop)
    (hQ : ∀ v s', Res X V P s v s' → Q v s') :
    wpAny X.mo A (call (.type "set") [lv]) (fun sv s₁ => Step None s s₁ ∧ wpAny X.mo A (call (.builtin "sorted") [sv]) Q E s₁) E s := by
  refine set_pairs (n := 8) hA H hz hv fun S es s₁ st hS0 hS => ⟨st, ?_⟩
  have H₁ := H.stepN st
  have hSV : ¬ V S := fun w => by obtain ⟨o, e⟩ := H.bnd S w; rw [hS0] at e; cases e
  obtain ⟨⟨ep, t, ho, tab, hled, hpl⟩, hel, hmem, hsize⟩ := hS
  have hwell : SetWell X.P s₁.heap S es := ⟨ep, t, ho, tab.fits, hled, hpl⟩
  obtain ⟨L, hL, hP⟩ := pairs_of es.toList hel
  have hLl : L.length = es.size := by have := hL.length; simpa using this
  refine sorted_rows sk_pairs (C := fun M => M.Perm L) H₁ (collect_set hA.in1 H₁ hSV hwell (by omega) hL fun s' vs l' st' hp hv' => ?_) fun s' r M hC st' hval => hQ _ _ ⟨st.trans st', _, h _ fun p => ?_, hval⟩
  · obtain ⟨M, rfl, hM⟩ := tups_pairs hp
    exact ⟨M, st', hv', by rw [hM.length_eq, hLl]; omega, hM⟩
  · rw [(sortL_perm ltP M).mem_iff, hC.mem_iff]
    refine ⟨hP p, fun hp => ?_⟩
    obtain ⟨e, he, hve⟩ := hmem p hp
    obtain ⟨i, hi⟩ := List.getElem?_of_mem he
    obtain ⟨d, hd, hx⟩ := hL.get' (i := i) (v := e.2) (by rw [List.getElem?_map, hi]; rfl)
    rw [List.getElem?_map] at hd
    cases hq : L[i]? with
    | none => rw [hq] at hd; cases hd
    | some q =>
      rw [hq] at hd
      cases hd
      obtain ⟨a, rfl', _, _, t₁, t₂, n, hoa⟩ := pair_key hve
      obtain ⟨b, e', _, _, u₁, u₂, m, hob⟩ := pair_key hx
      rw [rfl'] at e'
      cases e'
      rw [hoa] at hob
      have e1 : q = p := by
        have h1 := congrArg (fun o => match o with | some ⟨_, _, .seq vs _, _⟩ => vs.toList | _ => []) hob
        dsimp only [seqO] at h1
        simp only [List.cons.injEq, Value.str.injEq, and_true] at h1
        exact Prod.ext h1.1.1.symm h1.2.1.symm
      exact e1 ▸ List.mem_of_getElem? hq
end

section
variable {Y : Act} {q : Vw} {M V : Rgn} {P : PV → Prop}
/-- sorted(set(e)), of pairs -/
theorem PE.sortedSetP {p1 p2 p3 p4 : Pos} {e : Expr} (fs : FnIs Y "sorted" (.builtin "sorted")) (ft : FnIs Y "set" (.type "set")) (hY : 9 ≤ Y.n) (hn : noStar [e] = true)
    (h : PE Y q e fun d => ∃ l : List Pr, d = .list (l.map encPr) ∧ l.length < 60 ∧ ∀ l' : List Pr, (∀ p, p ∈ l' ↔ p ∈ l) → P (.list (l'.map encPr))) :
    PE Y q (.Call (.Name "sorted" p1) [.Call (.Name "set" p2) [e] [] p3] [] p4) P := fun M V A E s hA G => by
  refine wpAny_Call_NameR (rd_fn G fs ?_)
  refine callWith_of (P := fun h => Y.K.In h) (by rfl) (fun h hh => Callee.looks (X := Y.toWd) (.inr (.inr ⟨_, rfl⟩)) hh) ?_
  show wpAny _ A (evalArgs _ true [(false, eval (.Call (.Name "set" p2) [e] [] p3) Y.env)] []) _ E s
  refine evalArgs_plain (spliced_cons ?_)
  refine call_any (R := fun ds => ∃ l : List Pr, ds = [.list (l.map encPr)] ∧ l.length < 60 ∧ ∀ l' : List Pr, (∀ p, p ∈ l' ↔ p ∈ l) → P (.list (l'.map encPr))) ft (.inr (.inl ⟨_, rfl⟩)) (PE.mono h fun d ⟨l, a, b⟩ => ⟨l, by rw [a], b⟩) hn hA G fun vs s₁ ds hds hv st₁ G₁ => ?_
  obtain ⟨l, rfl, hz, hP⟩ := hds
  obtain ⟨v, r, rfl, h1, hv⟩ := vals_cons.mp hv
  have := vals_nil.mp hv
  subst this
  refine wpAny_mono (sorted_setP (hA.mono hY) G₁.hp hz h1 hP _ fun v s' res => ?_) (fun sv s₂ ⟨st₂, h2⟩ => spliced_nil ⟨(G₁.stepN st₂).hp.inK, h2⟩) fun _ _ x => x
  exact Res.after st₁ res
end
end Mine
namespace Mine
open PySem PySem.W PySem.Calls PyProof.Rows

noncomputable def lawFd (p : Params) : FuncData := match (Mine.hd.heap_39 p).lookup 444 with | some ⟨_, _, .func fd, _⟩ => fd | _ => default
noncomputable def lawBody (p : Params) : List Stmt := match (lawFd p).body with | .stmts b => b | _ => []
noncomputable def lawNames (p : Params) : List (Str × NameKind) := (lawFd p).scope.names

/-- the law's frame -/
structure LE (X : Wk) (Y : Act) : Prop where
  wd : Y.toWd = X.toWd
  n : 16 ≤ Y.n
  nm : Y.env.scope.names = lawNames X.w.params
  kf : Y.env.scope.kind = .function
  hi : interactive Y.env = false
  ow : ∀ x c, Y.env.cells.lookup x = some c → Y.O c
  ce : ∃ c, Y.env.cells.lookup ("empty" : Str) = some c
  cx : ∃ c, Y.env.cells.lookup ("x" : Str) = some c
  cf : ∃ c, Y.env.cells.lookup ("follow" : Str) = some c
  cm : ∃ c, Y.env.cells.lookup ("made" : Str) = some c

section
variable {X : Wk} {Y : Act}
theorem LE.k (L : LE X Y) {x : Str} {k : Option NameKind} (e : (lawNames X.w.params).lookup x = k) : Y.env.kindOf x = k := kd L.nm e
theorem LE.loc (L : LE X Y) {x : Str} (e : (lawNames X.w.params).lookup x = some .local) : Storable Y x := .inl (L.k e)
theorem LE.cel {x : Str} (L : LE X Y) (e : (lawNames X.w.params).lookup x = some .cell) (h : ∃ c, Y.env.cells.lookup x = some c) : Storable Y x := by
  obtain ⟨c, hc⟩ := h
  exact .inr ⟨L.k e, c, hc, L.ow _ _ hc⟩
theorem LE.sE (L : LE X Y) : Storable Y "empty" := L.cel (by rfl) L.ce
theorem LE.sx (L : LE X Y) : Storable Y "x" := L.cel (by rfl) L.cx
theorem LE.sf (L : LE X Y) : Storable Y "follow" := L.cel (by rfl) L.cf
theorem LE.sm (L : LE X Y) : Storable Y "made" := L.cel (by rfl) L.cm
theorem LE.b (L : LE X Y) {x : Str} {v : Value} (hk : (lawNames X.w.params).lookup x = some .globalImplicit) (h : nsIn (Mine.hd.heap_39 X.w.params) mainGlobals x = some none) (hb : bootBuiltins x = some v) (hn : x ≠ "__name__" := by decide) : FnIs Y x v :=
  fnis_b L.wd (L.k hk) h hb hn
theorem LE.g (L : LE X Y) {x : Str} {v : Value} (hk : (lawNames X.w.params).lookup x = some .globalImplicit) (h : nsIn (Mine.hd.heap_39 X.w.params) mainGlobals x = some (some v)) : FnIs Y x v :=
  fnis_g L.wd (L.k hk) h
theorem FC.cast {X Y : Wd} {n : Nat} {v : Value} {ds : List PV} {P : PV → Prop} (e : Y = X) (h : FC X n v ds P) : FC Y n v ds P := e ▸ h

open Classical in
theorem rest_empty (E : List Str) : ∀ l : List Str, ((l.filter fun x => !decide (PV.str x ∈ E.map PV.str)).map PV.str).isEmpty = l.all fun x => decide (x ∈ E)
  | [] => rfl
  | a :: l => by
    have ih := rest_empty E l
    rw [List.isEmpty_map] at ih ⊢
    rw [List.filter_cons, List.all_cons]
    by_cases h : a ∈ E
    · have h' : PV.str a ∈ E.map PV.str := mem_strs.mpr h
      simp only [decide_eq_true h', decide_eq_true h, Bool.not_true, Bool.false_eq_true, if_false, Bool.true_and]
      exact ih
    · have h' : ¬ PV.str a ∈ E.map PV.str := fun w => h (mem_strs.mp w)
      simp only [decide_eq_false h', decide_eq_false h, Bool.not_false, if_true, Bool.false_and, List.isEmpty_cons]
open Classical in
/-- [x for x in it if x not in empty] == [] -/
theorem pt_rest {q : Vw} {it : Expr} {p1 p2 p3 p4 p5 p6 p7 pos : Pos} {scope : Scope} {l E : List Str} {R : Bool → Prop} (L : LE X Y) (hsn : scope.names = ([(".0", .local), ("x", .local), ("empty", .free)] : List (Str × NameKind))) (hsk : scope.kind = .function)
    (hE : q.ρ "empty" = some (.fz (.list (E.map .str)))) (hl : l.length ≤ 4096) (hit : PE Y q it fun d => d = .list (l.map .str)) (hf : ∀ x, foldedSetIterable it Y.env x = pure x) (hR : R (l.all fun x => decide (x ∈ E))) :
    PT Y q (.Compare (.ListComp (.Name "x" p1) [⟨.Name "x" p2, it, [.Compare (.Name "x" p3) [.NotIn] [.Name "empty" p4] p5], 0⟩] scope pos) [.Eq] [.List [] p6] p7) R := by
  obtain ⟨c, hc⟩ := L.ce
  have kE : Y.env.kindOf "empty" = some .cell := L.k (by rfl)
  refine PT.cmp (PE.listcomp (nm := .seq) (comp_shape1 "empty" hc (by rw [hsn]; decide) (by rw [hsn]; decide) hsk (by rw [hsn]; decide)) (.inl ⟨by decide, _, _, rfl⟩)
    (IterE.seq (PE.mono hit fun d hd => ⟨tList, _, hd, .inl rfl, _, compok_name l PV.str (fun x => if (!decide (PV.str x ∈ E.map PV.str)) = true then [.str x] else []) (len_if _ _ _ hl) (by rw [hsn]; rfl)
      (fun C x q'' hx i1 i2 => pts_if (PT.cmp (PE.name i1 (PE.name ((i2 _ (by decide)).trans ((inh_cell L.kf kE hc (by rw [hsn]; rfl)).trans hE)) (op_notin_n L (.inl rfl) trivial str_list_flat eqs_strs ⟨_, rfl, if_elt fun _ => PE.name i1 rfl⟩))))), ?_⟩)) hf)
  refine PE.list (es := []) ⟨by decide, op_eq_nil ⟨_, rfl, ?_⟩⟩
  rw [flat_if]
  rw [rest_empty]
  exact hR
where
  op_notin_n {X : Wk} {Y : Act} (L : LE X Y) {d : PV} {c : Value} {l : List PV} {P : PV → Prop} (hc : c = tList ∨ c = tTuple) (hd : Flat d) (hl : ∀ x ∈ l, Flat x) (he : ∀ {n}, ∀ x ∈ l, EqOk Y.toWd n x d (decide (x = d))) (h : P (.bool (!decide (d ∈ l)))) : Op2 Y.toWd Y.n (compareOp .NotIn) d (.seq c l) P := by
    have := L.n
    obtain ⟨m, hm⟩ : ∃ m, Y.n = m + 1 := ⟨Y.n - 1, by omega⟩
    rw [hm]
    exact op_notin hc hd hl he h
end
end Mine
namespace Mine
open PySem PySem.W PySem.Calls PyProof.Rows

def allIn (E l : List Str) : Bool := l.all fun x => decide (x ∈ E)
def nth (l : List Str) (i : Nat) : Str := l.getD i ""
def fI (E : List Str) (r : Rl) (i : Nat) : List Pr := if allIn E (r.2.take i) then [(r.1, nth r.2 i)] else []
def lI (E : List Str) (r : Rl) (i : Nat) : List Pr := if allIn E (r.2.drop (i + 1)) then [(r.1, nth r.2 i)] else []
def bI (E : List Str) (r : Rl) (i m : Nat) : List Pr := if allIn E ((r.2.take (i + 1 + m)).drop (i + 1)) then [(nth r.2 i, nth r.2 (i + 1 + m))] else []
def upto {α : Type} (f : Nat → List α) (k : Nat) : List α := ((List.range k).map f).flatten
def fR (E : List Str) (r : Rl) : List Pr := upto (fI E r) r.2.length
def lR (E : List Str) (r : Rl) : List Pr := upto (lI E r) r.2.length
def bJ (E : List Str) (r : Rl) (i : Nat) : List Pr := upto (bI E r i) (r.2.length - (i + 1))
def bR (E : List Str) (r : Rl) : List Pr := upto (bJ E r) r.2.length
def flR (f : Rl → List Pr) (l : List Rl) : List Pr := (l.map f).flatten
theorem upto_succ {α : Type} (f : Nat → List α) (k : Nat) : upto f (k + 1) = upto f k ++ f k := by simp [upto, List.range_succ]
theorem flR_succ {f : Rl → List Pr} {R : List Rl} {i : Nat} {r : Rl} (h : R[i]? = some r) : flR f (R.take (i + 1)) = flR f (R.take i) ++ f r := by
  unfold flR
  rw [List.take_add_one, h]
  simp
theorem upto_le {α : Type} (f : Nat → List α) (c : Nat) (h : ∀ i, (f i).length ≤ c) : ∀ k, (upto f k).length ≤ c * k
  | 0 => by simp [upto]
  | k + 1 => by
    rw [upto_succ, List.length_append]
    have := upto_le f c h k
    have := h k
    rw [Nat.mul_succ]
    omega
theorem flR_le {f : Rl → List Pr} {c : Nat} : ∀ {l : List Rl}, (∀ r ∈ l, (f r).length ≤ c) → (flR f l).length ≤ c * l.length
  | [], _ => by simp [flR]
  | r :: l, h => by
    have ih := flR_le (f := f) (c := c) (l := l) fun r hr => h r (List.mem_cons_of_mem _ hr)
    have := h r List.mem_cons_self
    unfold flR at ih ⊢
    rw [List.map_cons, List.flatten_cons, List.length_append, List.length_cons, Nat.mul_succ]
    omega
theorem if_le (b : Bool) (x : Pr) : (if b = true then [x] else []).length ≤ 1 := by cases b <;> simp
theorem fR_le (E : List Str) (r : Rl) : (fR E r).length ≤ r.2.length := by
  have := upto_le (fI E r) 1 (fun i => if_le _ _) r.2.length
  unfold fR; omega
theorem lR_le (E : List Str) (r : Rl) : (lR E r).length ≤ r.2.length := by
  have := upto_le (lI E r) 1 (fun i => if_le _ _) r.2.length
  unfold lR; omega
theorem bJ_le (E : List Str) (r : Rl) (i : Nat) : (bJ E r i).length ≤ r.2.length - (i + 1) := by
  have := upto_le (bI E r i) 1 (fun i => if_le _ _) (r.2.length - (i + 1))
  unfold bJ; omega
theorem bR_le (E : List Str) (r : Rl) (h : r.2.length ≤ 4) : (bR E r).length ≤ 6 := by
  have h0 := bJ_le E r 0
  have h1 := bJ_le E r 1
  have h2 := bJ_le E r 2
  have h3 := bJ_le E r 3
  unfold bR
  generalize hn : r.2.length = n at h h0 h1 h2 h3 ⊢
  have hc : n = 0 ∨ n = 1 ∨ n = 2 ∨ n = 3 ∨ n = 4 := by omega
  rcases hc with rfl | rfl | rfl | rfl | rfl <;> simp [upto, List.range_succ] <;> omega

structure B3 (R : List Rl) (E : List Str) (F L B : List Pr) (q : Vw) : Prop where
  rules : q.ρ "rules" = some (.fz (encRs R))
  empty : q.ρ "empty" = some (.fz (.list (E.map .str)))
  firsts : q.ρ "firsts" = some (.mt (encP F))
  lasts : q.ρ "lasts" = some (.mt (encP L))
  besides : q.ρ "besides" = some (.mt (encP B))
def names5 : List Str := ["rules", "empty", "firsts", "lasts", "besides"]
section
variable {R : List Rl} {E : List Str} {F L B : List Pr} {q : Vw} {x : Str} {sl : Slot}
theorem B3.set (b : B3 R E F L B q) (h : x ∉ names5) : B3 R E F L B (q.set x sl) := by
  have hn : ∀ y ∈ names5, ¬ y = x := fun y hy e => h (e ▸ hy)
  exact ⟨set_there b.rules (hn _ (by decide)), set_there b.empty (hn _ (by decide)), set_there b.firsts (hn _ (by decide)), set_there b.lasts (hn _ (by decide)), set_there b.besides (hn _ (by decide))⟩
theorem B3.f (b : B3 R E F L B q) {F' : List Pr} : B3 R E F' L B (q.set "firsts" (.mt (encP F'))) :=
  ⟨set_there b.rules, set_there b.empty, set_here, set_there b.lasts, set_there b.besides⟩
theorem B3.l (b : B3 R E F L B q) {F' : List Pr} : B3 R E F F' B (q.set "lasts" (.mt (encP F'))) :=
  ⟨set_there b.rules, set_there b.empty, set_there b.firsts, set_here, set_there b.besides⟩
theorem B3.b (b : B3 R E F L B q) {F' : List Pr} : B3 R E F L F' (q.set "besides" (.mt (encP F'))) :=
  ⟨set_there b.rules, set_there b.empty, set_there b.firsts, set_there b.lasts, set_here⟩
end
/-- with a rule at hand -/
structure C3 (R : List Rl) (E : List Str) (F L B : List Pr) (r : Rl) (q : Vw) : Prop extends B3 R E F L B q where
  origin : q.ρ "origin" = some (.fz (.str r.1))
  expansion : q.ρ "expansion" = some (.fz (.list (r.2.map .str)))
theorem C3.set {R : List Rl} {E : List Str} {F L B : List Pr} {q : Vw} {x : Str} {sl : Slot} {r : Rl} (b : C3 R E F L B r q) (h : x ∉ names5) (h1 : ¬ x = "origin") (h2 : ¬ x = "expansion") : C3 R E F L B r (q.set x sl) :=
  ⟨b.toB3.set h, set_there b.origin (fun e => h1 e.symm), set_there b.expansion (fun e => h2 e.symm)⟩
theorem nth_get {l : List Str} {i : Nat} (h : i < l.length) : (l.map PV.str)[i]? = some (.str (nth l i)) := by
  rw [List.getElem?_map, List.getElem?_eq_getElem h]
  unfold nth
  rw [List.getD_eq_getElem?_getD, List.getElem?_eq_getElem h]
  rfl
theorem encP_snoc (F : List Pr) (p : Pr) : PV.list (F.map (fun p => PV.tup [.str p.1, .str p.2]) ++ [.tup [.str p.1, .str p.2]]) = encP (F ++ [p]) := by
  unfold encP
  rw [List.map_append]
  rfl
theorem scut_take (l : List Str) (j : Nat) : cut (l.map PV.str) none (some j) = (l.take j).map .str := by simp [cut, List.map_take]
theorem scut_drop (l : List Str) (j : Nat) : cut (l.map PV.str) (some j) none = (l.drop j).map .str := by
  unfold cut
  rw [Option.getD_none, Option.getD_some, List.take_of_length_le (Nat.le_refl _), List.map_drop]
theorem scut_mid (l : List Str) (a b : Nat) : cut (l.map PV.str) (some a) (some b) = ((l.take b).drop a).map .str := by simp [cut, List.map_take, List.map_drop]

section
variable {X : Wk} {Y : Act}
theorem lawT3 {q : Vw} {Φ : AF → Vw → Prop} (L : LE X Y) {R : List Rl} {E : List Str} (hR : Good R) (b0 : B3 R E [] [] [] q)
    (K : ∀ q', B3 R E (flR (fR E) R) (flR (lR E) R) (flR (bR E) R) q' → PS Y q' ((lawBody X.w.params).drop 4) Φ) : PS Y q ((lawBody X.w.params).drop 3) Φ := by
  refine PS.cons (Ψ := fun f q' => f = .next ∧ B3 R E (flR (fR E) R) (flR (lR E) R) (flR (bR E) R) q') (PS1.for_ (nm := .seq) (R := fun l => l = R.map encR) (IterE.seq (PE.name b0.rules ⟨tList, _, rfl, .inl rfl, rfl⟩)) (.inr ⟨_, _, _, rfl⟩) ?_) (fun q' h => K q' h.2) (fun f q' hne h => absurd h.1 hne)
  rintro _ rfl
  refine ⟨fun i q' => B3 R E (flR (fR E) (R.take i)) (flR (lR E) (R.take i)) (flR (bR E) (R.take i)) q', b0, ?_, fun q' h => ⟨rfl, by simpa using h⟩⟩
  rintro i q₁ d hd b
  rw [List.getElem?_map] at hd
  cases hr : R[i]? with
  | none => rw [hr] at hd; cases hd
  | some r =>
  rw [hr] at hd
  cases hd
  have hrR := List.mem_of_getElem? hr
  have hr4 := (hR.2 r hrR).2.1
  have hRl : (R.take i).length ≤ 6 := by have := hR.1; rw [List.length_take]; omega
  have lF : (flR (fR E) (R.take i)).length ≤ 24 := by
    have := flR_le (f := fR E) (c := 4) (l := R.take i) fun r hr => Nat.le_trans (fR_le E r) (hR.2 r (List.mem_of_mem_take hr)).2.1
    omega
  have lL : (flR (lR E) (R.take i)).length ≤ 24 := by
    have := flR_le (f := lR E) (c := 4) (l := R.take i) fun r hr => Nat.le_trans (lR_le E r) (hR.2 r (List.mem_of_mem_take hr)).2.1
    omega
  have lB : (flR (bR E) (R.take i)).length ≤ 36 := by
    have := flR_le (f := bR E) (c := 6) (l := R.take i) fun r hr => bR_le E r (hR.2 r (List.mem_of_mem_take hr)).2.1
    omega
  refine ⟨_, PA.tup ⟨_, PA.name (L.loc (by rfl)), _, PA.name (L.loc (by rfl)), rfl⟩, ?_⟩
  have c : C3 R E _ _ _ r ((q₁.set "origin" (.fz (.str r.1))).set "expansion" (.fz (.list (r.2.map .str)))) :=
    ⟨(b.set (x := "origin") (by decide)).set (x := "expansion") (by decide), set_there set_here, set_here⟩
  generalize ((q₁.set "origin" (.fz (.str r.1))).set "expansion" (.fz (.list (r.2.map .str)))) = q₂ at c ⊢
  clear b
  generalize hF : flR (fR E) (R.take i) = F at lF c
  generalize hL : flR (lR E) (R.take i) = La at lL c
  generalize hB : flR (bR E) (R.take i) = B at lB c
  have hlen : (r.2.map PV.str).length ≤ 4096 := by rw [List.length_map]; omega
  refine PS.cons (Ψ := fun f q' => f = .next ∧ B3 R E (F ++ fR E r) (La ++ lR E r) (B ++ bR E r) q') (PS1.for_ (nm := .seq) (R := fun l => l = numsFrom 0 r.2.length)
    (IterE.call (L.b (x := "range") (v := .type "range") (by rfl) (by rfl) (by rfl)) (.inr (.inl ⟨_, rfl⟩)) (PE.call (L.b (x := "len") (v := .builtin "len") (by rfl) (by rfl) (by rfl)) (.inr (.inr ⟨_, rfl⟩)) (PE.name c.expansion (fc_len_list hlen (fci_range1 (by omega) (by rw [List.length_map]; omega) (by rw [List.length_map]; rfl)))))) (.inl ⟨by decide, _, _, rfl⟩) ?_) (fun q' h => PS.nil ?_) (fun f q' hne h => absurd h.1 hne)
  rotate_left
  · show B3 R E _ _ _ q'
    rw [flR_succ hr, flR_succ hr, flR_succ hr, hF, hL, hB]
    exact h.2
  rintro _ rfl
  refine ⟨fun j q' => C3 R E (F ++ upto (fI E r) j) (La ++ upto (lI E r) j) (B ++ upto (bJ E r) j) r q', by simpa [upto] using c, ?_, fun q' h => ⟨rfl, by rw [numsFrom_length] at h; exact h.toB3⟩⟩
  rintro j q₃ d hd c
  obtain ⟨rfl, hj⟩ := numsFrom_get _ _ _ hd
  rw [Int.zero_add]
  refine ⟨_, PA.name (L.loc (by rfl)), ?_⟩
  have lF2 : (F ++ upto (fI E r) j).length ≤ 4096 := by
    have := upto_le (fI E r) 1 (fun i => if_le _ _) j
    rw [List.length_append]; omega
  have lL2 : (La ++ upto (lI E r) j).length ≤ 4096 := by
    have := upto_le (lI E r) 1 (fun i => if_le _ _) j
    rw [List.length_append]; omega
  have lB2 : (B ++ upto (bJ E r) j).length ≤ 52 := by
    have := upto_le (bJ E r) 4 (fun i => Nat.le_trans (bJ_le E r i) (by omega)) j
    rw [List.length_append]; omega
  have c := c.set (x := "i") (sl := .fz (.int (j : Nat))) (by decide) (by decide) (by decide)
  have gi : (q₃.set "i" (.fz (.int (j : Nat)))).ρ "i" = some (.fz (.int (j : Nat))) := set_here
  generalize q₃.set "i" (.fz (.int (j : Nat))) = q₄ at c gi ⊢
  have hj4 : j < 4 := by omega
  have hjl : (r.2.take j).length ≤ 4096 := by rw [List.length_take]; omega
  have hjd : (r.2.drop (j + 1)).length ≤ 4096 := by rw [List.length_drop]; omega
  -- firsts
  refine PS.cons (Ψ := fun f q' => f = .next ∧ C3 R E (F ++ upto (fI E r) (j + 1)) (La ++ upto (lI E r) j) (B ++ upto (bJ E r) j) r q' ∧ q'.ρ "i" = some (.fz (.int (j : Nat))))
    (PS1.if_ (pt_rest L rfl rfl c.empty hjl (PE.slice (PE.name c.expansion ⟨tList, _, rfl, .inl rfl, hlen, PE.name gi ⟨j, rfl, (congrArg PV.list (scut_take r.2 j))⟩⟩)) (fun _ => rfl) ⟨fun e => ?_, fun e => ?_⟩)) ?_ (fun f q' hne h => absurd h.1 hne)
  · refine PS.seq (PS1.append c.firsts (by rw [List.length_map]; exact lF2) (PE.tup (PE.name c.origin (PE.item (PE.name c.expansion ⟨tList, _, rfl, .inl rfl, hlen, PE.name gi ⟨j, _, rfl, nth_get hj, by simp, rfl, ?_⟩⟩)))) (by rfl) (by rfl) (by rfl) (by rfl) L.hi)
    rw [encP_snoc _ (r.1, nth r.2 j)]
    refine PS.nil ⟨rfl, ?_, set_there gi⟩
    have e2 : F ++ upto (fI E r) (j + 1) = (F ++ upto (fI E r) j) ++ [(r.1, nth r.2 j)] := by
      rw [upto_succ, List.append_assoc]
      unfold fI allIn
      rw [if_pos e]
    rw [e2]
    exact ⟨c.toB3.f, set_there c.origin, set_there c.expansion⟩
  · refine PS.nil ⟨rfl, ?_, gi⟩
    have e2 : F ++ upto (fI E r) (j + 1) = (F ++ upto (fI E r) j) := by
      rw [upto_succ]
      unfold fI allIn
      rw [if_neg (by rw [e]; exact Bool.false_ne_true), List.append_nil]
    rw [e2]
    exact c
  rintro q₅ ⟨_, c, gi⟩
  -- lasts
  refine PS.cons (Ψ := fun f q' => f = .next ∧ C3 R E (F ++ upto (fI E r) (j + 1)) (La ++ upto (lI E r) (j + 1)) (B ++ upto (bJ E r) j) r q' ∧ q'.ρ "i" = some (.fz (.int (j : Nat))))
    (PS1.if_ (pt_rest L rfl rfl c.empty hjd (PE.slice (PE.name c.expansion ⟨tList, _, rfl, .inl rfl, hlen, PE.bin (PE.name gi (PE.cint (op_add ⟨j + 1, rfl, (congrArg PV.list (scut_drop r.2 (j + 1)))⟩)))⟩)) (fun _ => rfl) ⟨fun e => ?_, fun e => ?_⟩)) ?_ (fun f q' hne h => absurd h.1 hne)
  · refine PS.seq (PS1.append c.lasts (by rw [List.length_map]; exact lL2) (PE.tup (PE.name c.origin (PE.item (PE.name c.expansion ⟨tList, _, rfl, .inl rfl, hlen, PE.name gi ⟨j, _, rfl, nth_get hj, by simp, rfl, ?_⟩⟩)))) (by rfl) (by rfl) (by rfl) (by rfl) L.hi)
    rw [encP_snoc _ (r.1, nth r.2 j)]
    refine PS.nil ⟨rfl, ?_, set_there gi⟩
    have e2 : La ++ upto (lI E r) (j + 1) = (La ++ upto (lI E r) j) ++ [(r.1, nth r.2 j)] := by
      rw [upto_succ, List.append_assoc]
      unfold lI allIn
      rw [if_pos e]
    rw [e2]
    exact ⟨c.toB3.l, set_there c.origin, set_there c.expansion⟩
  · refine PS.nil ⟨rfl, ?_, gi⟩
    have e2 : La ++ upto (lI E r) (j + 1) = (La ++ upto (lI E r) j) := by
      rw [upto_succ]
      unfold lI allIn
      rw [if_neg (by rw [e]; exact Bool.false_ne_true), List.append_nil]
    rw [e2]
    exact c
  rintro q₆ ⟨_, c, gi⟩
  -- besides
  have eB : B ++ upto (bJ E r) (j + 1) = (B ++ upto (bJ E r) j) ++ bJ E r j := by rw [upto_succ, List.append_assoc]
  obtain ⟨F1, hF1⟩ : ∃ F1, F1 = F ++ upto (fI E r) (j + 1) := ⟨_, rfl⟩
  obtain ⟨La1, hL1⟩ : ∃ F1, F1 = La ++ upto (lI E r) (j + 1) := ⟨_, rfl⟩
  obtain ⟨B1, hB1⟩ : ∃ F1, F1 = B ++ upto (bJ E r) j := ⟨_, rfl⟩
  have eP : ∀ {q'}, C3 R E F1 La1 (B1 ++ bJ E r j) r q' → C3 R E (F ++ upto (fI E r) (j + 1)) (La ++ upto (lI E r) (j + 1)) (B ++ upto (bJ E r) (j + 1)) r q' := fun {q'} h => by rw [eB, ← hF1, ← hL1, ← hB1]; exact h
  rw [← hF1, ← hL1, ← hB1] at c
  rw [← hB1] at lB2
  clear eB hF1 hL1 hB1
  refine PS.cons (Ψ := fun f q' => f = .next ∧ C3 R E F1 La1 (B1 ++ bJ E r j) r q') (PS1.for_ (nm := .seq) (R := fun l => l = numsFrom ((j : Int) + 1) (r.2.length - (j + 1)))
    (IterE.call (L.b (x := "range") (v := .type "range") (by rfl) (by rfl) (by rfl)) (.inr (.inl ⟨_, rfl⟩)) (PE.bin (PE.name gi (PE.cint (op_add (PE.call (L.b (x := "len") (v := .builtin "len") (by rfl) (by rfl) (by rfl)) (.inr (.inr ⟨_, rfl⟩)) (PE.name c.expansion (fc_len_list hlen (fci_range (by omega) (by omega) (by rw [List.length_map]; omega) (by rw [List.length_map]; omega) ?_))))))))) (.inl ⟨by decide, _, _, rfl⟩) ?_) (fun q' h => PS.nil (eP h.2)) (fun f q' hne h => absurd h.1 hne)
  · rw [List.length_map]
    congr 1
    omega
  rintro _ rfl
  refine ⟨fun m q' => C3 R E F1 La1 (B1 ++ upto (bI E r j) m) r q' ∧ q'.ρ "i" = some (.fz (.int (j : Nat))), ⟨by simpa [upto] using c, gi⟩, ?_, fun q' h => ⟨rfl, by have h := h.1; rw [numsFrom_length] at h; exact h⟩⟩
  rintro m q₇ d hd ⟨c, gi⟩
  obtain ⟨rfl, hm⟩ := numsFrom_get _ _ _ hd
  have em : ((j : Int) + 1 + (m : Int)) = ((j + 1 + m : Nat) : Int) := by omega
  rw [em]
  refine ⟨_, PA.name (L.loc (by rfl)), ?_⟩
  have lB3 : (B1 ++ upto (bI E r j) m).length ≤ 4096 := by
    have := upto_le (bI E r j) 1 (fun i => if_le _ _) m
    rw [List.length_append]; omega
  have c := c.set (x := "j") (sl := .fz (.int (j + 1 + m : Nat))) (by decide) (by decide) (by decide)
  have gi := set_there (x := "j") (sl := .fz (.int (j + 1 + m : Nat))) gi (by decide)
  have gj : (q₇.set "j" (.fz (.int (j + 1 + m : Nat)))).ρ "j" = some (.fz (.int (j + 1 + m : Nat))) := set_here
  generalize q₇.set "j" (.fz (.int (j + 1 + m : Nat))) = q₈ at c gi gj ⊢
  have hmd : ((r.2.take (j + 1 + m)).drop (j + 1)).length ≤ 4096 := by rw [List.length_drop, List.length_take]; omega
  refine PS.cons (Ψ := fun f q' => f = .next ∧ C3 R E F1 La1 (B1 ++ upto (bI E r j) (m + 1)) r q' ∧ q'.ρ "i" = some (.fz (.int (j : Nat))))
    (PS1.if_ (pt_rest L rfl rfl c.empty hmd (PE.slice (PE.name c.expansion ⟨tList, _, rfl, .inl rfl, hlen, PE.bin (PE.name gi (PE.cint (op_add ⟨j + 1, rfl, PE.name gj ⟨j + 1 + m, rfl, (congrArg PV.list (scut_mid r.2 (j + 1) (j + 1 + m)))⟩⟩)))⟩)) (fun _ => rfl) ⟨fun e => ?_, fun e => ?_⟩)) (fun q' h => PS.nil h.2) (fun f q' hne h => absurd h.1 hne)
  · refine PS.seq (PS1.append c.besides (by rw [List.length_map]; exact lB3) (PE.tup (PE.item (PE.name c.expansion ⟨tList, _, rfl, .inl rfl, hlen, PE.name gi ⟨j, _, rfl, nth_get hj, PE.item (PE.name c.expansion ⟨tList, _, rfl, .inl rfl, hlen, PE.name gj ⟨j + 1 + m, _, rfl, nth_get (by omega), by simp, rfl, ?_⟩⟩)⟩⟩))) (by rfl) (by rfl) (by rfl) (by rfl) L.hi)
    rw [encP_snoc _ (nth r.2 j, nth r.2 (j + 1 + m))]
    refine PS.nil ⟨rfl, ?_, set_there gi⟩
    have e2 : B1 ++ upto (bI E r j) (m + 1) = (B1 ++ upto (bI E r j) m) ++ [(nth r.2 j, nth r.2 (j + 1 + m))] := by
      rw [upto_succ, List.append_assoc]
      unfold bI allIn
      rw [if_pos e]
    rw [e2]
    exact ⟨c.toB3.b, set_there c.origin, set_there c.expansion⟩
  · refine PS.nil ⟨rfl, ?_, gi⟩
    have e2 : B1 ++ upto (bI E r j) (m + 1) = (B1 ++ upto (bI E r j) m) := by
      rw [upto_succ]
      unfold bI allIn
      rw [if_neg (by rw [e]; exact Bool.false_ne_true), List.append_nil]
    rw [e2]
    exact c
end
end Mine
namespace Mine
open PySem PySem.W PySem.Calls PyProof.Rows

def termN : List Str := ["X", "Y", "Z"]
def OccS (R : List Rl) (x : Str) : Prop := (∃ r ∈ R, r.1 = x) ∨ ∃ r ∈ R, x ∈ r.2
def IsSy (R : List Rl) (S : List Str) : Prop := sortedS S = true ∧ S.Nodup ∧ ∀ x, x ∈ S ↔ OccS R x
def IsFst (F : List Pr) (x : Str) (l : List Str) : Prop := sortedS l = true ∧ l.Nodup ∧ ∀ y, y ∈ l ↔ Reach F x y ∧ y ∈ termN

theorem flat_le {α β : Type} {g : α → List β} {c : Nat} : ∀ {l : List α}, (∀ r ∈ l, (g r).length ≤ c) → ((l.map g).flatten).length ≤ c * l.length
  | [], _ => by simp
  | r :: l, h => by
    have ih := flat_le (g := g) (c := c) (l := l) fun r hr => h r (List.mem_cons_of_mem _ hr)
    have := h r List.mem_cons_self
    rw [List.map_cons, List.flatten_cons, List.length_append, List.length_cons, Nat.mul_succ]
    omega
theorem flat_strs (R : List Rl) : (R.map fun r => r.2.map PV.str).flatten = (R.map fun r => r.2).flatten.map .str := by
  induction R with
  | nil => rfl
  | cons r l ih => simp only [List.map_cons, List.flatten_cons, List.map_append, ih]

theorem LE.cal {X : Wk} {Y : Act} (L : LE X Y) {v : Value} (h : Callee X.toWd v) : Callee Y.toWd v := L.wd ▸ h

theorem bb {p : Prop} {i : Decidable p} : (@decide p i = true) ↔ p := ⟨fun h => @of_decide_eq_true p i h, fun h => @decide_eq_true p i h⟩
open Classical in
theorem pt_term {Y : Act} {q : Vw} {x a : Str} {px p1 p2 p3 pt pos : Pos} {k k1 k2 k3 : Nat} {R : Bool → Prop} (hn : 2 ≤ Y.n) (hx : q.ρ x = some (.fz (.str a))) (hR : ∀ b, (b = true ↔ a ∈ termN) → R b)
    (hd : (x == ("__debug__" : Str)) = false := by decide) (hc : (x == ("__classdict__" : Str)) = false := by decide) :
    PT Y q (.Compare (.Name x px) [.In] [.Tuple [.Constant (.str "X") k1 p1, .Constant (.str "Y") k2 p2, .Constant (.str "Z") k3 p3] k pt] pos) R := by
  obtain ⟨m, hm⟩ : ∃ m, Y.n = m + 1 := ⟨Y.n - 1, by omega⟩
  refine PT.cmp (PE.name hx (PE.tup (PE.cstr (PE.cstr (PE.cstr ⟨by simp, ?_⟩)))) hd hc)
  rw [hm]
  refine op_in (.inr rfl) trivial (str_list_flat (l := termN)) (eqs_strs (F := termN)) ⟨_, rfl, hR _ ?_⟩
  rw [bb]
  exact mem_strs (l := termN)

structure B4 (R : List Rl) (E : List Str) (F L B : List Pr) (q : Vw) : Prop where
  rules : q.ρ "rules" = some (.fz (encRs R))
  empty : q.ρ "empty" = some (.fz (.list (E.map .str)))
  firsts : q.ρ "firsts" = some (.fz (encP F))
  lasts : q.ρ "lasts" = some (.fz (encP L))
  besides : q.ρ "besides" = some (.fz (encP B))
structure B5 (R : List Rl) (E : List Str) (F L B : List Pr) (S : List Str) (q : Vw) : Prop extends B4 R E F L B q where
  symbols : q.ρ "symbols" = some (.fz (.list (S.map .str)))
def names6 : List Str := ["rules", "empty", "firsts", "lasts", "besides", "symbols"]
section
variable {R : List Rl} {E : List Str} {F L B : List Pr} {S : List Str} {q : Vw} {x : Str} {sl : Slot}
theorem B4.set (b : B4 R E F L B q) (h : x ∉ names5) : B4 R E F L B (q.set x sl) := by
  have hn : ∀ y ∈ names5, ¬ y = x := fun y hy e => h (e ▸ hy)
  exact ⟨set_there b.rules (hn _ (by decide)), set_there b.empty (hn _ (by decide)), set_there b.firsts (hn _ (by decide)), set_there b.lasts (hn _ (by decide)), set_there b.besides (hn _ (by decide))⟩
theorem B5.set (b : B5 R E F L B S q) (h : x ∉ names6) : B5 R E F L B S (q.set x sl) :=
  ⟨b.toB4.set fun w => h ((by decide : ∀ y ∈ names5, y ∈ names6) _ w), set_there b.symbols (fun e => h (e ▸ by decide))⟩
theorem B3.freeze (b : B3 R E F L B q) : B4 R E F L B (((q.set "firsts" (.fz (encP F))).set "lasts" (.fz (encP L))).set "besides" (.fz (encP B))) :=
  ⟨set_there (set_there (set_there b.rules)), set_there (set_there (set_there b.empty)), set_there (set_there set_here), set_there set_here, set_here⟩
end

section
variable {X : Wk} {Y : Act}
theorem lawT4 {q : Vw} {Φ : AF → Vw → Prop} (L : LE X Y) {R : List Rl} {E : List Str} {F La B : List Pr} (hR : Good R) (b : B3 R E F La B q)
    (K : ∀ q' S, IsSy R S → B5 R E F La B S q' → PS Y q' ((lawBody X.w.params).drop 5) Φ) : PS Y q ((lawBody X.w.params).drop 4) Φ := by
  refine PS.freeze b.firsts (PS.freeze (set_there b.lasts) (PS.freeze (set_there (set_there b.besides)) ?_))
  have b := b.freeze
  change B4 R E F La B (((q.set "firsts" (.fz (encP F))).set "lasts" (.fz (encP La))).set "besides" (.fz (encP B))) at b
  generalize (((q.set "firsts" (.fz (encP F))).set "lasts" (.fz (encP La))).set "besides" (.fz (encP B))) = q at b ⊢
  have hz1 : R.length ≤ 6 := hR.1
  have hz2 : ((R.map fun r => r.2.map PV.str).flatten).length ≤ 24 := by
    have := flat_le (g := fun r : Rl => r.2.map PV.str) (c := 4) (l := R) fun r hr => by rw [List.length_map]; exact (hR.2 r hr).2.1
    omega
  refine PS.seq (PS1.assign (L.loc (by rfl)) (PE.sortedSet (L.b (by rfl) (by rfl) (by rfl)) (L.b (by rfl) (by rfl) (by rfl)) (by have := L.n; omega) rfl (PE.bin
    (PE.listcomp (nm := .seq) (comp_nofree (by decide) (by decide) rfl (by decide)) (.inr ⟨_, _, _, rfl⟩) (IterE.seq (PE.name b.rules ⟨tList, _, rfl, .inl rfl, _,
      compok_pair R (fun r => .str r.1) (fun r => .list (r.2.map .str)) (fun r => [.str r.1]) (by rw [flat_one, List.length_map]; omega) (by rfl) (by rfl) (by decide) (fun C r q'' hr h1 h2 h3 => pts_elt (PE.name h1 rfl)), ?_⟩)) (fun _ => rfl)))) (by rfl))
  refine PE.listcomp (nm := .seq) (comp_nofree (by decide) (by decide) rfl (by decide)) (.inr ⟨_, _, _, rfl⟩) (IterE.seq (PE.name b.rules ⟨tList, _, rfl, .inl rfl, _,
      compok_pair R (fun r => .str r.1) (fun r => .list (r.2.map .str)) (fun r => r.2.map .str) (by omega) (by rfl) (by rfl) (by decide)
        (fun C r q'' hr h1 h2 h3 => pts_nil (gi_name PV.str r.2 PV.str (by have := (hR.2 r hr).2.1; omega) (ck_other (by decide) (by rfl)) ((h3 _ (by decide) (by decide)).trans (inh_none (ck_other (by decide) (by rfl)))) (IterE.seq (PE.name h2 ⟨tList, _, rfl, .inl rfl, rfl⟩)) (fun a q3 ha i1 i2 => PE.name i1 rfl) (fun _ => rfl))), ?_⟩)) (fun _ => rfl)
  rw [flat_one]
  refine op_addl (by rw [List.length_map]; omega) ?_
  rw [flat_strs] at hz2 ⊢
  rw [List.length_map] at hz2
  have e1 : (R.map fun r => PV.str r.1) = (R.map fun r => r.1).map .str := by simp
  rw [e1, ← List.map_append]
  refine ⟨_, rfl, fun d hd => by obtain ⟨x, _, rfl⟩ := List.mem_map.mp hd; exact ⟨_, rfl⟩, by rw [List.length_map, List.length_append, List.length_map]; omega, ?_⟩
  rintro _ ⟨S, rfl, hs, hn, hm⟩
  refine ⟨rfl, K _ S ⟨hs, hn, fun x => ?_⟩ ⟨b.set (by decide), set_here⟩⟩
  rw [hm, mem_strs, List.mem_append, OccS]
  refine or_congr ?_ ?_
  · simp only [List.mem_map]
  · simp only [List.mem_flatten, List.mem_map]
    constructor
    · rintro ⟨l, ⟨r, hr, rfl⟩, hx⟩; exact ⟨r, hr, hx⟩
    · rintro ⟨r, hr, hx⟩; exact ⟨_, ⟨r, hr, rfl⟩, hx⟩
end
end Mine
namespace Mine
open PySem PySem.W PySem.Calls PyProof.Rows

def dS (T : List Str) (f : Str → List Str) : PV := .dict (T.map .str) (T.map fun x => .list ((f x).map .str))
def updS (f : Str → List Str) (x : Str) (l : List Str) : Str → List Str := fun y => if y = x then l else f y
theorem updS_self {f : Str → List Str} {x : Str} {l : List Str} : updS f x l x = l := if_pos rfl
theorem updS_ne {f : Str → List Str} {x y : Str} {l : List Str} (h : y ≠ x) : updS f x l y = f y := if_neg h
theorem dS_add {T : List Str} {f : Str → List Str} {x : Str} {l : List Str} (h : x ∉ T) : PV.dict (T.map .str ++ [.str x]) (T.map (fun x => .list ((f x).map .str)) ++ [.list (l.map .str)]) = dS (T ++ [x]) (updS f x l) := by
  unfold dS
  rw [List.map_append, List.map_append, List.map_singleton, List.map_singleton, updS_self]
  congr 2
  exact List.map_congr_left fun y hy => by
    have : updS f x l y = f y := updS_ne (fun e => by subst e; exact h hy)
    rw [this]
theorem not_takeG {α : Type} {S : List α} (hn : S.Nodup) {i : Nat} {k : α} (h : S[i]? = some k) : k ∉ S.take i := fun w => by
  obtain ⟨hlt, e⟩ := List.getElem?_eq_some_iff.mp h
  have hd : S.drop i = k :: S.drop (i + 1) := by rw [List.drop_eq_getElem_cons hlt, e]
  have := hn
  rw [← List.take_append_drop i S, List.nodup_append, hd] at this
  exact this.2.2 k w k List.mem_cons_self rfl
theorem map_nodupS {T : List Str} (h : T.Nodup) : (T.map PV.str).Nodup := by
  rw [List.nodup_iff_pairwise_ne, List.pairwise_map]
  exact (List.nodup_iff_pairwise_ne.mp h).imp fun hne e => hne (PV.str.inj e)
theorem map_strP {T : List Str} : ∀ x ∈ T.map PV.str, isStrPV x := fun x hx => by obtain ⟨y, _, rfl⟩ := List.mem_map.mp hx; exact ⟨_, rfl⟩
theorem dput_newS {T : List Str} {ds ks' ds' : List PV} {x : Str} {dv : PV} (h : DPut (T.map .str) ds (.str x) dv ks' ds') (hn : x ∉ T) : ks' = T.map .str ++ [.str x] ∧ ds' = ds ++ [dv] := by
  rcases h with ⟨i, hi, rfl, rfl⟩ | ⟨_, rfl, rfl⟩
  · exact absurd (mem_strs.mp (List.mem_of_getElem? hi)) hn
  · exact ⟨rfl, rfl⟩

structure B6 (R : List Rl) (E : List Str) (F L B : List Pr) (S T T' : List Str) (f g : Str → List Str) (q : Vw) : Prop extends B5 R E F L B S q where
  first : q.ρ "first" = some (.mt (dS T f))
  follow : q.ρ "follow" = some (.mt (dS T' g))
def names8 : List Str := ["rules", "empty", "firsts", "lasts", "besides", "symbols", "first", "follow"]
section
variable {R : List Rl} {E : List Str} {F L B : List Pr} {S T T' U : List Str} {f g k : Str → List Str} {q : Vw} {x : Str} {sl : Slot}
theorem B6.set (b : B6 R E F L B S T T' f g q) (h : x ∉ names8) : B6 R E F L B S T T' f g (q.set x sl) :=
  ⟨b.toB5.set fun w => h ((by decide : ∀ y ∈ names6, y ∈ names8) _ w), set_there b.first (fun e => h (e ▸ by decide)), set_there b.follow (fun e => h (e ▸ by decide))⟩
theorem B6.fst (b : B6 R E F L B S T T' f g q) : B6 R E F L B S U T' k g (q.set "first" (.mt (dS U k))) :=
  ⟨b.toB5.set (by decide), set_here, set_there b.follow⟩
theorem B6.fol (b : B6 R E F L B S T T' f g q) : B6 R E F L B S T U f k (q.set "follow" (.mt (dS U k))) :=
  ⟨b.toB5.set (by decide), set_there b.first, set_here⟩
end

theorem swap_lc {env : Env} {x y : Str} {p1 p2 tp q1 q2 vp : Pos} {k1 k2 : Nat} (hf : env.scope.kind = .function) (hx : env.kindOf x = some .local) (hy : env.kindOf y = some .cell) :
    swappedStores [.Tuple [.Name x p1, .Name y p2] k1 tp] (.Tuple [.Dict [] [] q1, .Dict [] [] q2] k2 vp) env = pure none := by
  unfold swappedStores
  simp [Env.blockKind, hf, hx, hy, ScopeKind.isAnnotationScope]
  intro h
  exfalso
  revert h
  rw [List.filterMap_cons, List.filterMap_cons, List.filterMap_nil]
  simp [hx, hy]
  split <;> simp
section
variable {X : Wk} {Y : Act}
theorem lawT5 {q : Vw} {Φ : AF → Vw → Prop} (L : LE X Y) {R : List Rl} {E S : List Str} {F La B : List Pr} (hF : F.length < 60) (hS : IsSy R S) (hSl : S.length ≤ 60) (b : B5 R E F La B S q)
    (K : ∀ q' f, (∀ x ∈ S, IsFst F x (f x)) → B6 R E F La B S S S f (fun _ => []) q' → PS Y q' ((lawBody X.w.params).drop 7) Φ) : PS Y q ((lawBody X.w.params).drop 5) Φ := by
  refine PS.seq (PS1.new2 (L.loc (by rfl)) L.sf (.dict _) (.dict _) ⟨rfl, ?_⟩ (swap_lc L.kf (L.k (by rfl)) (L.k (by rfl))))
  have b : B6 R E F La B S [] [] (fun _ => []) (fun _ => []) ((q.set "first" (.mt (.dict [] []))).set "follow" (.mt (.dict [] []))) :=
    ⟨(b.set (by decide)).set (by decide), set_there set_here, set_here⟩
  generalize (q.set "first" (.mt (.dict [] []))).set "follow" (.mt (.dict [] [])) = q at b ⊢
  refine PS.cons (Ψ := fun fl q' => fl = .next ∧ ∃ f, (∀ x ∈ S, IsFst F x (f x)) ∧ B6 R E F La B S S S f (fun _ => []) q') (PS1.for_ (nm := .seq) (R := fun l => l = S.map PV.str) (IterE.seq (PE.name b.symbols ⟨tList, _, rfl, .inl rfl, rfl⟩)) (.inl ⟨by decide, _, _, rfl⟩) ?_) (fun q' h => let ⟨_, f, hf, b⟩ := h; K q' f hf b) (fun f q' hne h => absurd h.1 hne)
  rintro _ rfl
  refine ⟨fun i q' => ∃ f, (∀ x ∈ S.take i, IsFst F x (f x)) ∧ B6 R E F La B S (S.take i) (S.take i) f (fun _ => []) q', ⟨_, (fun x hx => nomatch hx), b⟩, ?_, fun q' h => ⟨rfl, by simpa using h⟩⟩
  rintro i q₁ d hd ⟨f, hf, b⟩
  rw [List.getElem?_map] at hd
  cases hx : S[i]? with
  | none => rw [hx] at hd; cases hd
  | some x =>
  rw [hx] at hd
  cases hd
  have hnt := not_takeG hS.2.1 hx
  have hS1 : S.take (i + 1) = S.take i ++ [x] := by rw [List.take_add_one, hx]; rfl
  have hzt : ((S.take i).map PV.str).length ≤ 4096 := by rw [List.length_map, List.length_take]; omega
  have hnd : ((S.take i).map PV.str).Nodup := map_nodupS (hS.2.1.sublist (List.take_sublist _ _))
  refine ⟨_, PA.name L.sx, ?_⟩
  have b := b.set (x := "x") (sl := .fz (.str x)) (by decide)
  have gx : (q₁.set "x" (.fz (.str x))).ρ "x" = some (.fz (.str x)) := set_here
  generalize q₁.set "x" (.fz (.str x)) = q₂ at b gx ⊢
  refine PS.seq (PS1.setItem (dkey_str Y.toWd 4) (by have := L.n; omega) b.first map_strP hnd hzt (PE.call (L.b (x := "sorted") (v := .builtin "sorted") (by rfl) (by rfl) (by rfl)) (.inr (.inr ⟨_, rfl⟩))
    (PE.listcomp (nm := .seq) (comp_nofree (by decide) (by decide) rfl (by decide)) (.inl ⟨by decide, _, _, rfl⟩) (IterE.seq (PE.mono (PE.call (L.g (x := "_law_come") (v := .ref 439) (by rfl) (by rfl)) (L.cal (.inl (by rw [X.hK]; rfl)))
      (PE.name b.firsts (PE.name gx (FC.cast L.wd ((lawCome F x hF).mono (by have := L.n; omega) fun d h => h))))) fun d hd => ?_)) (fun _ => rfl))) (by rfl))
  obtain ⟨El, rfl, hEn, hEm⟩ := hd
  have hEl := come_len hEn fun y hy => (hEm y).mp hy
  refine ⟨tList, _, rfl, .inl rfl, _, compok_name El PV.str (fun y => if decide (y ∈ termN) = true then [.str y] else []) (len_if _ _ _ (by omega)) (by rfl)
    (fun C y q'' hy i1 i2 => pts_if (pt_term (by have := L.n; show 2 ≤ Y.n; omega) i1 fun b hb => ?_)), ?_⟩
  · have e : b = decide (y ∈ termN) := by
      cases b with
      | true => exact (decide_eq_true (hb.mp rfl)).symm
      | false => exact (decide_eq_false fun w => by have := hb.mpr w; cases this).symm
    rw [e]
    exact if_elt fun _ => PE.name i1 rfl
  rw [flat_if]
  refine fc_sorted (fun d hd => by obtain ⟨y, _, rfl⟩ := List.mem_map.mp hd; exact ⟨_, rfl⟩) (by rw [List.length_map]; have := List.length_filter_le (fun y => decide (y ∈ termN)) El; omega) ?_
  rintro _ ⟨l, rfl, hls, hlp⟩
  have hlp : l.Perm (El.filter fun y => decide (y ∈ termN)) := by
    have := hlp.map (fun d => match d with | .str x => x | _ => ⟨#[]⟩)
    simpa [Function.comp_def] using this
  have hl : IsFst F x l := ⟨hls, hlp.nodup_iff.mpr (hEn.sublist List.filter_sublist), fun y => by rw [hlp.mem_iff, List.mem_filter, hEm, decide_eq_true_eq]⟩
  refine PE.name gx ⟨⟨_, rfl⟩, fun ks' ds' hput => ⟨rfl, ?_⟩⟩
  obtain ⟨rfl, rfl⟩ := dput_newS hput hnt
  rw [dS_add hnt, ← hS1]
  have b := b.fst (U := S.take (i + 1)) (k := updS f x l)
  have gx := set_there (x := "first") (sl := .mt (dS (S.take (i + 1)) (updS f x l))) gx
  generalize q₂.set "first" (.mt (dS (S.take (i + 1)) (updS f x l))) = q₃ at b gx ⊢
  refine PS.seq (PS1.setItem (dkey_str Y.toWd 4) (by have := L.n; omega) b.follow map_strP hnd hzt (PE.list (es := []) ⟨by simp, PE.name gx ⟨⟨_, rfl⟩, fun ks' ds' hput => ⟨rfl, ?_⟩⟩⟩) (by rfl))
  obtain ⟨rfl, rfl⟩ := dput_newS hput hnt
  have e0 : PV.dict ((S.take i).map .str ++ [.str x]) ((S.take i).map (fun x => .list (((fun _ => []) x : List Str).map .str)) ++ [.list []]) = dS (S.take (i + 1)) fun _ => [] := by
    rw [hS1]; unfold dS; rw [List.map_append, List.map_append]; rfl
  rw [e0]
  refine PS.nil ⟨updS f x l, fun y hy => ?_, b.fol⟩
  rw [hS1, List.mem_append, List.mem_singleton] at hy
  by_cases e : y = x
  · subst e; rw [updS_self]; exact hl
  · rw [updS_ne e]
    exact hf y (hy.resolve_right e)
end
end Mine
namespace Mine
open PySem PySem.W PySem.Calls PyProof.Rows

theorem dput_oldS {S : List Str} (hn : S.Nodup) {g : Str → List Str} {x : Str} {l : List Str} {ks' ds' : List PV} (hx : x ∈ S) (h : DPut (S.map .str) (S.map fun x => .list ((g x).map .str)) (.str x) (.list (l.map .str)) ks' ds') : PV.dict ks' ds' = dS S (updS g x l) := by
  rcases h with ⟨i, hi, rfl, rfl⟩ | ⟨hn', _, _⟩
  · unfold dS
    congr 1
    rw [List.getElem?_map] at hi
    cases hs : S[i]? with
    | none => rw [hs] at hi; cases hi
    | some y =>
    rw [hs] at hi
    cases hi
    have hil := (List.getElem?_eq_some_iff.mp hs).1
    refine List.ext_getElem? fun j => ?_
    rw [List.getElem?_set, List.getElem?_map, List.getElem?_map]
    by_cases e : i = j
    · subst e
      rw [if_pos rfl, hs, if_pos (by rw [List.length_map]; exact hil)]
      simp only [Option.map_some]
      rw [updS_self]
    · rw [if_neg e]
      cases hj : S[j]? with
      | none => rfl
      | some z =>
        simp only [Option.map_some]
        have hzy : z ≠ x := fun w => e ((List.getElem?_inj hil hn).mp (by rw [hs, hj, w]))
        have : updS g x l z = g z := updS_ne hzy
        rw [this]
  · exact absurd (mem_strs.mpr hx) hn'

/-- what the pairs so far say of what may follow -/
def FoR (La : List Pr) (f : Str → List Str) (ps : List Pr) (x t : Str) : Prop := ∃ p ∈ ps, Reach La p.1 x ∧ t ∈ f p.2
theorem at_of {S : List Str} {x : Str} {g : Str → PV} (h : x ∈ S) : ∃ j : Nat, (S.map PV.str)[j]? = some (PV.str x) ∧ (S.map g)[j]? = some (g x) := by
  obtain ⟨j, hj⟩ := List.getElem?_of_mem h
  exact ⟨j, by rw [List.getElem?_map, hj]; rfl, by rw [List.getElem?_map, hj]; rfl⟩
theorem reach_in {La : List Pr} {S : List Str} (hL : ∀ p ∈ La, p.2 ∈ S) {x y : Str} (hx : x ∈ S) (h : Reach La x y) : y ∈ S := by
  cases h with
  | refl => exact hx
  | step h hp => exact hL _ hp

open Classical in
theorem op_notinY {Y : Act} (hn : 1 ≤ Y.n) {d : PV} {c : Value} {l : List PV} {P : PV → Prop} (hc : c = tList ∨ c = tTuple) (hd : Flat d) (hl : ∀ x ∈ l, Flat x) (he : ∀ {n}, ∀ x ∈ l, EqOk Y.toWd n x d (decide (x = d))) (h : P (.bool (!decide (d ∈ l)))) : Op2 Y.toWd Y.n (compareOp .NotIn) d (.seq c l) P := by
  obtain ⟨m, hm⟩ : ∃ m, Y.n = m + 1 := ⟨Y.n - 1, by omega⟩
  rw [hm]
  exact op_notin hc hd hl he h
section
variable {X : Wk} {Y : Act}
open Classical in
theorem lawT7 {q : Vw} {Φ : AF → Vw → Prop} (L : LE X Y) {R : List Rl} {E S : List Str} {F La B : List Pr} {f : Str → List Str} (hB : B.length < 60) (hLl : La.length < 60) (hS : IsSy R S) (hSl : S.length ≤ 60) (hBS : ∀ p ∈ B, p.1 ∈ S ∧ p.2 ∈ S) (hLS : ∀ p ∈ La, p.2 ∈ S)
    (hf : ∀ x ∈ S, IsFst F x (f x)) (b : B6 R E F La B S S S f (fun _ => []) q)
    (K : ∀ q' g, (∀ x ∈ S, (g x).Nodup ∧ ∀ t, t ∈ g x ↔ FoR La f B x t) → B6 R E F La B S S S f g q' → PS Y q' ((lawBody X.w.params).drop 8) Φ) : PS Y q ((lawBody X.w.params).drop 7) Φ := by
  have hzt : (S.map PV.str).length ≤ 4096 := by rw [List.length_map]; omega
  have hnd : (S.map PV.str).Nodup := map_nodupS hS.2.1
  have hft : ∀ x ∈ S, ∀ t ∈ f x, t ∈ termN := fun x hx t ht => (((hf x hx).2.2 t).mp ht).2
  have hfl : ∀ x ∈ S, (f x).length ≤ 3 := fun x hx => nodup_len _ termN (hf x hx).2.1 (hft x hx)
  obtain ⟨cf, hcf⟩ := L.cf
  obtain ⟨cx, hcx⟩ := L.cx
  have kf : Y.env.kindOf "follow" = some .cell := L.k (by rfl)
  have kx : Y.env.kindOf "x" = some .cell := L.k (by rfl)
  refine PS.cons (Ψ := fun fl q' => fl = .next ∧ ∃ g, (∀ x ∈ S, (g x).Nodup ∧ ∀ t, t ∈ g x ↔ FoR La f B x t) ∧ B6 R E F La B S S S f g q')
    (PS1.for_ (nm := .seq) (R := fun l => ∃ ps : List Pr, l = ps.map encPr ∧ ∀ p, p ∈ ps ↔ p ∈ B) (IterE.seq (PE.sortedSetP (L.b (by rfl) (by rfl) (by rfl)) (L.b (by rfl) (by rfl) (by rfl)) (by have := L.n; omega) rfl (PE.name b.besides ⟨B, rfl, hB, fun ps hps => ⟨tList, _, rfl, .inl rfl, ps, rfl, hps⟩⟩))) (.inr ⟨_, _, _, rfl⟩) ?_)
    (fun q' h => let ⟨_, g, hg, b⟩ := h; K q' g hg b) (fun f q' hne h => absurd h.1 hne)
  rintro _ ⟨ps, rfl, hps⟩
  refine ⟨fun i q' => ∃ g, (∀ x ∈ S, (g x).Nodup ∧ ∀ t, t ∈ g x ↔ FoR La f (ps.take i) x t) ∧ B6 R E F La B S S S f g q', ⟨_, fun x hx => ⟨List.nodup_nil, fun t => ⟨(fun h => nomatch h), fun ⟨p, hp, _⟩ => nomatch hp⟩⟩, b⟩, ?_, fun q' h => ⟨rfl, ?_⟩⟩
  rotate_left
  · obtain ⟨g, hg, b⟩ := h
    rw [List.length_map, List.take_length] at hg
    exact ⟨g, fun x hx => ⟨(hg x hx).1, fun t => ((hg x hx).2 t).trans ⟨fun ⟨p, hp, r⟩ => ⟨p, (hps p).mp hp, r⟩, fun ⟨p, hp, r⟩ => ⟨p, (hps p).mpr hp, r⟩⟩⟩, b⟩
  rintro i q₁ d hd ⟨g, hg, b⟩
  rw [List.getElem?_map] at hd
  cases hp : ps[i]? with
  | none => rw [hp] at hd; cases hd
  | some p =>
  rw [hp] at hd
  cases hd
  obtain ⟨one, two⟩ := p
  have hpB := (hps _).mp (List.mem_of_getElem? hp)
  have h1S : one ∈ S := (hBS _ hpB).1
  have h2S : two ∈ S := (hBS _ hpB).2
  have hP1 : ps.take (i + 1) = ps.take i ++ [(one, two)] := by rw [List.take_add_one, hp]; rfl
  have hterm : ∀ x t, FoR La f (ps.take i) x t → t ∈ termN := fun x t ⟨p, hp, _, ht⟩ => hft _ (hBS _ ((hps _).mp (List.mem_of_mem_take hp))).2 _ ht
  refine ⟨_, PA.tup ⟨_, PA.name (L.loc (by rfl)), _, PA.name (L.loc (by rfl)), rfl⟩, ?_⟩
  have b := (b.set (x := "one") (sl := .fz (.str one)) (by decide)).set (x := "two") (sl := .fz (.str two)) (by decide)
  have g1 : ((q₁.set "one" (.fz (.str one))).set "two" (.fz (.str two))).ρ "one" = some (.fz (.str one)) := set_there set_here
  have g2 : ((q₁.set "one" (.fz (.str one))).set "two" (.fz (.str two))).ρ "two" = some (.fz (.str two)) := set_here
  generalize (q₁.set "one" (.fz (.str one))).set "two" (.fz (.str two)) = q₂ at b g1 g2 ⊢
  refine PS.cons (Ψ := fun fl q' => fl = .next ∧ ∃ g, (∀ x ∈ S, (g x).Nodup ∧ ∀ t, t ∈ g x ↔ FoR La f (ps.take (i + 1)) x t) ∧ B6 R E F La B S S S f g q')
    (PS1.for_ (nm := .seq) (R := fun l => ∃ El : List Str, l = El.map PV.str ∧ ∀ y, y ∈ El ↔ Reach La one y) (IterE.seq (PE.mono (PE.call (L.g (x := "_law_come") (v := .ref 439) (by rfl) (by rfl)) (L.cal (.inl (by rw [X.hK]; rfl)))
      (PE.name b.lasts (PE.name g1 (FC.cast L.wd ((lawCome La one hLl).mono (by have := L.n; omega) fun d h => h))))) fun d ⟨El, e, _, hm⟩ => ⟨tList, _, e, .inl rfl, El, rfl, hm⟩)) (.inl ⟨by decide, _, _, rfl⟩) ?_) (fun q' h => PS.nil h.2) (fun f q' hne h => absurd h.1 hne)
  rintro _ ⟨El, rfl, hEl⟩
  refine ⟨fun m q' => ∃ g, (∀ x ∈ S, (g x).Nodup ∧ ∀ t, t ∈ g x ↔ FoR La f (ps.take i) x t ∨ (x ∈ El.take m ∧ t ∈ f two)) ∧ B6 R E F La B S S S f g q' ∧ q'.ρ "two" = some (.fz (.str two)), ⟨g, fun x hx => ⟨(hg x hx).1, fun t => ((hg x hx).2 t).trans ⟨.inl, fun h => h.elim id fun h => nomatch h.1⟩⟩, b, g2⟩, ?_, fun q' h => ⟨rfl, ?_⟩⟩
  rotate_left
  · obtain ⟨g, hg, b, _⟩ := h
    rw [List.length_map, List.take_length] at hg
    refine ⟨g, fun x hx => ⟨(hg x hx).1, fun t => ((hg x hx).2 t).trans ?_⟩, b⟩
    rw [hP1, hEl]
    constructor
    · rintro (⟨p, hp, r⟩ | ⟨h1, h2⟩)
      · exact ⟨p, List.mem_append_left _ hp, r⟩
      · exact ⟨_, List.mem_append_right _ (List.mem_singleton.mpr rfl), h1, h2⟩
    · rintro ⟨p, hp, r⟩
      rcases List.mem_append.mp hp with hp | hp
      · exact .inl ⟨p, hp, r⟩
      · rw [List.mem_singleton] at hp
        subst hp
        exact .inr r
  clear hg b g2 g1
  rintro m q₃ d hd ⟨g, hg, b, g2⟩
  rw [List.getElem?_map] at hd
  cases hx : El[m]? with
  | none => rw [hx] at hd; cases hd
  | some x =>
  rw [hx] at hd
  cases hd
  have hE1 : El.take (m + 1) = El.take m ++ [x] := by rw [List.take_add_one, hx]; rfl
  have hxS : x ∈ S := reach_in hLS h1S ((hEl x).mp (List.mem_of_getElem? hx))
  refine ⟨_, PA.name L.sx, ?_⟩
  have b := b.set (x := "x") (sl := .fz (.str x)) (by decide)
  have g2 := set_there (x := "x") (sl := .fz (.str x)) g2 (by decide)
  have gx : (q₃.set "x" (.fz (.str x))).ρ "x" = some (.fz (.str x)) := set_here
  generalize q₃.set "x" (.fz (.str x)) = q₄ at b gx g2 ⊢
  obtain ⟨jx, hj1, hj2⟩ := at_of (g := fun x => PV.list ((g x).map .str)) hxS
  obtain ⟨j2, hk1, hk2⟩ := at_of (g := fun x => PV.list ((f x).map .str)) h2S
  have hgl : (g x).length ≤ 3 := nodup_len _ termN (hg x hxS).1 fun t ht => (((hg x hxS).2 t).mp ht).elim (hterm x t) fun h => hft _ h2S _ h.2
  have hfl2 := hfl _ h2S
  have hn5 : 4 + 1 ≤ Y.n := by have := L.n; omega
  refine PS.seq (PS1.setItem (dkey_str Y.toWd 4) hn5 b.follow map_strP hnd hzt (PE.bin (PE.dget (dkey_str Y.toWd 4) hn5 (PM.name b.follow) map_strP hnd (PE.name gx ⟨⟨_, rfl⟩, jx, _, hj1, hj2,
    PE.listcomp (nm := .seq) (comp_shape2 "follow" "x" hcf hcx (by decide) (by decide) rfl (by decide)) (.inl ⟨by decide, _, _, rfl⟩) (IterE.seq (PE.dget (dkey_str Y.toWd 4) hn5 (PM.name b.first) map_strP hnd (PE.name g2 ⟨⟨_, rfl⟩, j2, _, hk1, hk2, tList, _, rfl, .inl rfl, _,
      compok_name (f two) PV.str (fun t => if (!decide (PV.str t ∈ (g x).map PV.str)) = true then [.str t] else []) (len_if _ _ _ (by omega)) (by rfl)
        (fun C t q'' ht i1 i2 => pts_if (PT.cmp (PE.name i1 (PE.dget (dkey_str Y.toWd 4) hn5 (PM.name ((i2 _ (by decide)).trans ((inh_cell L.kf kf hcf (by rfl)).trans b.follow))) map_strP hnd (PE.name ((i2 _ (by decide)).trans ((inh_cell L.kf kx hcx (by rfl)).trans gx)) ⟨⟨_, rfl⟩, jx, _, hj1, hj2, op_notinY (by show 1 ≤ Y.n; omega) (.inl rfl) trivial str_list_flat eqs_strs ⟨_, rfl, if_elt fun _ => PE.name i1 rfl⟩⟩))))), ?_⟩))) (fun _ => rfl)⟩))) (by rfl))
  rw [flat_notin]
  refine op_addl (by rw [List.length_map, List.length_map]; have := List.length_filter_le (fun t => !decide (t ∈ g x)) (f two); omega) ?_
  rw [← List.map_append]
  refine PE.name gx ⟨⟨_, rfl⟩, fun ks' ds' hput => ⟨rfl, ?_⟩⟩
  rw [dput_oldS hS.2.1 hxS hput]
  refine PS.nil ⟨updS g x (g x ++ (f two).filter fun t => !decide (t ∈ g x)), fun y hy => ?_, b.fol, set_there g2⟩
  by_cases e : y = x
  · subst e
    rw [updS_self]
    have hm := (hg y hy).2
    refine ⟨?_, fun t => ?_⟩
    · rw [List.nodup_append]
      refine ⟨(hg y hy).1, (hf _ h2S).2.1.sublist List.filter_sublist, fun a ha b' hb e => ?_⟩
      subst e
      rw [List.mem_filter] at hb
      have := hb.2
      simp at this
      exact this ha
    · rw [List.mem_append, List.mem_filter, hE1, List.mem_append, List.mem_singleton]
      simp only [Bool.not_eq_true', decide_eq_false_iff_not, or_true, true_and]
      rw [hm]
      constructor
      · rintro (h | ⟨h, _⟩)
        · exact h.imp id fun h => h.2
        · exact .inr h
      · rintro (h | h)
        · exact .inl (.inl h)
        · by_cases w : FoR La f (ps.take i) y t ∨ y ∈ El.take m ∧ t ∈ f two
          · exact .inl w
          · exact .inr ⟨h, fun w' => w w'⟩
  · have : updS g x (g x ++ (f two).filter fun t => !decide (t ∈ g x)) y = g y := updS_ne e
    rw [this]
    refine ⟨(hg y hy).1, fun t => ((hg y hy).2 t).trans ?_⟩
    rw [hE1, List.mem_append, List.mem_singleton]
    exact or_congr Iff.rfl (and_congr ⟨.inl, fun h => h.resolve_right e⟩ Iff.rfl)
end
end Mine
namespace Mine
open PySem PySem.W PySem.Calls PyProof.Rows

section
variable {Y : Act} {kx vx t iter : Expr} {scope : Scope} {pos : Pos} {D : Addr}
theorem dcomp_loop {xs : List Str} {g : Str → PV} (hnd : xs.Nodup) (hn1 : 5 ≤ Y.n) (hz : xs.length ≤ 4096) {nm : IK} {F own' : Rgn} {gn : Nat → Prop} {it : Value} {J : Rgn → Nat → Shared → Prop}
    {A : Around} (itr : ItrD Y.toWd A F own' gn nm it (xs.map .str) J) (ht : TOk nm t) {q : Vw}
    (body : ∀ x, x ∈ xs → ∃ q'', PA Y q t (.str x) q'' ∧ q.le q'' ∧ PE Y q'' kx (fun d => d = .str x) ∧ PE Y q'' vx (fun d => d = g x))
    {M V : Rgn} {s : Shared} {R : Result → Shared → Prop} (hA : AOk A Y.n) (G : EnvOk Y ⟨q, M, V⟩ s) (hD : V D) (hDM : ¬ M D) (hVF : ∀ b, V b → F b ∨ own' b) (hMF : ∀ b, M b → F b) (hDF : F D) (how : ∀ b, own' b → V b)
    (hUo : ∀ b, Y.U b → ¬ own' b) (hMo : ∀ b, M b → ¬ own' b) (hDo : ¬ own' D) (hJ : J own' 0 s) (ht0 : Top Y.P V s.heap (.dict [] []) D)
    (fin : ∀ s', EnvOk Y ⟨q, M, fun b => V b ∧ ¬ own' b⟩ s' → StepG (fun b => Y.O b ∨ b = D ∨ own' b) gn s s' → (∀ i, gn i → s'.gens[i]? = some .finished) → Top Y.P (fun b => V b ∧ ¬ own' b) s'.heap (.dict (xs.map .str) (xs.map g)) D → R (.ok .next) s') :
    codeAny Y.mo A (.compLoop (.DictComp kx vx [⟨t, iter, [], 0⟩] scope pos) 0 it (.ref D) Y.env) R s := by
  obtain ⟨V₀, hVV⟩ : ∃ V₀, V₀ = V := ⟨V, rfl⟩
  subst hVV
  have hll : (xs.map PV.str).length = xs.length := List.length_map ..
  have hA4 := hA.mono Y.hn
  have hV0 : ∀ b, V₀ b → s.heap.get? b ≠ none := fun b w e => by obtain ⟨ob, e'⟩ := G.bnd b w; rw [e] at e'; cases e'
  have hOM : ∀ b, Y.O b → M b := fun b o => G.om b (G.oo b o)
  have hVo : V₀ = fun b => V₀ b ∨ own' b := funext fun b => propext ⟨.inl, fun w => w.elim id (how b)⟩
  refine codeAny_loop rfl (fun n s' => ∃ i w, n = xs.length + 1 - i ∧ i ≤ xs.length ∧ EnvOk Y ⟨q, M, fun b => V₀ b ∨ w b⟩ s' ∧ J w i s' ∧ StepG (fun b => Y.O b ∨ b = D ∨ own' b) gn s s' ∧ Top Y.P (fun b => V₀ b ∨ w b) s'.heap (.dict ((xs.take i).map .str) ((xs.take i).map g)) D ∧ (∀ b, w b → own' b ∨ s.heap.get? b = none) ∧ (∀ b, own' b → w b)) ?_ (xs.length + 1)
    ⟨0, own', rfl, Nat.zero_le _, hVo ▸ G, hJ, StepG.refl _ _ _, by rw [← hVo]; simpa using ht0, fun b h => .inl h, fun b h => h⟩
  rintro n s' ⟨i, w, rfl, hi, G', hJ', st, hT, hw1, hw2⟩
  have sep : ∀ {w : Rgn}, (∀ b, w b → own' b ∨ s.heap.get? b = none) → (∀ b, M b → ¬ w b) ∧ ¬ w D ∧ ∀ b, Y.U b → ¬ w b := fun {w} h =>
    ⟨fun b m x => (h b x).elim (hMo b m) (hV0 b (G.mv b m)), fun x => (h D x).elim hDo (hV0 D hD), fun b u x => (h b x).elim (hUo b u) (hV0 b (G.uv b u))⟩
  obtain ⟨sM, sD, sU⟩ := sep hw1
  show wpAny _ A ((compTurn (.DictComp kx vx [⟨t, iter, [], 0⟩] scope pos) 0 it (.ref D) Y.env).onRaise (fun x => do noteFrame x Y.env; theTreesLotGoes x)) _ _ s'
  refine wpAny_noted ?_
  rw [compTurn_dict]
  refine wpAny_bind (wpAny_standAt (wpAny_bind ?_))
  by_cases hlt : i < xs.length
  · have hd : (xs.map PV.str)[i]? = some (.str xs[i]) := by rw [List.getElem?_map, List.getElem?_eq_getElem hlt]; rfl
    obtain ⟨q'', hPA, hle, hPK, hPV⟩ := body xs[i] (List.getElem_mem hlt)
    have hx? : xs[i]? = some xs[i] := List.getElem?_eq_getElem hlt
    have hnt := not_takeG hnd hx?
    have htk : xs.take (i + 1) = xs.take i ++ [xs[i]] := by rw [List.take_add_one, hx?]; rfl
    refine itr.turn ht (V := fun b => V₀ b ∨ w b) hA4 (fun _ => rfl) hd G'.keep (fun b x => x.elim (fun x => (hVF b x).imp id (hw2 b)) .inr) G'.bnd hJ' (fun v s₁ w' hww hwf st₁ hval hJ₁ => ?_) (fun v s₁ x => wpAny_bind x)
    have hVe0 : (fun b => (V₀ b ∨ w b) ∨ w' b) = fun b => V₀ b ∨ w' b := funext fun b => propext ⟨fun x => x.elim (fun x => x.imp id (hww b)) .inr, fun x => x.imp .inl id⟩
    have hVe1 : (fun b => (V₀ b ∨ w b) ∨ (w' b ∧ s'.heap.get? b = none)) = fun b => V₀ b ∨ w' b := funext fun b => propext ⟨fun x => x.elim (fun x => x.imp id (hww b)) fun x => .inr x.1, fun x => x.elim (fun x => .inl (.inl x)) fun x => (hwf b x).elim (fun x => .inl (.inr x)) fun e => .inr ⟨x, e⟩⟩
    have hst' : ∀ b, s'.heap.get? b = none → own' b ∨ s.heap.get? b = none := fun b e => by
      have noV : ¬ V₀ b := fun x => by obtain ⟨ob, e'⟩ := G'.bnd b (.inl x); rw [e] at e'; cases e'
      rcases st.none_or e with (h | h | h) | h
      · exact absurd (G.mv b (hOM b h)) noV
      · exact absurd (h ▸ hD) noV
      · exact .inl h
      · exact .inr h
    have hw1' : ∀ b, w' b → own' b ∨ s.heap.get? b = none := fun b x => (hwf b x).elim (hw1 b) (hst' b)
    have hw2' : ∀ b, own' b → w' b := fun b x => hww b (hw2 b x)
    obtain ⟨sM', sD', sU'⟩ := sep hw1'
    have G₁ : EnvOk Y ⟨q, M, fun b => V₀ b ∨ w' b⟩ s₁ := hVe1 ▸ EnvOk.coverW (W := fun b => w' b ∧ s'.heap.get? b = none) (C := w) G' (fun b x => x.2) st₁.keep (fun b x => .inr x) sM fun b x => itr.here _ _ _ hJ₁ b (x.elim (·.1) (hww b))
    have hT₁ : Top Y.P (fun b => V₀ b ∨ w' b) s₁.heap (.dict ((xs.take i).map .str) ((xs.take i).map g)) D := Top.at (V := fun b => V₀ b ∨ w b) (fun b o n e => ⟨fun x => x.elim (fun x => n (.inl x)) fun x => (hwf b x).elim (fun x => n (.inr x)) fun e' => (by rw [e'] at e; cases e), st₁.keep b o (fun x => n (.inr x)) e⟩) hT fun o e => st₁.keep D o sD e
    rw [hVe0] at hval
    generalize hVd : (fun b => V₀ b ∨ w' b) = V at G₁ hT₁ hval
    have hD' : V D := hVd ▸ .inl hD
    refine wpAny_bind (hPA M V A _ s₁ v _ hA.handled G₁ hval fun s₂ G₂ st₂ => ?_)
    have hT₂ : Top Y.P V s₂.heap (.dict ((xs.take i).map .str) ((xs.take i).map g)) D := hT₁.at (fun b o n e => ⟨n, st₂.keep b o (fun w => n (G₁.mv b (hOM b w))) e⟩) fun o e => st₂.keep D o (fun w => hDM (hOM D w)) e
    have hJ₂ : J w' (i + 1) s₂ := itr.frame _ _ _ _ _ (fun b x => ⟨hMF b (hOM b x), sM' b (hOM b x)⟩) hJ₁ st₂
    have stA : StepG (fun b => Y.O b ∨ b = D ∨ own' b) gn s s₂ := (st.transO st₁ fun b x => (hw1 b x).imp (fun x => .inr (.inr x)) id).trans ((st₂.g gn).mono fun _ w => .inl w)
    refine wpAny_bind (wpAny_pure ?_)
    rw [if_pos rfl]
    refine wpAny_bind (wpAny_bind (PE.use hPK hA G₂ fun kv s₃ kd hk hkv st₃ G₃ => wpAny_bind (wpAny_holding (PE.use hPV hA G₃ fun vv s₄ vd hv hvv st₄ G₄ => wpAny_bind (wpAny_standAt (wpAny_holding ?_))))))
    subst hk hv
    have hT₄ : Top Y.P V s₄.heap (.dict ((xs.take i).map .str) ((xs.take i).map g)) D := hT₂.at (fun b o n e => ⟨n, st₄.kp b o (st₃.kp b o e)⟩) fun o e => st₄.kp D o (st₃.kp D o e)
    have hJ₄ : J w' (i + 1) s₄ := itr.frame _ _ _ _ None (fun b w => w.elim) (itr.frame _ _ _ _ None (fun b w => w.elim) hJ₂ st₃) st₄
    have stB : StepG (fun b => Y.O b ∨ b = D ∨ own' b) gn s s₄ := (stA.trans ((st₃.g gn).mono fun _ w => w.elim)).trans ((st₄.g gn).mono fun _ w => w.elim)
    refine dict_put (dkey_str Y.toWd 4) (hA.mono Y.hn) G₄.hp ⟨_, rfl⟩ map_strP (map_nodupS (hnd.sublist (List.take_sublist _ _))) (hkv.stepN st₄) hvv hT₄ hD' (by rw [List.length_map, List.length_take]; omega) fun tk h' ks' ds' hput hs' ht' => wpAny_pure ?_
    obtain ⟨rfl, rfl⟩ := dput_newS hput hnt
    have stD : Step (fun b => b = D) s₄ { s₄ with heap := h', toks := tk } := Step.same (t := tk) hs' rfl
    refine ⟨rfl, _, by omega, i + 1, w', rfl, hlt, hVd ▸ EnvOk.forget (G₄.stepW (fun b => b = D) stD.keep (fun b w => w ▸ hD') (fun b w => w ▸ hDM) (fun b w => ?_)) hle, itr.frame _ _ _ _ (fun b => b = D) (fun b w => w ▸ ⟨hDF, sD'⟩) hJ₄ stD,
      stB.trans ((stD.g gn).mono fun _ w => .inr (.inl w)), ?_, hw1', hw2'⟩
    · obtain ⟨ep, es, e, _⟩ := ht'; exact ⟨_, w ▸ e⟩
    · rw [hVd, htk, List.map_append, List.map_append]
      exact ht'
  · have hi' : i = xs.length := Nat.le_antisymm hi (Nat.not_lt.mp hlt)
    subst hi'
    refine itr.done A _ s' _ _ hA4 (fun _ => rfl) G'.keep (by rw [hll]; exact hJ') fun s'' st' hgf => wpAny_pure ?_
    have hVe2 : (fun b => (V₀ b ∨ w b) ∧ ¬ w b) = fun b => V₀ b ∧ ¬ own' b := funext fun b => propext ⟨fun x => x.1.elim (fun y => ⟨y, fun z => x.2 (hw2 b z)⟩) fun y => absurd y x.2,
      fun x => ⟨.inl x.1, fun y => (hw1 b y).elim x.2 (hV0 b x.1)⟩⟩
    refine fin s'' (hVe2 ▸ EnvOk.leave (W := w) G' st'.keep (fun b x => .inr x) sM sU) (st.transO st' fun b x => (hw1 b x).imp (fun x => .inr (.inr x)) id) hgf ?_
    rw [List.take_length] at hT
    rw [← hVe2]
    exact Top.at (V := fun b => V₀ b ∨ w b) (fun b o n e => ⟨fun x => n x.1, st'.keep b o (fun x => n (.inr x)) e⟩) hT fun o e => st'.keep D o sD e
end

section
variable {Y : Act} {q : Vw} {M V : Rgn} {A : Around} {E : Value → Shared → Prop} {s : Shared}
structure DCompEnd (Y : Act) (V : Rgn) (s : Shared) (out : PV) (D C : Addr) (s₆ : Shared) : Prop where
  d0 : s.heap.get? D = none
  c0 : s.heap.get? C = none
  ne : D ≠ C
  st : Step None s s₆
  ns : ∃ m, s₆.heap.Ns C m
  top : Top Y.P (fun b => V b ∨ b = C) s₆.heap out D
def DictOk (Y : Act) (q : Vw) (kx vx t : Expr) (scope : Scope) (cl : List (Str × Addr)) (xs : List Str) (g : Str → PV) : Prop :=
  xs.length ≤ 4096 ∧ xs.Nodup ∧ 5 ≤ Y.n ∧ ∀ (C : Addr) x, x ∈ xs → ∃ q'', PA (Y.comp scope cl C) (inh q Y.env (compEnvC scope cl C Y.env)) t (.str x) q'' ∧ (inh q Y.env (compEnvC scope cl C Y.env)).le q'' ∧
    PE (Y.comp scope cl C) q'' kx (fun d => d = .str x) ∧ PE (Y.comp scope cl C) q'' vx (fun d => d = g x)

theorem dcomp_core {kx vx t iter : Expr} {scope : Scope} {cl : List (Str × Addr)} {pos : Pos} {nm : IK} {RR : Value → Addr → Result → Shared → Prop} (sh : CompShape Y scope cl) (ht : TOk nm t) (hA : AOk A Y.n) (G : EnvOk Y ⟨q, M, V⟩ s)
    {s₂ : Shared} {it : Value} {own' : Rgn} {gn : Nat → Prop} {J : Rgn → Nat → Shared → Prop} {xs : List Str} {g : Str → PV} (hok : DictOk Y q kx vx t scope cl xs g)
    (itr : ItrD Y.toWd A (fun b => V b ∨ s₂.heap.get? b = none) own' gn nm it (xs.map .str) J) (hJ0 : J own' 0 s₂) (st₀ : StepG None gn s s₂) (hown : ∀ b, own' b → s.heap.get? b = none) (hgn : ∀ i, gn i → s.gens[i]? = none)
    (hRR : ∀ D C s₆, DCompEnd Y V s (.dict (xs.map .str) (xs.map g)) D C s₆ → RR (.ref D) C (.ok .next) s₆) :
    wpAny Y.mo A newDict (fun acc s₃ => wpAny Y.mo A (newFunctionEnv scope Y.env.globals cl [] Y.env.qual none .none (some Y.env)) (fun cenv s₄ =>
      codeAny Y.mo A (.compStart (.DictComp kx vx [⟨t, iter, [], 0⟩] scope pos) 0 it acc { cenv with scope := relabel scope Y.env }) (RR acc cenv.locals) s₄) E s₃) E s₂ := by
  obtain ⟨hz, hnd, hn1, body⟩ := hok
  refine wpAny_newObj_type (wpAny_newFunctionEnv sh.cell (by intro y hy; simp at hy) (fun h₁ hns₁ hsb₁ => ?_) sh.kind)
  dsimp only at hns₁ hsb₁ ⊢
  generalize hH2 : s₂.heap.push { cls := .type "dict", dict := none, data := .dict #[] } = H2 at hns₁ hsb₁ ⊢
  have hC : H2.objs.size = s₂.heap.objs.size + 1 := by rw [← hH2, Heap.size_push]
  generalize hCC : H2.objs.size = C at hns₁ hsb₁ hC ⊢
  generalize hDD : s₂.heap.objs.size = D at hC ⊢
  have hDC : D ≠ C := by rw [hC]; exact Nat.ne_of_lt (Nat.lt_succ_self _)
  have hD2 : s₂.heap.get? D = none := by rw [← hDD]; exact get?_size _
  have hC2 : s₂.heap.get? C = none := get?_none_of_le (by rw [hC, hDD]; exact Nat.le_succ _)
  have nn : ∀ b, s₂.heap.get? b = none → s.heap.get? b = none := fun b => none_of_keep fun o => st₀.keep b o fun h => h
  have old : ∀ b o, s₂.heap.get? b = some o → h₁.get? b = some o := fun b o e => hsb₁.extBut b o (fun w => by rw [w, hC2] at e; cases e) (Heap.get?_push_of_some _ (hH2 ▸ Heap.get?_push_of_some _ e))
  have hacc : h₁.get? D = some (dictO #[] 0) := hsb₁.extBut _ _ hDC (Heap.get?_push_of_some _ (by rw [← hH2, ← hDD]; exact Heap.get?_push_size _ rfl))
  obtain ⟨oC, esC, epC, hoC, hnC⟩ := id hns₁
  generalize hs5 : ({ s₂ with heap := h₁, toks := s₂.toks + ([] : List (Str × Value)).length } : Shared) = s₅ at ⊢
  have hp5 : s₅.heap = h₁ := by rw [← hs5]
  have st25 : Step None s₂ s₅ := by rw [← hs5]; exact Step.heap fun b o _ e => old b o e
  have hnoV : ∀ b, V b → s.heap.get? b ≠ none := fun b w e => by obtain ⟨o, e'⟩ := G.bnd b w; rw [e] at e'; cases e'
  have ownD : ¬ own' D := fun w => by obtain ⟨o, e⟩ := itr.here own' 0 s₂ hJ0 D w; rw [hD2] at e; cases e
  have ownC : ¬ own' C := fun w => by obtain ⟨o, e⟩ := itr.here own' 0 s₂ hJ0 C w; rw [hC2] at e; cases e
  have st05 : ∀ b o, s.heap.get? b = some o → s₅.heap.get? b = some o := fun b o e => st25.kp b o (st₀.keep b o (fun h => h) e)
  have G₅ : EnvOk Y ⟨q, M, fun b => V b ∨ (own' b ∨ b = C ∨ b = D)⟩ s₅ := G.cover (fun b w => by
      rcases w with w | w | w
      · exact hown b w
      · exact w ▸ nn C hC2
      · exact w ▸ nn D hD2) st05 (fun b w => by
      rcases w with w | w | w
      · obtain ⟨o, e⟩ := itr.here own' 0 s₂ hJ0 b w; exact ⟨o, st25.kp b o e⟩
      · exact ⟨oC, w ▸ hp5 ▸ hoC⟩
      · exact ⟨_, w ▸ hp5 ▸ hacc⟩)
  have hns5 : ∃ m, s₅.heap.Ns C m := ⟨_, oC, esC, epC, by rw [hp5]; exact hoC, hnC⟩
  have hMC : ¬ M C := fun m => hnoV C (G.mv C m) (nn C hC2)
  have G₆ := G₅.enter sh.kind sh.sub (.inr (.inr (.inl rfl))) hMC (fun u => hnoV C (G.uv C u) (nn C hC2)) hns5
  have hJ5 : J own' 0 s₅ := itr.frame own' 0 s₂ s₅ None (fun _ w => w.elim) hJ0 st25
  have hT5 : Top Y.P (fun b => V b ∨ (own' b ∨ b = C ∨ b = D)) s₅.heap (.dict [] []) D := ⟨0, #[], hp5 ▸ hacc, by simp, by simp, rfl⟩
  have loop : codeAny Y.mo A (.compLoop (.DictComp kx vx [⟨t, iter, [], 0⟩] scope pos) 0 it (.ref D) (compEnvC scope cl C Y.env)) (RR (.ref D) C) s₅ := by
    refine dcomp_loop (Y := Y.comp scope cl C) hnd hn1 hz itr ht (body C) hA G₆ (.inr (.inr (.inr rfl))) (fun w => w.elim (fun m => hnoV D (G.mv D m) (nn D hD2)) hDC) (fun b w => ?_) (fun b w => ?_) (.inr hD2) (fun b w => .inr (.inl w))
      (fun b u w => hnoV b (G.uv b u) (hown b w)) (fun b m w => m.elim (fun m => hnoV b (G.mv b m) (hown b w)) fun m => ownC (m ▸ w)) ownD hJ5 hT5 fun s₆ G₆ st6 hfin hT => hRR D C s₆ ⟨nn D hD2, nn C hC2, hDC, ?_, G₆.ns, ?_⟩
    · rcases w with w | w | w | w
      · exact .inl (.inl w)
      · exact .inr w
      · exact .inl (.inr (w ▸ hC2))
      · exact .inl (.inr (w ▸ hD2))
    · rcases w with w | w
      · exact .inl (G.mv b w)
      · exact .inr (w ▸ hC2)
    · refine ((((st₀.mono (fun _ w => w.elim)).trans ((st25.g gn).mono fun _ w => w.elim)).trans st6).close hgn hfin).old fun b w => .inr ?_
      rcases w with w | w | w
      · have w' : b = C := w; exact w' ▸ nn C hC2
      · exact w ▸ nn D hD2
      · exact hown b w
    · refine Top.at (fun b o n e => ⟨fun w => n ?_, e⟩) hT fun o e => e
      rcases w with w | w
      · exact ⟨.inl w, fun o => hnoV b w (hown b o)⟩
      · exact ⟨.inr (.inr (.inl w)), w ▸ ownC⟩
  exact codeAny_compStart_dict loop (itr.self _ _ _ _ _ 0 hJ5 loop)

theorem PE.dictcomp {kx vx t iter : Expr} {scope : Scope} {cl : List (Str × Addr)} {pos : Pos} {nm : IK} {P : PV → Prop} (sh : CompShape Y scope cl) (ht : TOk nm t)
    (h : IterE Y q nm iter fun l => ∃ xs g, l = xs.map .str ∧ DictOk Y q kx vx t scope cl xs g ∧ P (.dict (xs.map .str) (xs.map g))) (hs : ∀ x, foldedSetIterable iter Y.env x = pure x) :
    PE Y q (.DictComp kx vx [⟨t, iter, [], 0⟩] scope pos) P := fun M V A E s hA G => by
  show wpAny _ A (comprehension (.DictComp kx vx [⟨t, iter, [], 0⟩] scope pos) scope Y.env (firstIterPos [⟨t, iter, [], 0⟩] pos) newDict (firstAsync [⟨t, iter, [], 0⟩]) (firstIter [⟨t, iter, [], 0⟩] Y.env)) _ E s
  refine wpAny_comprehension_free (use := none) rfl hs sh.clos sh.kind sh.names (wpAny_mono (h M V A E s hA G) (fun xv s₁ h₁ => wpAny_mono h₁ (fun it s₂ h₂ => ?_) fun _ _ e => e) fun _ _ e => e)
  obtain ⟨l, own', gn, J, ⟨xs, g, rfl, hok, hP⟩, itr, hJ0, st₀, hown, hgn⟩ := h₂
  refine dcomp_core (RR := fun acc C => compPost Y.mo A E none _ acc C) sh ht hA G hok itr hJ0 st₀ hown hgn fun D C s₆ ce => ?_
  obtain ⟨m, hm⟩ := ce.ns
  refine ⟨m, hm, fun h' hs' => ?_⟩
  have stC : Step (fun b => b = C) s₆ { s₆ with heap := h' } := Step.same (t := s₆.toks) hs' rfl
  have hnoV : ∀ b, V b → s.heap.get? b ≠ none := fun b w e => by obtain ⟨o, e'⟩ := G.bnd b w; rw [e] at e'; cases e'
  have hsm : (D == sysModules) = false := by
    cases e : D == sysModules with
    | false => rfl
    | true =>
      have e := eq_of_beq e
      obtain ⟨o, ho⟩ := Y.sysm
      have := G.keep _ _ ho
      rw [← e, ce.d0] at this
      cases this
  have ht : Top Y.P V h' (.dict (xs.map .str) (xs.map g)) D := Top.at (fun b o n e => ⟨fun w => n (.inl w), stC.keep b o (fun w => n (.inr w)) e⟩) ce.top fun o e => stC.keep D o ce.ne e
  exact ⟨((ce.st.all _).trans stC).old fun b w => .inr (w ▸ ce.c0), _, hP, ht.val (fun w => hnoV D w ce.d0) hsm⟩
end
end Mine
namespace Mine
open PySem PySem.W PySem.Calls PyProof.Rows

def symK (x : Str) : SK := (x, decide (x ∈ termN))
def mS (S : List Str) : PV := .dict (S.map .str) (S.map fun x => sKey (symK x))
theorem swaps_false {kx vx : Expr} {gens : List Comprehension} {scope : Scope} {cpos xp : Pos} {x : Str} {line : Nat} {env : Env} (hk : env.kindOf x = some .cell) : swapsWith (.DictComp kx vx gens scope cpos) (some (.Name x xp)) line env = pure false := by
  unfold swapsWith
  show (pure (env.blockKind == .function && env.kindOf x == some .local && xp.line == cpos.line && !(scope.names.any fun (n, k) => n == x && (k == .local || k == .cell))) : Sem Bool) = pure false
  have : (env.kindOf x == some .local) = false := by rw [hk]; rfl
  rw [this, Bool.and_false, Bool.false_and, Bool.false_and]
structure B8 (R : List Rl) (E : List Str) (F L B : List Pr) (S : List Str) (f g : Str → List Str) (q : Vw) : Prop extends B6 R E F L B S S S f g q where
  made : q.ρ "made" = some (.fz (mS S))
def names9 : List Str := ["rules", "empty", "firsts", "lasts", "besides", "symbols", "first", "follow", "made"]
theorem B8.set {R : List Rl} {E : List Str} {F L B : List Pr} {S : List Str} {f g : Str → List Str} {q : Vw} {x : Str} {sl : Slot} (b : B8 R E F L B S f g q) (h : x ∉ names9) : B8 R E F L B S f g (q.set x sl) :=
  ⟨b.toB6.set fun w => h ((by decide : ∀ y ∈ names8, y ∈ names9) _ w), set_there b.made (fun e => h (e ▸ by decide))⟩

def kR (R : List Rl) : List KR := R.map fun r => (symK r.1, r.2.map symK)
def mkC (p : Rl × Nat) : CR := ⟨(symK p.1.1, p.1.2.map symK), .int p.2, .none, optRow⟩
def mkCs (R : List Rl) : List CR := R.zipIdx.map mkC
theorem ksOf_mk (R : List Rl) : ksOf (mkCs R) = kR R := by
  unfold ksOf mkCs kR
  rw [List.map_map]
  have : ((fun x : CR => x.k) ∘ mkC) = (fun r : Rl => ((symK r.1, r.2.map symK) : KR)) ∘ Prod.fst := rfl
  rw [this, ← List.map_map, List.zipIdx_map_fst]
theorem enum_zip (R : List Rl) : enumPV 0 (R.map encR) = R.zipIdx.map fun p => .tup [.int p.2, encR p.1] := by
  refine List.ext_getElem? fun k => ?_
  rw [enumPV_get, List.getElem?_map, List.getElem?_map, List.getElem?_zipIdx]
  cases R[k]? with
  | none => rfl
  | some r => simp

section
variable {X : Wk} {Y : Act}
theorem pe_sym {Y' : Act} {q : Vw} {x : Str} {p1 p2 p3 p4 p5 p6 p7 pt pos px q1 q2 q3 : Pos} {k k1 k2 k3 : Nat} (hw : Y'.toWd = X.toWd) (hn : 16 ≤ Y'.n) (ht : Y'.env.kindOf "Terminal" = some .globalImplicit) (hnt : Y'.env.kindOf "NonTerminal" = some .globalImplicit)
    (hx : q.ρ "x" = some (.fz (.str x))) {P : PV → Prop} (hP : P (sKey (symK x))) :
    PE Y' q (.IfExp (.Compare (.Name "x" px) [.In] [.Tuple [.Constant (.str "X") k1 q1, .Constant (.str "Y") k2 q2, .Constant (.str "Z") k3 q3] k pt] pos)
      (.Call (.Name "Terminal" p1) [.Name "x" p2] [] p3) (.Call (.Name "NonTerminal" p4) [.Name "x" p5] [] p6) p7) P := by
  refine PE.ite (pt_term (by omega) hx fun b hb => ⟨fun e => ?_, fun e => ?_⟩)
  · have e' : sKey (symK x) = .sym x true := by
      show PV.sym x (decide (x ∈ termN)) = _
      rw [decide_eq_true (hb.mp e)]
    exact PE.call (fnis_g (X := X) hw ht (by rfl)) (hw ▸ .inl (by rw [X.hK]; rfl)) (PE.name hx (FC.cast hw (fc_Terminal.mono (by omega) fun d hd => by rw [hd, ← e']; exact hP)))
  · have e' : sKey (symK x) = .sym x false := by
      show PV.sym x (decide (x ∈ termN)) = _
      rw [decide_eq_false fun w => by rw [hb.mpr w] at e; cases e]
    exact PE.call (fnis_g (X := X) hw hnt (by rfl)) (hw ▸ .inl (by rw [X.hK]; rfl)) (PE.name hx (FC.cast hw (fc_NonTerminal.mono (by omega) fun d hd => by rw [hd, ← e']; exact hP)))

theorem pe_rule {Y' : Act} {q : Vw} {cm : Addr} {S : List Str} {r : Rl} {k : Nat} {p1 p2 p3 p4 p5 p6 p7 p8 p9 pc pk pos : Pos} {scope : Scope} (hw : Y'.toWd = X.toWd) (hn : 16 ≤ Y'.n) (hf : Y'.env.scope.kind = .function) (km : Y'.env.kindOf "made" = some .cell) (hcm : Y'.env.cells.lookup ("made" : Str) = some cm)
    (kr : Y'.env.kindOf "Rule" = some .globalImplicit) (hsn : scope.names = ([(".0", .local), ("x", .local), ("made", .free)] : List (Str × NameKind))) (hsk : scope.kind = .function)
    (gm : q.ρ "made" = some (.fz (mS S))) (go : q.ρ "origin" = some (.fz (.str r.1))) (ge : q.ρ "expansion" = some (.fz (.list (r.2.map .str)))) (gk : q.ρ "k" = some (.fz (.int k)))
    (hnd : S.Nodup) (hr : r.1 ∈ S) (hx : ∀ x ∈ r.2, x ∈ S) (hl : r.2.length ≤ 4) :
    PE Y' q (.Call (.Name "Rule" p1) [.Subscript (.Name "made" p2) (.Name "origin" p3) p4, .ListComp (.Subscript (.Name "made" p5) (.Name "x" p6) p7) [⟨.Name "x" p8, .Name "expansion" p9, [], 0⟩] scope pc, .Name "k" pk] [] pos) fun d => [encQ (mkC (r, k))] = [d] := by
  have hnd' : (S.map PV.str).Nodup := map_nodupS hnd
  have hn5 : 4 + 1 ≤ Y'.n := by omega
  obtain ⟨jo, ho1, ho2⟩ := at_of (g := fun x => sKey (symK x)) hr
  refine PE.call (fnis_g (X := X) hw kr (by rfl)) (show Callee Y'.toWd (.ref 423) by rw [hw]; exact .inl (by rw [X.hK]; rfl)) (PE.dget (dkey_str Y'.toWd 4) hn5 (PM.dict (PE.name gm rfl)) map_strP hnd' (PE.name go ⟨⟨_, rfl⟩, jo, _, ho1, ho2,
    PE.listcomp (nm := .seq) (comp_shape1 "made" hcm (by rw [hsn]; decide) (by rw [hsn]; decide) hsk (by rw [hsn]; decide)) (.inl ⟨by decide, _, _, rfl⟩) (IterE.seq (PE.name ge ⟨tList, _, rfl, .inl rfl, _,
      compok_name r.2 PV.str (fun x => [sKey (symK x)]) (by rw [flat_one, List.length_map]; omega) (by rw [hsn]; rfl)
        (fun C x q'' hx' i1 i2 => pts_elt (let ⟨j, h1, h2⟩ := at_of (g := fun x => sKey (symK x)) (hx x hx'); PE.dget (dkey_str Y'.toWd 4) hn5 (PM.dict (PE.name ((i2 _ (by decide)).trans ((inh_cell hf km hcm (by rw [hsn]; rfl)).trans gm)) rfl)) map_strP hnd' (PE.name i1 ⟨⟨_, rfl⟩, j, _, h1, h2, rfl⟩))), ?_⟩)) (fun _ => rfl)⟩))
  rw [flat_one]
  refine PE.name gk (FC.cast hw ((fc_Rule (by rw [List.length_map]; omega)).mono (by omega) fun d hd => ?_))
  rw [hd]
  unfold encQ mkC
  dsimp only
  rw [List.map_map]
  rfl

theorem lawT8 {q : Vw} {Φ : AF → Vw → Prop} (L : LE X Y) {R : List Rl} {E S : List Str} {F La B : List Pr} {f g : Str → List Str} (hS : IsSy R S) (hSl : S.length ≤ 60) (b : B6 R E F La B S S S f g q)
    (K : ∀ q', B8 R E F La B S f g q' → PS Y q' ((lawBody X.w.params).drop 9) Φ) : PS Y q ((lawBody X.w.params).drop 8) Φ := by
  refine PS.seq (PS1.assign L.sm (PE.dictcomp (nm := .seq) (comp_nofree (by decide) (by decide) rfl (by decide)) (.inl ⟨by decide, _, _, rfl⟩) (IterE.seq (PE.name b.symbols ⟨tList, _, rfl, .inl rfl, S, fun x => sKey (symK x), rfl,
    ⟨by omega, hS.2.1, by have := L.n; omega, fun C x hx => ⟨_, PA.name (.inl (ck_other (by decide) (by rfl))), Vw.le_set (inh_none (ck_other (by decide) (by rfl))), PE.name set_here rfl,
      pe_sym (X := X) (Y' := Y.comp _ _ C) L.wd L.n (ck_other (by decide) (by rfl)) (ck_other (by decide) (by rfl)) set_here rfl⟩⟩, rfl, ?_⟩)) (fun _ => rfl)) (swaps_false (L.k (by rfl))))
  exact K _ ⟨b.set (by decide), set_here⟩

structure B9 (R : List Rl) (E : List Str) (F L B : List Pr) (S : List Str) (f g : Str → List Str) (Sk : List SK) (ct : Cts) (q : Vw) : Prop extends B8 R E F L B S f g q where
  fst : q.ρ "FIRST" = some (.fz (.dict (Sk.map sKey) (Sk.map fun k => .oset (ct (.fst (sKey k))))))
  fol : q.ρ "FOLLOW" = some (.fz (.dict (Sk.map sKey) (Sk.map fun k => .oset (ct (.fol (sKey k))))))
  nul : q.ρ "NULLABLE" = some (.fz (.oset (ct .nul)))

theorem lawT9 {q : Vw} {Φ : AF → Vw → Prop} (L : LE X Y) {R : List Rl} {E S : List Str} {F La B : List Pr} {f g : Str → List Str} (hR : Good R) (hS : IsSy R S) (hSl : S.length ≤ 60) (b : B8 R E F La B S f g q)
    (K : ∀ q' Sk ct, Sk.Nodup → (∀ k, k ∈ Sk ↔ Occ (kR R) k) → Exact (kR R) ct → Sound (kR R) ct → (∀ k ∈ keysOf Sk, (ct k).Nodup) → B9 R E F La B S f g Sk ct q' → PS Y q' ((lawBody X.w.params).drop 10) Φ) : PS Y q ((lawBody X.w.params).drop 9) Φ := by
  have hRl := hR.1
  have hnd : (S.map PV.str).Nodup := map_nodupS hS.2.1
  obtain ⟨cm, hcm⟩ := L.cm
  have km : Y.env.kindOf "made" = some .cell := L.k (by rfl)
  have hn5 : 4 + 1 ≤ Y.n := by have := L.n; omega
  have hcalc := fc_calc (X := X) (mkCs R) (by
    rw [ksOf_mk]
    have h1 : (mkCs R).length ≤ 6 := by unfold mkCs; rw [List.length_map, List.length_zipIdx]; exact hRl
    have h2 := flat_le (g := fun r : KR => r.2) (c := 4) (l := kR R) fun r hr => by
      obtain ⟨r', hr', rfl⟩ := List.mem_map.mp hr
      rw [List.length_map]
      exact (hR.2 r' hr').2.1
    have h3 : (kR R).length ≤ 6 := by unfold kR; rw [List.length_map]; exact hRl
    omega)
  refine PS.seq (PS1.assignT (PE.call (L.g (x := "calculate_sets") (v := .ref 117) (by rfl) (by rfl)) (L.cal (.inl (by rw [X.hK]; rfl)))
    (PE.listcomp (nm := .enum) (comp_shape1 "made" hcm (by decide) (by decide) rfl (by decide)) (.inr ⟨_, _, _, rfl⟩) (IterE.call (L.b (x := "enumerate") (v := .type "enumerate") (by rfl) (by rfl) (by rfl)) (.inr (.inl ⟨_, rfl⟩)) (PE.name b.rules (fci_enum (.inl rfl) ?_))) (fun _ => rfl))) (by rfl) (by rfl))
  rw [enum_zip]
  refine ⟨_, compok_gen R.zipIdx (fun p => .tup [.int p.2, encR p.1]) (fun p => [encQ (mkC p)]) (by rw [flat_one, List.length_map, List.length_zipIdx]; omega) fun C p hp => ?_, ?_⟩
  rotate_left
  · rw [flat_one]
    have e : (R.zipIdx.map fun p => encQ (mkC p)) = (mkCs R).map encQ := by unfold mkCs; rw [List.map_map]; rfl
    rw [e]
    refine FC.cast L.wd (hcalc.mono L.n ?_)
    rintro _ ⟨Sk, ct, h1, h2, h3, h4, h5, rfl⟩
    rw [ksOf_mk] at h2 h3 h4
    refine ⟨_, PA.tup ⟨_, PA.name (L.loc (by rfl)), _, PA.name (L.loc (by rfl)), _, PA.name (L.loc (by rfl)), rfl⟩, rfl, K _ Sk ct h1 h2 h3 h4 h5 ⟨((b.set (by decide)).set (by decide)).set (by decide), set_there (set_there set_here), set_there set_here, set_here⟩⟩
  obtain ⟨r, k⟩ := p
  have hrR : r ∈ R := by
    have := List.mem_map_of_mem (f := Prod.fst) hp
    rwa [List.zipIdx_map_fst] at this
  have hr4 := (hR.2 r hrR).2.1
  have hrS : r.1 ∈ S := (hS.2.2 _).mpr (.inl ⟨r, hrR, rfl⟩)
  have hxS : ∀ x ∈ r.2, x ∈ S := fun x hx => (hS.2.2 _).mpr (.inr ⟨r, hrR, hx⟩)
  have n1 : ∀ {q : Vw} {env : Env} {scope : Scope} {cl : List (Str × Addr)} {C : Addr} {x : Str}, scope.names.lookup x = some .local → (inh q env (compEnvC scope cl C env)).ρ x = none := fun h => inh_none (ck_other (by decide) h)
  refine ⟨_, PA.tup ⟨_, PA.name (.inl (ck_other (by decide) (by rfl))), _, PA.tup ⟨_, PA.name (.inl (ck_other (by decide) (by rfl))), _, PA.name (.inl (ck_other (by decide) (by rfl))), rfl⟩, rfl⟩,
    Vw.le_trans (Vw.le_set (n1 (by rfl))) (Vw.le_trans (Vw.le_set (set_there (n1 (by rfl)))) (Vw.le_set (set_there (set_there (n1 (by rfl)))))), ?_⟩
  refine pts_elt (pe_rule (X := X) (Y' := Y.comp _ _ C) L.wd L.n (by rfl) (ck_cell L.kf km (by rfl)) (cc_cell hcm (by rfl)) (ck_other (by decide) (by rfl)) (by rfl) (by rfl) ?_ (set_there set_here) set_here (set_there (set_there set_here)) hS.2.1 hrS hxS hr4)
  exact set_there (set_there (set_there ((inh_cell L.kf km hcm (by rfl)).trans b.made)))
end
end Mine
namespace Mine
open PySem PySem.W PySem.Calls PyProof.Rows

/-- what the plain law has to say -/
structure PL (E S : List Str) (f g : Str → List Str) (Sk : List SK) (ct : Cts) : Prop where
  nd : Sk.Nodup
  len : Sk.length = S.length
  mem : ∀ x ∈ S, symK x ∈ Sk
  nul : ∃ xs : List Str, ct .nul = xs.map (fun x => sKey (x, false)) ∧ xs.length < 64 ∧ sortL ltB xs = E
  fst : ∀ x ∈ S, ∃ xs : List Str, ct (.fst (sKey (symK x))) = xs.map (fun x => sKey (x, true)) ∧ xs.length < 64 ∧ sortL ltB xs = f x
  fol : ∀ x ∈ S, ∃ xs : List Str, ct (.fol (sKey (symK x))) = xs.map (fun x => sKey (x, true)) ∧ xs.length < 64 ∧ ∀ l : List Str, sortedS l = true → l.Perm (g x) → sortL ltB xs = l
  lf : ∀ x ∈ S, (f x).length ≤ 3 ∧ (g x).length ≤ 3

section
variable {X : Wk} {Y : Act}
theorem pe_pairs {q : Vw} {nm : IK} {it : Expr} {v : Str} {b : Bool} {k : Nat} {p1 p2 p3 p4 p5 p6 p7 p8 p9 : Pos} {scope : Scope} {P : PV → Prop} (L : LE X Y) (hv : scope.names = ([(".0", .local), (v, .local)] : List (Str × NameKind))) (hsk : scope.kind = .function)
    (hv0 : v ≠ ".0") (hnm : nm ≠ .enum) (hd : (v == ("__debug__" : Str)) = false) (hc : (v == ("__classdict__" : Str)) = false)
    (hit : IterE Y q nm it fun l => ∃ xs : List Str, l = xs.map (fun x => sKey (x, b)) ∧ xs.length < 64 ∧ P (.list ((sortL ltB xs).map (encB b)))) (hf : ∀ x, foldedSetIterable it Y.env x = pure x) :
    PE Y q (.Call (.Name "sorted" p1) [.ListComp (.Tuple [.Attribute (.Name v p2) "name" p3, .Attribute (.Name v p4) "is_term" p5] k p6) [⟨.Name v p7, it, [], 0⟩] scope p8] [] p9) P := by
  have h0 : (v == (".0" : Str)) = false := by simpa using hv0
  have hl : scope.names.lookup v = some .local := by
    rw [hv, List.lookup_cons, h0, List.lookup_cons, beq_self_eq_true]
  refine PE.call (L.b (x := "sorted") (v := .builtin "sorted") (by rfl) (by rfl) (by rfl)) (.inr (.inr ⟨_, rfl⟩)) (PE.listcomp (nm := nm) (comp_nofree (by rw [hv]; intro y hy; simp only [List.mem_cons, List.not_mem_nil, or_false] at hy; rcases hy with rfl | rfl <;> exact fun e => nomatch e) (by rw [hv]; intro y hy; simp only [List.mem_cons, List.not_mem_nil, or_false] at hy; rcases hy with rfl | rfl <;> exact fun e => nomatch e) hsk
    (fun y hy _ => by
      rw [hv] at hy
      simp only [List.mem_cons, List.not_mem_nil, or_false] at hy
      rcases hy with rfl | rfl
      · rw [hv]; rfl
      · exact hl)) (.inl ⟨hnm, _, _, rfl⟩) (fun M V A E s hA G => wpAny_mono (hit M V A E s hA G) (fun x s₁ h₁ => wpAny_mono h₁ (fun it s₂ h₂ => ?_) fun _ _ x => x) fun _ _ x => x) hf)
  obtain ⟨l, own', gn, J, ⟨xs, rfl, hz, hP⟩, r⟩ := h₂
  refine ⟨_, own', gn, J, ⟨_, compok_name xs (fun x => sKey (x, b)) (fun x => [encB b x]) (by rw [flat_one, List.length_map]; omega) hl
    (fun C x q'' hx i1 i2 => pts_elt (PE.tup (PE.attr (X := X) L.wd (by have := L.n; show 7 ≤ Y.n; omega) row_sym desc_name (by decide) ⟨by rfl, by rfl, by rfl⟩ (PE.name i1 ⟨[.str x, .bool b], .str x, rfl, rfl,
      PE.attr (X := X) L.wd (by have := L.n; show 7 ≤ Y.n; omega) row_sym desc_term (by decide) ⟨by rfl, by rfl, by rfl⟩ (PE.name i1 ⟨[.str x, .bool b], .bool b, rfl, rfl, by simp, rfl⟩ hd hc)⟩ hd hc)))), ?_⟩, r⟩
  rw [flat_one]
  exact fc_sortedB hz hP

theorem lawT10 {q : Vw} {Φ : AF → Vw → Prop} (L : LE X Y) {R : List Rl} {E S : List Str} {F La B : List Pr} {f g : Str → List Str} {Sk : List SK} {ct : Cts} (hE : E.length ≤ 3) (hSl : S.length ≤ 60) (pl : PL E S f g Sk ct) (b : B9 R E F La B S f g Sk ct q)
    (K : PS Y q ((lawBody X.w.params).drop 11) Φ) : PS Y q ((lawBody X.w.params).drop 10) Φ := by
  have hlen : ((Sk.map sKey).length : Int) = ((S.map PV.str).length : Int) := by rw [List.length_map, List.length_map, pl.len]
  have fl : FnIs Y "len" (.builtin "len") := L.b (by rfl) (by rfl) (by rfl)
  refine PS.cons (Ψ := fun fl q' => fl = .next ∧ q' = q) (PS1.if_ (PT.or3 (PT.cmp (pe_pairs (b := false) L (by rfl) (by rfl) (by decide) (by decide) (by decide) (by decide) (IterE.oset (X := X) L.wd (PE.name b.nul ⟨_, rfl, ?_⟩)) (fun _ => rfl)))))
    (fun q' h => h.2 ▸ K) (fun f q' hne h => absurd h.1 hne)
  obtain ⟨xs, e1, hz, e2⟩ := pl.nul
  refine ⟨xs, e1, hz, PE.listcomp (nm := .seq) (comp_nofree (by decide) (by decide) rfl (by decide)) (.inl ⟨by decide, _, _, rfl⟩) (IterE.seq (PE.name b.empty ⟨tList, _, rfl, .inl rfl, _,
    compok_name E PV.str (fun x => [encB false x]) (by rw [flat_one, List.length_map]; omega) (by rfl) (fun C x q'' hx i1 i2 => pts_elt (PE.tup (PE.name i1 (PE.cbool ⟨by simp, rfl⟩)))), ?_⟩)) (fun _ => rfl)⟩
  rw [flat_one, e2]
  refine op_ne_sameB ⟨false, rfl, (fun e => nomatch e), fun _ => ?_⟩
  refine PT.cmp (PE.lenD fl (PM.dict (PE.name b.fst rfl)) (by rw [List.length_map, pl.len]; omega) (PE.call fl (.inr (.inr ⟨_, rfl⟩)) (PE.name b.symbols (fc_len_list (by rw [List.length_map]; omega) (op_ne ⟨_, rfl, (fun e => ?_), fun _ => ?_⟩)))))
  · rw [hlen] at e; simp at e
  refine PT.cmp (PE.lenD fl (PM.dict (PE.name b.fol rfl)) (by rw [List.length_map, pl.len]; omega) (PE.call fl (.inr (.inr ⟨_, rfl⟩)) (PE.name b.symbols (fc_len_list (by rw [List.length_map]; omega) (op_ne ⟨_, rfl, (fun e => ?_), fun _ => PS.nil ⟨rfl, rfl⟩⟩)))))
  rw [hlen] at e; simp at e

def names12 : List Str := ["rules", "empty", "firsts", "lasts", "besides", "symbols", "first", "follow", "made", "FIRST", "FOLLOW", "NULLABLE"]
theorem B9.set {R : List Rl} {E : List Str} {F L B : List Pr} {S : List Str} {f g : Str → List Str} {Sk : List SK} {ct : Cts} {q : Vw} {x : Str} {sl : Slot} (b : B9 R E F L B S f g Sk ct q) (h : x ∉ names12) : B9 R E F L B S f g Sk ct (q.set x sl) :=
  ⟨b.toB8.set fun w => h ((by decide : ∀ y ∈ names9, y ∈ names12) _ w), set_there b.fst (fun e => h (e ▸ by decide)), set_there b.fol (fun e => h (e ▸ by decide)), set_there b.nul (fun e => h (e ▸ by decide))⟩
theorem atK {S : List SK} {x : SK} {g : SK → PV} (h : x ∈ S) : ∃ j : Nat, (S.map sKey)[j]? = some (sKey x) ∧ (S.map g)[j]? = some (g x) := by
  obtain ⟨j, hj⟩ := List.getElem?_of_mem h
  exact ⟨j, by rw [List.getElem?_map, hj]; rfl, by rw [List.getElem?_map, hj]; rfl⟩

theorem lawT11 {q : Vw} {P : PV → Prop} (L : LE X Y) {R : List Rl} {E S : List Str} {F La B : List Pr} {f g : Str → List Str} {Sk : List SK} {ct : Cts} (hSn : S.Nodup) (hSl : S.length ≤ 60) (pl : PL E S f g Sk ct) (b : B9 R E F La B S f g Sk ct q)
    (hP : P (.bool true)) : PS Y q ((lawBody X.w.params).drop 11) (Gives P) := by
  have hnd : (S.map PV.str).Nodup := map_nodupS hSn
  have hn5 : 4 + 1 ≤ Y.n := by have := L.n; omega
  have D : DKey Y.toWd 4 isSymPV := by rw [L.wd]; exact dkey_sym X (by decide)
  have fs : FnIs Y "sorted" (.builtin "sorted") := L.b (by rfl) (by rfl) (by rfl)
  refine PS.cons (Ψ := fun fl q' => fl = .next) (PS1.for_ (nm := .seq) (R := fun l => l = S.map PV.str) (IterE.seq (PE.name b.symbols ⟨tList, _, rfl, .inl rfl, rfl⟩)) (.inl ⟨by decide, _, _, rfl⟩) ?_) (fun q' h => PS.ret (PE.cbool hP)) (fun f q' hne h => absurd h hne)
  rintro _ rfl
  refine ⟨fun i q' => B9 R E F La B S f g Sk ct q', b, ?_, fun q' h => rfl⟩
  clear b
  rintro i q₁ d hd b
  rw [List.getElem?_map] at hd
  cases hx : S[i]? with
  | none => rw [hx] at hd; cases hd
  | some x =>
  rw [hx] at hd
  cases hd
  have hxS := List.mem_of_getElem? hx
  refine ⟨_, PA.name L.sx, ?_⟩
  have b := b.set (x := "x") (sl := .fz (.str x)) (by decide)
  have gx : (q₁.set "x" (.fz (.str x))).ρ "x" = some (.fz (.str x)) := set_here
  generalize q₁.set "x" (.fz (.str x)) = q₂ at b gx ⊢
  refine PS.seq (PS1.assign (L.loc (by rfl)) (pe_sym (X := X) L.wd L.n (L.k (by rfl)) (L.k (by rfl)) gx ⟨rfl, ?_⟩) (by rfl))
  have b := b.set (x := "one") (sl := .fz (sKey (symK x))) (by decide)
  have gx := set_there (x := "one") (sl := .fz (sKey (symK x))) gx (by decide)
  have g1 : (q₂.set "one" (.fz (sKey (symK x)))).ρ "one" = some (.fz (sKey (symK x))) := set_here
  generalize q₂.set "one" (.fz (sKey (symK x))) = q₃ at b gx g1 ⊢
  obtain ⟨jf, hf1, hf2⟩ := atK (g := fun k => PV.oset (ct (.fst (sKey k)))) (pl.mem x hxS)
  obtain ⟨jl, hl1, hl2⟩ := atK (g := fun k => PV.oset (ct (.fol (sKey k)))) (pl.mem x hxS)
  obtain ⟨jx, hj1, hj2⟩ := at_of (g := fun x => PV.list ((f x).map .str)) hxS
  obtain ⟨jy, hy1, hy2⟩ := at_of (g := fun x => PV.list ((g x).map .str)) hxS
  obtain ⟨xs, e1, hz, e2⟩ := pl.fst x hxS
  obtain ⟨ys, e3, hz', e4⟩ := pl.fol x hxS
  have hl3 := pl.lf x hxS
  refine PS.cons (Ψ := fun fl q' => fl = .next ∧ q' = q₃) (PS1.if_ (PT.or_ (PT.cmp (pe_pairs (b := true) L (by rfl) (by rfl) (by decide) (by decide) (by decide) (by decide)
    (IterE.oset (X := X) L.wd (PE.dget D hn5 (PM.dict (PE.name b.fst rfl)) mapKey_ok (mapKey_nodup pl.nd) (PE.name g1 ⟨⟨_, rfl⟩, jf, _, hf1, hf2, _, rfl, xs, e1, hz, ?_⟩))) (fun _ => rfl))))) (fun q' h => PS.nil (h.2 ▸ b)) (fun f q' hne h => absurd h.1 hne)
  refine PE.listcomp (nm := .seq) (comp_nofree (by decide) (by decide) rfl (by decide)) (.inl ⟨by decide, _, _, rfl⟩) (IterE.seq (PE.dget (dkey_str Y.toWd 4) hn5 (PM.name b.first) map_strP hnd (PE.name gx ⟨⟨_, rfl⟩, jx, _, hj1, hj2, tList, _, rfl, .inl rfl, _,
    compok_name (f x) PV.str (fun x => [encB true x]) (by rw [flat_one, List.length_map]; omega) (by rfl) (fun C x q'' hx i1 i2 => pts_elt (PE.tup (PE.name i1 (PE.cbool ⟨by simp, rfl⟩)))), ?_⟩))) (fun _ => rfl)
  rw [flat_one, e2]
  refine op_ne_sameB ⟨false, rfl, (fun e => nomatch e), fun _ => ?_⟩
  refine PT.cmp (pe_pairs (b := true) L (by rfl) (by rfl) (by decide) (by decide) (by decide) (by decide)
    (IterE.oset (X := X) L.wd (PE.dget D hn5 (PM.dict (PE.name b.fol rfl)) mapKey_ok (mapKey_nodup pl.nd) (PE.name g1 ⟨⟨_, rfl⟩, jl, _, hl1, hl2, _, rfl, ys, e3, hz', ?_⟩))) (fun _ => rfl))
  refine PE.listcomp (nm := .seq) (comp_nofree (by decide) (by decide) rfl (by decide)) (.inl ⟨by decide, _, _, rfl⟩) (IterE.seq (PE.call fs (.inr (.inr ⟨_, rfl⟩)) (PE.dget (dkey_str Y.toWd 4) hn5 (PM.name b.follow) map_strP hnd (PE.name gx ⟨⟨_, rfl⟩, jy, _, hy1, hy2,
    fc_sorted (fun d hd => by obtain ⟨y, _, rfl⟩ := List.mem_map.mp hd; exact ⟨_, rfl⟩) (by rw [List.length_map]; omega) ?_⟩)))) (fun _ => rfl)
  rintro _ ⟨ss, rfl, hs, hp⟩
  have hp : ss.Perm (g x) := by
    have := hp.map (fun d => match d with | .str x => x | _ => ⟨#[]⟩)
    simpa [Function.comp_def] using this
  refine ⟨tList, _, rfl, .inl rfl, _, compok_name ss PV.str (fun x => [encB true x]) (by rw [flat_one, List.length_map]; have := hp.length_eq; omega) (by rfl) (fun C x q'' hx i1 i2 => pts_elt (PE.tup (PE.name i1 (PE.cbool ⟨by simp, rfl⟩)))), ?_⟩
  rw [flat_one, e4 ss hs hp]
  exact op_ne_sameB ⟨false, rfl, (fun e => nomatch e), fun _ => PS.nil ⟨rfl, rfl⟩⟩
end
end Mine
namespace Mine
open PySem PySem.W PySem.Calls PyProof.Rows

def ord3 : List Str := ["a", "b", "s"]
theorem few {α : Type} {l : List α} (h : l.length ≤ 3) : l = [] ∨ (∃ a, l = [a]) ∨ (∃ a b, l = [a, b]) ∨ ∃ a b c, l = [a, b, c] := by
  match l, h with
  | [], _ => exact .inl rfl
  | [a], _ => exact .inr (.inl ⟨a, rfl⟩)
  | [a, b], _ => exact .inr (.inr (.inl ⟨a, b, rfl⟩))
  | [a, b, c], _ => exact .inr (.inr (.inr ⟨a, b, c, rfl⟩))
  | _ :: _ :: _ :: _ :: _, h => simp at h
/-- a finite check on short lists -/
theorem by_few {L : List Str} {P : List Str → Prop} (hL : L.length ≤ 3) (h0 : P []) (h1 : ∀ a ∈ L, P [a]) (h2 : ∀ a ∈ L, ∀ b ∈ L, [a, b].Nodup → P [a, b]) (h3 : ∀ a ∈ L, ∀ b ∈ L, ∀ c ∈ L, [a, b, c].Nodup → P [a, b, c]) :
    ∀ xs : List Str, xs.Nodup → (∀ x ∈ xs, x ∈ L) → P xs := fun xs hn hs => by
  rcases few (Nat.le_trans (nodup_len xs L hn hs) hL) with rfl | ⟨a, rfl⟩ | ⟨a, b, rfl⟩ | ⟨a, b, c, rfl⟩
  · exact h0
  · exact h1 a (hs _ (by simp))
  · exact h2 a (hs _ (by simp)) b (hs _ (by simp)) hn
  · exact h3 a (hs _ (by simp)) b (hs _ (by simp)) c (hs _ (by simp)) hn
theorem sort_names {xs : List Str} (hn : xs.Nodup) (hs : ∀ x ∈ xs, x ∈ names3) : sortL ltB xs = ord3.filter fun x => decide (x ∈ xs) :=
  by_few (L := names3) (P := fun xs => sortL ltB xs = ord3.filter fun x => decide (x ∈ xs)) (by decide) (by decide +kernel) (by decide +kernel) (by decide +kernel) (by decide +kernel) xs hn hs
theorem sort_terms {xs : List Str} (hn : xs.Nodup) (hs : ∀ x ∈ xs, x ∈ termN) : sortL ltB xs = termN.filter fun x => decide (x ∈ xs) :=
  by_few (L := termN) (P := fun xs => sortL ltB xs = termN.filter fun x => decide (x ∈ xs)) (by decide) (by decide +kernel) (by decide +kernel) (by decide +kernel) (by decide +kernel) xs hn hs
theorem sorted_names {xs : List Str} (hn : xs.Nodup) (hs : ∀ x ∈ xs, x ∈ names3) : sortedS xs = true → xs = ord3.filter fun x => decide (x ∈ xs) :=
  by_few (L := names3) (P := fun xs => sortedS xs = true → xs = ord3.filter fun x => decide (x ∈ xs)) (by decide) (by decide +kernel) (by decide +kernel) (by decide +kernel) (by decide +kernel) xs hn hs
theorem sorted_terms {xs : List Str} (hn : xs.Nodup) (hs : ∀ x ∈ xs, x ∈ termN) : sortedS xs = true → xs = termN.filter fun x => decide (x ∈ xs) :=
  by_few (L := termN) (P := fun xs => sortedS xs = true → xs = termN.filter fun x => decide (x ∈ xs)) (by decide) (by decide +kernel) (by decide +kernel) (by decide +kernel) (by decide +kernel) xs hn hs
theorem sort_eq {o L : List Str} {xs ys : List Str} (h1 : sortL ltB xs = o.filter fun x => decide (x ∈ xs)) (h2 : ys = o.filter fun x => decide (x ∈ ys)) (h : ∀ x, x ∈ xs ↔ x ∈ ys) : sortL ltB xs = ys := by
  refine h1.trans (Eq.trans ?_ h2.symm)
  refine List.filter_congr fun x _ => ?_
  exact decide_eq_decide.mpr (h x)
end Mine
namespace Mine
open PySem PySem.W PySem.Calls PyProof.Rows

theorem nd_le {α : Type} [DecidableEq α] : ∀ (l k : List α), l.Nodup → (∀ x ∈ l, x ∈ k) → l.length ≤ k.length
  | [], _, _, _ => Nat.zero_le _
  | a :: l, k, hn, hs => by
    have ha := hs a List.mem_cons_self
    have hn' := List.nodup_cons.mp hn
    obtain ⟨s, t, rfl⟩ := List.append_of_mem ha
    have := nd_le l (s ++ t) hn'.2 fun x hx => by
      have hx' := hs x (List.mem_cons_of_mem _ hx)
      have hne : x ≠ a := fun e => hn'.1 (e ▸ hx)
      simp only [List.mem_append, List.mem_cons] at hx' ⊢
      rcases hx' with h | h | h
      · exact .inl h
      · exact absurd h hne
      · exact .inr h
    simp at this ⊢; omega
theorem symK_inj {x y : Str} (h : symK x = symK y) : x = y := congrArg Prod.fst h
theorem symK_term {x : Str} (h : x ∈ termN) : symK x = (x, true) := by unfold symK; rw [decide_eq_true h]
theorem symK_name {x : Str} (h : x ∉ termN) : symK x = (x, false) := by unfold symK; rw [decide_eq_false h]
theorem names_not {x : Str} (h : x ∈ names3) : x ∉ termN := (by decide : ∀ x ∈ names3, x ∉ termN) x h

theorem mem_flR {f : Rl → List Pr} {R : List Rl} {p : Pr} : p ∈ flR f R ↔ ∃ r ∈ R, p ∈ f r := by
  unfold flR
  rw [List.mem_flatten]
  constructor
  · rintro ⟨l, hl, hp⟩
    obtain ⟨r, hr, rfl⟩ := List.mem_map.mp hl
    exact ⟨r, hr, hp⟩
  · rintro ⟨r, hr, hp⟩
    exact ⟨_, List.mem_map.mpr ⟨r, hr, rfl⟩, hp⟩
theorem mem_upto {α : Type} {f : Nat → List α} {k : Nat} {a : α} : a ∈ upto f k ↔ ∃ i, i < k ∧ a ∈ f i := by
  unfold upto
  rw [List.mem_flatten]
  constructor
  · rintro ⟨l, hl, hp⟩
    obtain ⟨r, hr, rfl⟩ := List.mem_map.mp hl
    exact ⟨r, List.mem_range.mp hr, hp⟩
  · rintro ⟨r, hr, hp⟩
    exact ⟨_, List.mem_map.mpr ⟨r, List.mem_range.mpr hr, rfl⟩, hp⟩
theorem mem_ifp {b : Bool} {p q : Pr} : p ∈ (if b = true then [q] else []) ↔ b = true ∧ p = q := by cases b <;> simp
theorem allIn_iff {E l : List Str} : allIn E l = true ↔ ∀ x ∈ l, x ∈ E := by simp [allIn]
theorem nth_iff {l : List Str} {i : Nat} {x : Str} : l[i]? = some x ↔ i < l.length ∧ nth l i = x := by
  unfold nth
  rw [List.getD_eq_getElem?_getD]
  constructor
  · intro h
    exact ⟨(List.getElem?_eq_some_iff.mp h).1, by rw [h]; rfl⟩
  · rintro ⟨h, e⟩
    rw [List.getElem?_eq_getElem h] at e ⊢
    exact congrArg some e

section
variable {R : List Rl} {E : List Str}
theorem mem_F {p : Pr} : p ∈ flR (fR E) R ↔ ∃ r ∈ R, ∃ i x, r.2[i]? = some x ∧ (∀ y ∈ r.2.take i, y ∈ E) ∧ p = (r.1, x) := by
  rw [mem_flR]
  refine exists_congr fun r => and_congr_right fun _ => ?_
  unfold fR
  rw [mem_upto]
  unfold fI
  constructor
  · rintro ⟨i, hi, h⟩
    obtain ⟨h1, rfl⟩ := mem_ifp.mp h
    exact ⟨i, nth r.2 i, nth_iff.mpr ⟨hi, rfl⟩, allIn_iff.mp h1, rfl⟩
  · rintro ⟨i, x, hx, h, rfl⟩
    obtain ⟨hi, rfl⟩ := nth_iff.mp hx
    exact ⟨i, hi, mem_ifp.mpr ⟨allIn_iff.mpr h, rfl⟩⟩
theorem mem_L {p : Pr} : p ∈ flR (lR E) R ↔ ∃ r ∈ R, ∃ i x, r.2[i]? = some x ∧ (∀ y ∈ r.2.drop (i + 1), y ∈ E) ∧ p = (r.1, x) := by
  rw [mem_flR]
  refine exists_congr fun r => and_congr_right fun _ => ?_
  unfold lR
  rw [mem_upto]
  unfold lI
  constructor
  · rintro ⟨i, hi, h⟩
    obtain ⟨h1, rfl⟩ := mem_ifp.mp h
    exact ⟨i, nth r.2 i, nth_iff.mpr ⟨hi, rfl⟩, allIn_iff.mp h1, rfl⟩
  · rintro ⟨i, x, hx, h, rfl⟩
    obtain ⟨hi, rfl⟩ := nth_iff.mp hx
    exact ⟨i, hi, mem_ifp.mpr ⟨allIn_iff.mpr h, rfl⟩⟩
theorem mem_B {p : Pr} : p ∈ flR (bR E) R ↔ ∃ r ∈ R, ∃ i j x y, r.2[i]? = some x ∧ i < j ∧ r.2[j]? = some y ∧ (∀ z ∈ (r.2.take j).drop (i + 1), z ∈ E) ∧ p = (x, y) := by
  rw [mem_flR]
  refine exists_congr fun r => and_congr_right fun _ => ?_
  unfold bR
  rw [mem_upto]
  unfold bJ
  constructor
  · rintro ⟨i, hi, h⟩
    obtain ⟨m, hm, h⟩ := mem_upto.mp h
    unfold bI at h
    obtain ⟨h1, rfl⟩ := mem_ifp.mp h
    exact ⟨i, i + 1 + m, _, _, nth_iff.mpr ⟨hi, rfl⟩, by omega, nth_iff.mpr ⟨by omega, rfl⟩, allIn_iff.mp h1, rfl⟩
  · rintro ⟨i, j, x, y, hx, hij, hy, h, rfl⟩
    obtain ⟨hi, rfl⟩ := nth_iff.mp hx
    obtain ⟨hj, rfl⟩ := nth_iff.mp hy
    obtain ⟨m, rfl⟩ : ∃ m, j = i + 1 + m := ⟨j - (i + 1), by omega⟩
    refine ⟨i, hi, mem_upto.mpr ⟨m, by omega, ?_⟩⟩
    unfold bI
    exact mem_ifp.mpr ⟨allIn_iff.mpr h, rfl⟩

theorem occ_iff {x : Str} : OccS R x ↔ Occ (kR R) (symK x) := by
  unfold OccS Occ kR
  constructor
  · rintro (⟨r, hr, rfl⟩ | ⟨r, hr, hx⟩)
    · exact .inr ⟨_, List.mem_map.mpr ⟨r, hr, rfl⟩, rfl⟩
    · exact .inl ⟨_, List.mem_map.mpr ⟨r, hr, rfl⟩, List.mem_map.mpr ⟨x, hx, rfl⟩⟩
  · rintro (⟨_, hr, hx⟩ | ⟨_, hr, hx⟩)
    · obtain ⟨r, hr', rfl⟩ := List.mem_map.mp hr
      obtain ⟨y, hy, e⟩ := List.mem_map.mp hx
      exact .inr ⟨r, hr', symK_inj e ▸ hy⟩
    · obtain ⟨r, hr', rfl⟩ := List.mem_map.mp hr
      exact .inl ⟨r, hr', (symK_inj hx).symm⟩
theorem occ_sym {k : SK} (h : Occ (kR R) k) : k = symK k.1 := by
  rcases h with ⟨_, hr, hx⟩ | ⟨_, hr, rfl⟩
  · obtain ⟨r, hr, rfl⟩ := List.mem_map.mp hr
    obtain ⟨y, hy, rfl⟩ := List.mem_map.mp hx
    rfl
  · obtain ⟨r, hr, rfl⟩ := List.mem_map.mp hr
    rfl
theorem nul_iff {x : Str} : NulK (kR R) (symK x) ↔ Nul R x := by
  constructor
  · intro h
    generalize hk : symK x = k at h
    induction h generalizing x with
    | mk r hr hx ih =>
      obtain ⟨r', hr', rfl⟩ := List.mem_map.mp hr
      have := symK_inj hk
      subst this
      exact .mk r' hr' fun y hy => ih (symK y) (List.mem_map.mpr ⟨y, hy, rfl⟩) rfl
  · intro h
    induction h with
    | mk r hr hx ih =>
      refine .mk (symK r.1, r.2.map symK) (List.mem_map.mpr ⟨r, hr, rfl⟩) fun y hy => ?_
      obtain ⟨z, hz, rfl⟩ := List.mem_map.mp hy
      exact ih z hz
theorem get_sym {r : Rl} {i : Nat} {k : SK} : (r.2.map symK)[i]? = some k ↔ ∃ x, r.2[i]? = some x ∧ k = symK x := by
  rw [List.getElem?_map]
  cases r.2[i]? with
  | none => simp
  | some x => simp [eq_comm]
theorem reach_head {F : List Pr} {x y z : Str} (hp : (x, y) ∈ F) (h : Reach F y z) : Reach F x z := by
  induction h with
  | refl => exact .step .refl hp
  | step h hq ih => exact .step ih hq
theorem fir_iff (hE : ∀ x, x ∈ E ↔ Nul R x) {x y : Str} (hx : OccS R x) : FirK (kR R) (symK x) (symK y) ↔ Reach (flR (fR E) R) x y ∧ y ∈ termN := by
  have one : ∀ {k t}, FirK (kR R) k t → ∀ x y, k = symK x → t = symK y → Reach (flR (fR E) R) x y ∧ y ∈ termN := fun {k t} h => by
    induction h with
    | term k h ho =>
      intro x y e1 e2
      have e := symK_inj (e1.symm.trans e2)
      subst e e1
      exact ⟨.refl, of_decide_eq_true h⟩
    | step r hr i x' t hx' hn ht ih =>
      intro x y e1 e2
      obtain ⟨r', hr', rfl⟩ := List.mem_map.mp hr
      have e := symK_inj e1
      subst e
      obtain ⟨z, hz, rfl⟩ := get_sym.mp hx'
      obtain ⟨h1, h2⟩ := ih z y rfl e2
      refine ⟨reach_head (mem_F.mpr ⟨r', hr', i, z, hz, fun w hw => ?_, rfl⟩) h1, h2⟩
      refine (hE w).mpr (nul_iff.mp (hn (symK w) ?_))
      rw [← List.map_take]
      exact List.mem_map.mpr ⟨w, hw, rfl⟩
  refine ⟨fun h => one h x y rfl rfl, fun ⟨h1, h2⟩ => ?_⟩
  have hS : ∀ {u v}, OccS R u → Reach (flR (fR E) R) u v → OccS R v := fun {u v} hu h => by
    cases h with
    | refl => exact hu
    | step h hp =>
      obtain ⟨r, hr, i, z, hz, _, e⟩ := mem_F.mp hp
      cases e
      exact .inr ⟨r, hr, List.mem_of_getElem? hz⟩
  have back : ∀ {y t}, Reach (flR (fR E) R) x y → FirK (kR R) (symK y) t → FirK (kR R) (symK x) t := fun {y t} h1 => by
    induction h1 generalizing t with
    | refl => exact fun h => h
    | @step u v h hp ih =>
      intro ht
      obtain ⟨r, hr, i, z, hz, hn, e⟩ := mem_F.mp hp
      cases e
      refine ih (.step (symK r.1, r.2.map symK) (List.mem_map.mpr ⟨r, hr, rfl⟩) i (symK v) t (get_sym.mpr ⟨v, hz, rfl⟩) (fun w hw => ?_) ht)
      have hw : w ∈ (r.2.map symK).take i := hw
      rw [← List.map_take] at hw
      obtain ⟨w', hw', rfl⟩ := List.mem_map.mp hw
      exact nul_iff.mpr ((hE w').mp (hn w' hw'))
  exact back h1 (.term _ (decide_eq_true h2) (occ_iff.mp (hS hx h1)))
theorem fol_iff (hE : ∀ x, x ∈ E ↔ Nul R x) {f : Str → List Str} (hf : ∀ x, OccS R x → ∀ y, y ∈ f x ↔ Reach (flR (fR E) R) x y ∧ y ∈ termN) {x y : Str} : FolK (kR R) (symK x) (symK y) ↔ FoR (flR (lR E) R) f (flR (bR E) R) x y := by
  have one : ∀ {k t}, FolK (kR R) k t → ∀ x y, k = symK x → t = symK y → FoR (flR (lR E) R) f (flR (bR E) R) x y := fun {k t} h => by
    induction h with
    | last r hr i x' t hx' hn ht ih =>
      intro x y e1 e2
      obtain ⟨r', hr', rfl⟩ := List.mem_map.mp hr
      obtain ⟨z, hz, rfl⟩ := get_sym.mp hx'
      have e := symK_inj e1
      subst e
      obtain ⟨p, hp, h1, h2⟩ := ih r'.1 y rfl e2
      refine ⟨p, hp, .step h1 (mem_L.mpr ⟨r', hr', i, z, hz, fun w hw => ?_, rfl⟩), h2⟩
      refine (hE w).mpr (nul_iff.mp (hn (symK w) ?_))
      rw [← List.map_drop]
      exact List.mem_map.mpr ⟨w, hw, rfl⟩
    | beside r hr i j x' y' t hx' hij hy' hn ht =>
      intro x y e1 e2
      obtain ⟨r', hr', rfl⟩ := List.mem_map.mp hr
      obtain ⟨z, hz, rfl⟩ := get_sym.mp hx'
      obtain ⟨w, hw, rfl⟩ := get_sym.mp hy'
      have e := symK_inj e1
      subst e e2
      have ho : OccS R w := .inr ⟨r', hr', List.mem_of_getElem? hw⟩
      refine ⟨(z, w), mem_B.mpr ⟨r', hr', i, j, z, w, hz, hij, hw, fun v hv => ?_, rfl⟩, .refl, (hf w ho y).mpr ((fir_iff hE ho).mp ht)⟩
      refine (hE v).mpr (nul_iff.mp (hn (symK v) ?_))
      rw [← List.map_take, ← List.map_drop]
      exact List.mem_map.mpr ⟨v, hv, rfl⟩
  refine ⟨fun h => one h x y rfl rfl, fun ⟨p, hp, h1, h2⟩ => ?_⟩
  obtain ⟨r, hr, i, j, z, w, hz, hij, hw, hn, rfl⟩ := mem_B.mp hp
  have ho : OccS R w := .inr ⟨r, hr, List.mem_of_getElem? hw⟩
  have start : FolK (kR R) (symK z) (symK y) := .beside (symK r.1, r.2.map symK) (List.mem_map.mpr ⟨r, hr, rfl⟩) i j (symK z) (symK w) _ (get_sym.mpr ⟨z, hz, rfl⟩) hij (get_sym.mpr ⟨w, hw, rfl⟩) (fun v hv => by
    have hv : v ∈ ((r.2.map symK).take j).drop (i + 1) := hv
    rw [← List.map_take, ← List.map_drop] at hv
    obtain ⟨v', hv', rfl⟩ := List.mem_map.mp hv
    exact nul_iff.mpr ((hE v').mp (hn v' hv'))) ((fir_iff hE ho).mpr ((hf w ho y).mp h2))
  have go : ∀ {u v}, Reach (flR (lR E) R) u v → FolK (kR R) (symK u) (symK y) → FolK (kR R) (symK v) (symK y) := fun {u v} h1 => by
    induction h1 with
    | refl => exact fun h => h
    | @step a b h hq ih =>
      intro hs
      obtain ⟨r', hr', i', z', hz', hn', e⟩ := mem_L.mp hq
      cases e
      refine .last (symK r'.1, r'.2.map symK) (List.mem_map.mpr ⟨r', hr', rfl⟩) i' (symK b) _ (get_sym.mpr ⟨b, hz', rfl⟩) (fun w hw => ?_) (ih hs)
      have hw : w ∈ (r'.2.map symK).drop (i' + 1) := hw
      rw [← List.map_drop] at hw
      obtain ⟨w', hw', rfl⟩ := List.mem_map.mp hw
      exact nul_iff.mpr ((hE w').mp (hn' w' hw'))
  exact go h1 start

/-- a set's list, as names -/
theorem names_of {b : Bool} {l : List PV} (hn : l.Nodup) (h : ∀ d ∈ l, ∃ x, d = sKey (x, b)) : ∃ xs : List Str, l = xs.map (fun x => sKey (x, b)) ∧ xs.Nodup := by
  induction l with
  | nil => exact ⟨[], rfl, List.nodup_nil⟩
  | cons d l ih =>
    obtain ⟨xs, rfl, hx⟩ := ih (List.nodup_cons.mp hn).2 fun d hd => h d (List.mem_cons_of_mem _ hd)
    obtain ⟨x, rfl⟩ := h d List.mem_cons_self
    refine ⟨x :: xs, rfl, List.nodup_cons.mpr ⟨fun w => (List.nodup_cons.mp hn).1 (List.mem_map.mpr ⟨x, w, rfl⟩), hx⟩⟩
theorem mem_names {b : Bool} {xs : List Str} {x : Str} : sKey (x, b) ∈ xs.map (fun x => sKey (x, b)) ↔ x ∈ xs := by
  rw [List.mem_map]
  refine ⟨fun ⟨y, hy, e⟩ => ?_, fun h => ⟨x, h, rfl⟩⟩
  have e' : y = x := congrArg Prod.fst (sKey_inj e)
  exact e' ▸ hy

theorem plain {S : List Str} {f g : Str → List Str} {Sk : List SK} {ct : Cts} (hR : Good R) (hEs : sortedS E = true) (hEn : E.Nodup) (hE : ∀ x, x ∈ E ↔ Nul R x) (hS : IsSy R S)
    (hf : ∀ x ∈ S, IsFst (flR (fR E) R) x (f x)) (hg : ∀ x ∈ S, (g x).Nodup ∧ ∀ t, t ∈ g x ↔ FoR (flR (lR E) R) f (flR (bR E) R) x t) (h1 : Sk.Nodup) (h2 : ∀ k, k ∈ Sk ↔ Occ (kR R) k) (h3 : Exact (kR R) ct) (h4 : Sound (kR R) ct) (h5 : ∀ k ∈ keysOf Sk, (ct k).Nodup) : PL E S f g Sk ct := by
  have hmem : ∀ x ∈ S, symK x ∈ Sk := fun x hx => (h2 _).mpr (occ_iff.mp ((hS.2.2 x).mp hx))
  have hf' : ∀ x, OccS R x → ∀ y, y ∈ f x ↔ Reach (flR (fR E) R) x y ∧ y ∈ termN := fun x hx => (hf x ((hS.2.2 x).mpr hx)).2.2
  have hgt : ∀ x ∈ S, ∀ y ∈ g x, y ∈ termN := fun x hx y hy => by
    obtain ⟨p, hp, _, h⟩ := ((hg x hx).2 y).mp hy
    obtain ⟨r, hr, i, j, z, w, hz, hij, hw, hn, rfl⟩ := mem_B.mp hp
    exact ((hf' w (.inr ⟨r, hr, List.mem_of_getElem? hw⟩) y).mp h).2
  refine ⟨h1, ?_, hmem, ?_, fun x hx => ?_, fun x hx => ?_, fun x hx => ⟨nodup_len _ termN (hf x hx).2.1 fun y hy => (((hf x hx).2.2 y).mp hy).2, nodup_len _ termN (hg x hx).1 (hgt x hx)⟩⟩
  · have a := nd_le Sk (S.map symK) h1 fun k hk => by
      have ho := (h2 k).mp hk
      have e := occ_sym ho
      rw [e]
      exact List.mem_map.mpr ⟨k.1, (hS.2.2 _).mpr (occ_iff.mpr (e ▸ ho)), rfl⟩
    have b := nd_le (S.map symK) Sk (by
      rw [List.nodup_iff_pairwise_ne, List.pairwise_map]
      exact (List.nodup_iff_pairwise_ne.mp hS.2.1).imp fun hne e => hne (symK_inj e)) fun k hk => by
      obtain ⟨x, hx, rfl⟩ := List.mem_map.mp hk
      exact hmem x hx
    rw [List.length_map] at a b
    omega
  · have hnm : ∀ x, Nul R x → x ∈ names3 := fun x h => by obtain ⟨r, hr, _⟩ := h; exact (hR.2 r hr).1
    obtain ⟨xs, e, hn⟩ := names_of (b := false) (h5 .nul List.mem_cons_self) fun d hd => by
      obtain ⟨k, rfl, hk⟩ := h4.nul d hd
      have e := occ_sym hk.occ
      have : NulK (kR R) (symK k.1) := e ▸ hk
      exact ⟨k.1, by rw [← symK_name (names_not (hnm _ (nul_iff.mp this))), ← e]⟩
    have hm : ∀ x, x ∈ xs ↔ x ∈ E := fun x => by
      rw [← mem_names (b := false), ← e, h3.nul, hE]
      constructor
      · intro h
        have := occ_sym h.occ
        exact nul_iff.mp (this ▸ h)
      · intro h
        have := nul_iff.mpr h
        rwa [symK_name (names_not (hnm _ h))] at this
    have hxs : ∀ x ∈ xs, x ∈ names3 := fun x hx => hnm x ((hE x).mp ((hm x).mp hx))
    exact ⟨xs, e, by have := nodup_len xs names3 hn hxs; have : names3.length = 3 := rfl; omega, sort_eq (L := names3) (sort_names hn hxs) (sorted_names hEn (fun x hx => hnm x ((hE x).mp hx)) hEs) hm⟩
  · have ho := (hS.2.2 x).mp hx
    have back : ∀ t, FirK (kR R) (symK x) t → t = (t.1, true) ∧ t.1 ∈ f x := fun t ht => by
      have e := occ_sym ht.occ
      have h := (fir_iff hE ho).mp (e ▸ ht)
      exact ⟨e.trans (symK_term h.2), (hf' x ho _).mpr h⟩
    obtain ⟨xs, e, hn⟩ := names_of (b := true) (h5 _ (key_fst (hmem x hx))) fun d hd => by
      obtain ⟨t, rfl, ht⟩ := h4.fst _ d hd
      exact ⟨t.1, congrArg sKey (back t ht).1⟩
    have hm : ∀ y, y ∈ xs ↔ y ∈ f x := fun y => by
      rw [← mem_names (b := true), ← e, h3.fst]
      refine ⟨fun h => (back _ h).2, fun h => ?_⟩
      have h := (hf' x ho y).mp h
      have := (fir_iff hE ho).mpr h
      rwa [symK_term h.2] at this
    have hxs : ∀ y ∈ xs, y ∈ termN := fun y hy => ((hf' x ho y).mp ((hm y).mp hy)).2
    exact ⟨xs, e, by have := nodup_len xs termN hn hxs; have : termN.length = 3 := rfl; omega, sort_eq (L := termN) (sort_terms hn hxs) (sorted_terms (hf x hx).2.1 (fun y hy => ((hf' x ho y).mp hy).2) (hf x hx).1) hm⟩
  · have back : ∀ t, FolK (kR R) (symK x) t → t = (t.1, true) ∧ t.1 ∈ g x := fun t ht => by
      have e := occ_sym ht.occ
      have h := ((hg x hx).2 _).mpr ((fol_iff hE hf').mp (e ▸ ht))
      exact ⟨e.trans (symK_term (hgt x hx _ h)), h⟩
    obtain ⟨xs, e, hn⟩ := names_of (b := true) (h5 _ (key_fol (hmem x hx))) fun d hd => by
      obtain ⟨t, rfl, ht⟩ := h4.fol _ d hd
      exact ⟨t.1, congrArg sKey (back t ht).1⟩
    have hm : ∀ y, y ∈ xs ↔ y ∈ g x := fun y => by
      rw [← mem_names (b := true), ← e, h3.fol]
      refine ⟨fun h => (back _ h).2, fun h => ?_⟩
      have := (fol_iff hE hf').mpr (((hg x hx).2 y).mp h)
      rwa [symK_term (hgt x hx _ h)] at this
    have hxs : ∀ y ∈ xs, y ∈ termN := fun y hy => hgt x hx y ((hm y).mp hy)
    refine ⟨xs, e, by have := nodup_len xs termN hn hxs; have : termN.length = 3 := rfl; omega, fun l hl hp => ?_⟩
    exact sort_eq (L := termN) (sort_terms hn hxs) (sorted_terms (hp.nodup_iff.mpr (hg x hx).1) (fun y hy => hgt x hx y (hp.mem_iff.mp hy)) hl) fun y => (hm y).trans hp.mem_iff.symm
end
end Mine
namespace Mine
open PySem PySem.W PySem.Calls PyProof.Rows

theorem swap_lll {env : Env} {x y z : Str} {p1 p2 p3 tp q1 q2 q3 vp : Pos} {k1 k2 : Nat} (hf : env.scope.kind = .function) (hx : env.kindOf x = some .local) (hy : env.kindOf y = some .local) (hz : env.kindOf z = some .local) (h2 : p2.line = p1.line) (h3 : p3.line = p1.line) (hd : [x, y, z].eraseDups.length = 3) :
    swappedStores [.Tuple [.Name x p1, .Name y p2, .Name z p3] k1 tp] (.Tuple [.List [] q1, .List [] q2, .List [] q3] k2 vp) env = pure (some [x, y, z]) := by
  have hn : ([Expr.Name x p1, Expr.Name y p2, Expr.Name z p3].filterMap fun
    | .Name id pos => if env.kindOf id == some .local && pos.line == p1.line then some id else none
    | _ => none) = [x, y, z] := by
    simp only [List.filterMap_cons, List.filterMap_nil, hx, hy, hz, h2, h3, beq_self_eq_true, Bool.and_self, if_true]
  have hb : (env.blockKind != ScopeKind.function) = false := by unfold Env.blockKind; rw [hf]; rfl
  unfold swappedStores
  dsimp only
  rw [hb]
  rw [if_neg (by simp), if_neg (by simp)]
  generalize hN : List.filterMap _ [Expr.Name x p1, Expr.Name y p2, Expr.Name z p3] = N
  have hN' : N = [x, y, z] := hN.symm.trans hn
  subst hN'
  have e1 : [Expr.List [] q1, Expr.List [] q2, Expr.List [] q3].all (foldedForSure 8) = false := by rfl
  have e2 : [Expr.List [] q1, Expr.List [] q2, Expr.List [] q3].all (constantsAlone 8) = false := by rfl
  rw [hd, e1, e2, if_neg (by simp), if_neg (by simp), if_neg (by simp)]

section
variable {X : Wk} {Y : Act}
theorem law_rest {q : Vw} (L : LE X Y) {R : List Rl} (hR : Good R) (h1 : q.ρ "rules" = some (.fz (encRs R))) : PS Y q ((lawBody X.w.params).drop 1) (Gives fun d => d = .bool true) := by
  refine PS.seq (PS1.assign L.sE (PE.call (L.g (x := "_law_nullable") (v := .ref 434) (by rfl) (by rfl)) (L.cal (.inl (by rw [X.hK]; rfl))) (PE.name h1 (FC.cast L.wd ((lawNullable R hR).mono (by have := L.n; omega) ?_)))) (by rfl))
  rintro _ ⟨E, rfl, hEs, hEn, hE⟩
  refine ⟨rfl, ?_⟩
  have g1 := set_there (x := "empty") (sl := .fz (.list (E.map .str))) h1 (by decide)
  have g2 : (q.set "empty" (.fz (.list (E.map .str)))).ρ "empty" = some (.fz (.list (E.map .str))) := set_here
  generalize q.set "empty" (.fz (.list (E.map .str))) = q at g1 g2 ⊢
  refine PS.seq (PS1.new3 (L.loc (by rfl)) (L.loc (by rfl)) (L.loc (by rfl)) (.list _) (.list _) (.list _) ⟨rfl, ?_⟩ (swap_lll L.kf (L.k (by rfl)) (L.k (by rfl)) (L.k (by rfl)) (by rfl) (by rfl) (by decide)))
  have b3 : B3 R E [] [] [] (((q.set "besides" (.mt (.list []))).set "lasts" (.mt (.list []))).set "firsts" (.mt (.list []))) :=
    ⟨set_there (set_there (set_there g1)), set_there (set_there (set_there g2)), set_here, set_there set_here, set_there (set_there set_here)⟩
  generalize ((q.set "besides" (.mt (.list []))).set "lasts" (.mt (.list []))).set "firsts" (.mt (.list [])) = q at b3 ⊢
  have hE3 : E.length ≤ 3 := nul_len hR hEn fun x hx => (hE x).mp hx
  have lF : (flR (fR E) R).length < 60 := by
    have := flR_le (f := fR E) (c := 4) (l := R) fun r hr => Nat.le_trans (fR_le E r) (hR.2 r hr).2.1
    have := hR.1
    omega
  have lL : (flR (lR E) R).length < 60 := by
    have := flR_le (f := lR E) (c := 4) (l := R) fun r hr => Nat.le_trans (lR_le E r) (hR.2 r hr).2.1
    have := hR.1
    omega
  have lB : (flR (bR E) R).length < 60 := by
    have := flR_le (f := bR E) (c := 6) (l := R) fun r hr => bR_le E r (hR.2 r hr).2.1
    have := hR.1
    omega
  refine lawT3 L hR b3 fun q b3 => lawT4 L hR b3 fun q S hS b5 => ?_
  have hSl : S.length ≤ 60 := by
    have h := nodup_len S syms6 hS.2.1 fun x hx => by
      rcases (hS.2.2 x).mp hx with ⟨r, hr, rfl⟩ | ⟨r, hr, hx⟩
      · exact (by decide : ∀ x ∈ names3, x ∈ syms6) _ (hR.2 r hr).1
      · exact (hR.2 r hr).2.2 x hx
    have : syms6.length = 6 := rfl
    omega
  refine lawT5 L lF hS hSl b5 fun q f hf b6 => lawT7 L lB lL hS hSl (fun p hp => ?_) (fun p hp => ?_) hf b6 fun q g hg b6 => lawT8 L hS hSl b6 fun q b8 => lawT9 L hR hS hSl b8 fun q Sk ct k1 k2 k3 k4 k5 b9 => ?_
  · obtain ⟨r, hr, i, j, x, y, hx, _, hy, _, rfl⟩ := mem_B.mp hp
    exact ⟨(hS.2.2 _).mpr (.inr ⟨r, hr, List.mem_of_getElem? hx⟩), (hS.2.2 _).mpr (.inr ⟨r, hr, List.mem_of_getElem? hy⟩)⟩
  · obtain ⟨r, hr, i, x, hx, _, rfl⟩ := mem_L.mp hp
    exact (hS.2.2 _).mpr (.inr ⟨r, hr, List.mem_of_getElem? hx⟩)
  have pl := plain hR hEs hEn hE hS hf hg k1 k2 k3 k4 k5
  exact lawT10 L hE3 hSl pl b9 (lawT11 L hS.2.1 hSl pl b9 rfl)
end
theorem list_ints {l : List Int} {h : l.length ≤ 63} : (l.map PV.int).length ≤ 4096 := by rw [List.length_map]; omega
theorem fc_law {X : Wk} (ns : List Int) (hns : ns.length ≤ 63) : FC X.toWd 17 (.ref 444) [.list (ns.map .int)] (fun d => d = .bool true) := by
  refine fc_enter (n := 16) (by decide) (names := ["script"]) (by rw [X.hK]; rfl) rfl rfl (fun vals hv => match vals, hv with | [a], _ => rfl) rfl (by decide)
    (fun L x hx => by simp only [List.mem_singleton] at hx; subst hx; exact .inl (by rfl)) (by rw [X.hK]; rfl) rfl rfl rfl rfl rfl fun L V env he => ?_
  have LL : LE X (X.act env V 16 (by decide)) := ⟨rfl, by show 16 ≤ 16; decide, by rw [he]; rfl, by rw [he]; rfl, by rw [he]; rfl, fun x c h => .inr ⟨x, h⟩, by rw [he]; exact ⟨_, rfl⟩, by rw [he]; exact ⟨_, rfl⟩, by rw [he]; exact ⟨_, rfl⟩, by rw [he]; exact ⟨_, rfl⟩⟩
  clear he
  have hs : (q0 (look ((["script"] : List Str).zip [PV.list (ns.map .int)]))).ρ "script" = some (.fz (.list (ns.map .int))) := q0_here (by rfl)
  generalize q0 (look ((["script"] : List Str).zip [PV.list (ns.map .int)])) = q at hs ⊢
  have hlen : (ns.map PV.int).length ≤ 4096 := by rw [List.length_map]; omega
  -- rules = ..
  refine PS.seq (PS1.assign (LL.loc (by rfl)) (PE.call (LL.g (x := "_law_rules") (v := .ref 429) (by rfl) (by rfl)) (LL.cal (.inl (by rw [X.hK]; rfl))) (PE.ite (PT.cmp (PE.name hs (PE.list (es := []) ⟨by decide, op_ne_nil ⟨_, rfl, fun e => ?_, fun e => ?_⟩⟩))))) (by rfl))
  · refine PE.slice (PE.name hs ⟨tList, _, rfl, .inl rfl, hlen, PE.cint ⟨24, rfl, ?_⟩⟩)
    have e : PV.seq tList (cut (ns.map PV.int) none (some 24)) = .list ((ns.take 24).map .int) := congrArg PV.list (by simp [cut, List.map_take])
    show FC X.toWd 16 (.ref 429) [PV.seq tList (cut (ns.map PV.int) none (some 24))] _
    rw [e]
    refine (lawRules (X := X) (ns.take 24) (by rw [List.length_take]; omega)).mono (by show 10 ≤ 16; decide) ?_
    rintro _ ⟨R, hR, rfl⟩
    exact ⟨rfl, law_rest LL hR (set_here)⟩
  · refine PE.list (PE.cint (PE.cint (PE.cint (PE.cint ⟨by simp, ?_⟩))))
    refine (lawRules (X := X) [6, 1, 3, 1] (by decide)).mono (by show 10 ≤ 16; decide) ?_
    rintro _ ⟨R, hR, rfl⟩
    exact ⟨rfl, law_rest LL hR (set_here)⟩
end Mine
namespace Mine
open PySem PySem.W PySem.Calls PyProof.Rows

theorem ints_vals {P : Params} {V : Rgn} {h : Heap} : ∀ {vs : List Value} {ns : List Int}, IntsAre vs ns → Vals P V h (ns.map .int) vs
  | _, _, .nil => by simp
  | _, _, .cons n t r => by
    rw [List.map_cons, vals_cons']
    exact ⟨val_int.mpr ⟨t, rfl⟩, ints_vals r⟩
theorem mg_law {w : World} {h : Heap} {mg : Str → Option Value} {fa : Addr} (KX : (Mine.hd.heap_39 w.params).In h) (G : h.Ns mainGlobals mg) (hmg : mg "law" = some (.ref fa)) : fa = 444 := by
  have e : nsIn (Mine.hd.heap_39 w.params) mainGlobals "law" = some (some (.ref 444)) := by rfl
  have := mg_of KX G e
  rw [hmg] at this
  injection this with this
  injection this

theorem join {prog p : Program} {w : World} {s₁ : Shared} {mg mb : Str → Option Value} {loose : List Str} {fa a : Addr} {vs : List Value} {ns : List Int} {E : Value → Shared → Prop} {Q : Value → Shared → Prop} (KX : (Mine.hd.heap_39 w.params).In s₁.heap) (hsy : s₁.heap.NoSeer) (hmg : mg "law" = some (.ref fa)) (Tg : TopRead p loose mg mb s₁.heap)
    (hL : s₁.heap.IsList a vs.toArray) (hI : IntsAre vs ns) (w1 : Well w.params s₁.heap (.ref a) (ofPy (.list (ns.map .int)))) (hlen : ¬ ((63 : Nat) : Int) < (ns.length : Int)) (hQ : ∀ s', Step None s₁ s' → Q (.bool true) s') :
    wpAny (model prog w) callerA (call (.ref fa) [.ref a]) Q E s₁ := by
  have hfa := mg_law KX Tg.g hmg
  subst hfa
  obtain ⟨mm, ⟨so, _, _, hso, _⟩, _⟩ := hsy.mods
  let X : Wk := { prog := prog, w := w, K := Mine.hd.heap_39 w.params, b₀ := s₁.heap, inK := KX, top := ⟨p, loose, mg, mb, Tg⟩, sysm := ⟨so, hso⟩, hK := rfl }
  have H : Hp X.toWd None s₁ := ⟨fun b o e => e, fun x h => h.elim, fun x h => h.elim⟩
  have hval : Vals X.P None s₁.heap [.list (ns.map .int)] [.ref a] := by
    simp only [vals_cons', vals_nil, and_true]
    cases w1 with
    | list ho _ =>
      obtain ⟨o, ho', hc, n, hd⟩ := hL
      rw [ho] at ho'
      cases ho'
      injection hd with e1 e2
      rw [e1] at ho
      exact val_seq.mpr ⟨a, _, vs.toArray, rfl, fun w => w, ho, ints_vals hI⟩
  exact wpAny_mono (fc_law (X := X) ns (by omega) callerA E s₁ None [.ref a] (aok_caller.mono (by decide)) H hval) (fun v s' ⟨st, d, hd, hv⟩ => by
    subst hd
    have := val_bool.mp hv
    subst this
    exact hQ s' st) fun _ _ x => x
end Mine
open PySem PySem.W PySem.Calls PyProof.Rows
theorem PySem.Challenge.cw_fc0126_01_holds : PySem.Challenge.rw_fc0126_01.Holds :=
  Mine.hd (by
  k_fill
  intro w s₀ s₁ mg mb G Y fa o pm cd doc dV kV ho hd hcd hD hmg hg args vals as hpre hlay hrd hwl hlo
  have KX := kIn_of Y
  have T := G.T
  clear ho hd hcd hD Y
  have hsy := T.seer (by decide +kernel)
  change mg "law" = _ at hmg
  have Tg := topRead_of T
  clear T G
  wrow_args hpre hlay hrd hwl hlo
  rename_i ns _ _ _ _ _ _ _ a vs _ hL _ w1 _ hI _ hlen _
  refine Mine.join KX hsy hmg Tg hL hI w1 hlen fun s' st => ?_
  refine ⟨.inl ⟨_, .bool true, [], rfl, fun cls => rfl, .bool true, ?post, fun _ => ⟨List.nodup_nil, fun a ha => nomatch ha⟩⟩, .of_keep fun b o e => st.keep b o (fun w => w) e, st.os, fun y hy => ?_⟩
  case post => with_unfolding_all rfl
  obtain ⟨i, hi, e⟩ := Array.mem_iff_getElem.mp hy
  rcases st.gnew i y (by rw [Array.getElem?_eq_getElem hi, e]) with h | h
  · rw [hg] at h; simp at h
  · subst h; rfl)
