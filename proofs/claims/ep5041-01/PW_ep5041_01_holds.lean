import PyProof.Rows.All
import Wide.All
import OpenK.AllK
import Wide.FinOn
import Lean
import PySem.Challenge.RW_ep5041_01
open PySem PySem.Calls PySem.W PySem.W.X PyProof.Rows
set_option Elab.async false
set_option maxRecDepth 100000
set_option maxHeartbeats 8000000
set_option linter.unusedVariables false
set_option linter.constructorNameAsVariable false
set_option linter.unusedSimpArgs false
namespace Mine
local macro_rules | `(tactic| k_head) => `(tactic| x_head)
open_top hd for PySem.Challenge.rw_ep5041_01
end Mine
namespace Mine

abbrev PR : Program := PySem.Challenge.rw_ep5041_01.prog
/-- what stays through the whole call: the world, the generators, the draws, the system -/
structure Cx where
  w : World
  g : Array GenState
  d : Drawn
  os : OsState

abbrev AA (n u : Nat) : Around := { handled := none, depth := n, frames := none, guards := none, units := u }

/-- a run that ends without an exception, told of heaps alone -/
def Go {α : Type} (c : Cx) (A : Around) (t : Sem α) (Q : α → Heap → Prop) (h : Heap) : Prop :=
  ∀ tk : Nat, wpAny (model PR c.w) A t (fun v s' => ∃ h' tk', s' = ⟨h', c.g, c.d, tk', c.os⟩ ∧ Q v h') (fun _ _ => False) ⟨h, c.g, c.d, tk, c.os⟩

def GoC (c : Cx) (A : Around) (k : Code) (R : Flow → Heap → Prop) (h : Heap) : Prop :=
  ∀ tk : Nat, codeAny (model PR c.w) A k (fun r s' => match r with | .ok f => ∃ h' tk', s' = ⟨h', c.g, c.d, tk', c.os⟩ ∧ R f h' | .error _ => False) ⟨h, c.g, c.d, tk, c.os⟩

section
variable {α β : Type} {c : Cx} {A : Around} {h : Heap}

theorem Go.mono {t : Sem α} {Q Q' : α → Heap → Prop} (H : Go c A t Q h) (hq : ∀ v h', Q v h' → Q' v h') : Go c A t Q' h := fun tk =>
  wpAny_mono (H tk) (fun v s' ⟨h', tk', e, q⟩ => ⟨h', tk', e, hq v h' q⟩) fun _ _ x => x
theorem GoC.mono {k : Code} {R R' : Flow → Heap → Prop} (H : GoC c A k R h) (hq : ∀ v h', R v h' → R' v h') : GoC c A k R' h := fun tk =>
  codeAny_mono (H tk) fun r s' x => by
    cases r with
    | ok f => obtain ⟨h', tk', e, q⟩ := x; exact ⟨h', tk', e, hq f h' q⟩
    | error e => exact x
theorem Go.bind {m : Sem α} {f : α → Sem β} {Q : β → Heap → Prop} (H : Go c A m (fun a h' => Go c A (f a) Q h') h) : Go c A (m >>= f) Q h := fun tk =>
  wpAny_bind (wpAny_mono (H tk) (fun a s' ⟨h', tk', e, q⟩ => by subst e; exact q tk') fun _ _ x => x)
theorem Go.pure {a : α} {Q : α → Heap → Prop} (H : Q a h) : Go c A (pure a) Q h := fun tk => wpAny_pure ⟨h, tk, rfl, H⟩
theorem Go.of_eq {t t' : Sem α} {Q : α → Heap → Prop} (e : t = t') (H : Go c A t' Q h) : Go c A t Q h := by rw [e]; exact H

theorem in_of {Γ : PySem.Ctx} {B : Around} (h1 : B.handled = A.handled) (h2 : A.depth ≤ B.depth) (h3 : B.frames = none) (h4 : B.guards = none) (h5 : A.units ≤ B.units) (hΓ : Γ.In A) : Γ.In B := by
  obtain ⟨a, b, _, _, e⟩ := hΓ
  refine ⟨a.trans h1.symm, Nat.le_trans b h2, ?_, ?_, Nat.le_trans e h5⟩
  · intro l q; rw [h3] at q; cases q
  · intro l q; rw [h4] at q; cases q
theorem below_of {Γ : PySem.Ctx} {B : Around} (h1 : B.handled = A.handled) (h2 : A.depth ≤ B.depth) (h3 : B.frames = none) (h4 : B.guards = none) (h5 : A.units ≤ B.units) (hΓ : Γ.Below A) : Γ.Below B := by
  obtain ⟨a, b, _, _, e⟩ := hΓ
  refine ⟨a.trans h1.symm, Nat.le_trans b h2, ?_, ?_, Nat.le_trans e h5⟩
  · intro l q; rw [h3] at q; cases q
  · intro l q; rw [h4] at q; cases q
theorem Go.up {n u : Nat} {t : Sem α} {Q : α → Heap → Prop} (H : Go c (AA n u) t Q h) (h1 : A.handled = none := by rfl) (h2 : A.depth ≤ n := by decide) (h5 : A.units ≤ u := by decide) : Go c A t Q h := fun tk Γ p hΓ =>
  H tk Γ p (in_of h1.symm h2 rfl rfl h5 hΓ)
theorem GoC.up {n u : Nat} {k : Code} {Q : Flow → Heap → Prop} (H : GoC c (AA n u) k Q h) (h1 : A.handled = none := by rfl) (h2 : A.depth ≤ n := by decide) (h5 : A.units ≤ u := by decide) : GoC c A k Q h := fun tk Γ p hc hΓ =>
  H tk Γ p hc (below_of h1.symm h2 rfl rfl h5 hΓ)

theorem Go.load {a : Addr} {o : Obj} {Q : Obj → Heap → Prop} (ho : h.get? a = some o) (H : Q o h) : Go c A (PySem.load a) Q h := fun tk => wpAny_load ho ⟨h, tk, rfl, H⟩
theorem Go.loadPart {a : Addr} {p : Option Value} {o : Obj} {Q : Obj → Heap → Prop} (ho : h.get? a = some o) (H : Q o h) : Go c A (PySem.loadPart a p) Q h := fun tk => wpAny_loadPart ho ⟨h, tk, rfl, H⟩
theorem Go.alloc {o : Obj} {Q : Addr → Heap → Prop} (H : Q h.objs.size (h.push o)) : Go c A (PySem.alloc o) Q h := fun tk => wpAny_alloc ⟨_, tk, rfl, H⟩
theorem Go.holding {vs : List Value} {m : Sem α} {Q : α → Heap → Prop} (H : Go c A m Q h) : Go c A (PySem.holding vs m) Q h := fun tk => wpAny_holding (H tk)
theorem Go.standAt {p : Pos} {Q : Unit → Heap → Prop} (H : Q () h) : Go c A (PySem.standAt p) Q h := fun tk => wpAny_standAt ⟨h, tk, rfl, H⟩
theorem Go.rule {r : String} {Q : Unit → Heap → Prop} (H : Q () h) : Go c A (PySem.rule r) Q h := fun tk => wpAny_rule ⟨h, tk, rfl, H⟩
theorem Go.point {Q : Unit → Heap → Prop} (H : Q () h) : Go c A PySem.point Q h := fun tk => wpAny_point ⟨h, tk, rfl, H⟩
theorem Go.onRaise {m : Sem α} {k : Value → Sem Unit} {Q : α → Heap → Prop} (H : Go c A m Q h) : Go c A (m.onRaise k) Q h := fun tk =>
  wpAny_onRaise (wpAny_mono (H tk) (fun _ _ x => x) fun _ _ x => x.elim)

theorem Go.run {k : Code} {Q : Flow → Heap → Prop} (H : GoC c A k Q h) (hA : A.handled = none := by rfl) : Go c A (PySem.run k) Q h := fun tk => by
  refine wpAny_run ?_
  have e : A.mark none = A := rfl
  rw [e]
  refine codeAny_mono (H tk) fun r s' x => ?_
  cases r with
  | ok f => exact x
  | error e => exact x.elim
theorem Go.runValue {k : Code} {Q : Value → Heap → Prop} (H : GoC c A k (fun f h' => ∃ v, f = .ret v ∧ Q v h') h) : Go c A (PySem.runValue k) Q h := fun tk => by
  refine wpAny_runValue (codeAny_mono (H tk) fun r s' x => ?_)
  cases r with
  | ok f => obtain ⟨h', tk', e, v, rfl, q⟩ := x; exact ⟨h', tk', e, q⟩
  | error e => exact x.elim
theorem Go.call {f : Value} {pos : List Value} {kw : List (Str × Value)} {Q : Value → Heap → Prop} (H : GoC c A (.call f ⟨pos, kw⟩) (fun f h' => ∃ v, f = .ret v ∧ Q v h') h) : Go c A (PySem.call f pos kw) Q h := Go.runValue H

/-- a code's tree -/
theorem GoC.tree {k : Code} {R : Flow → Heap → Prop} (H : Go c (A.under k) (denote table k) (fun fin h' => match fin with | .done f => R f h' | .again k' => k'.quiet = true ∧ GoC c A k' R h') h) : GoC c A k R h := fun tk =>
  codeAny_of_tree (wpAny_mono (H tk) (fun fin s' x => by
    obtain ⟨h', tk', e, q⟩ := x
    subst e
    cases fin with
    | done f => exact ⟨h', tk', rfl, q⟩
    | again k' => exact ⟨q.1, q.2 tk'⟩) fun _ _ x => x.elim)
end
end Mine
namespace Mine

abbrev Ext (h h' : Heap) : Prop := ∀ b o, h.get? b = some o → h'.get? b = some o
theorem Ext.refl (h : Heap) : Ext h h := fun _ _ e => e
theorem Ext.trans {a b c : Heap} (x : Ext a b) (y : Ext b c) : Ext a c := fun p o e => y p o (x p o e)
theorem Ext.push {a b : Heap} (x : Ext a b) (o : Obj) : Ext a (b.push o) := fun p q e => Heap.get?_push_of_some _ (x p q e)
/-- all but one -/
abbrev But (a : Addr) (h h' : Heap) : Prop := ∀ b o, b ≠ a → h.get? b = some o → h'.get? b = some o
theorem But.trans {d : Addr} {a b c : Heap} (x : But d a b) (y : But d b c) : But d a c := fun p o n e => y p o n (x p o n e)

abbrev Rw := List (Str × Int)
/-- an entry bears the pair -/
def Ent (e : DictEntry) (kv : Str × Int) : Prop := (∃ t, e.key = .str kv.1 t) ∧ ∃ u, e.val = .int kv.2 u
inductive Ents : List DictEntry → Rw → Prop
  | nil : Ents [] []
  | cons {e kv es kvs} : Ent e kv → Ents es kvs → Ents (e :: es) (kv :: kvs)

/-- put a row: the later value in the elder place, or a new row at the end -/
def put : Rw → Str → Int → Rw
  | [], k, v => [(k, v)]
  | (a, x) :: r, k, v => if a = k then (a, v) :: r else (a, x) :: put r k v
def putAll (a b : Rw) : Rw := b.foldl (fun acc kv => put acc kv.1 kv.2) a

def IsD (h : Heap) (a : Addr) (cls : Value) (dct : Option Addr) (kvs : Rw) : Prop := ∃ es ep, h.get? a = some ⟨cls, dct, .dict es ep, #[]⟩ ∧ Ents es.toList kvs

theorem Ents.length {es kvs} (x : Ents es kvs) : es.length = kvs.length := by
  induction x with
  | nil => rfl
  | cons _ _ ih => simp [ih]
theorem Ents.allStr {es kvs} (x : Ents es kvs) : es.all (fun e => isExactStrKey e.key) = true := by
  induction x with
  | nil => rfl
  | cons a _ ih =>
    obtain ⟨⟨t, e⟩, _⟩ := a
    rw [List.all_cons, ih, e]; rfl
theorem Ents.find {es kvs} (x : Ents es kvs) (k : Str) : es.findIdx? (fun e => e.key.isStr k) = kvs.findIdx? (fun p => decide (p.1 = k)) := by
  induction x with
  | nil => rfl
  | @cons e kv es kvs a _ ih =>
    obtain ⟨⟨t, h⟩, _⟩ := a
    have q : e.key.isStr k = decide (kv.1 = k) := by
      rw [h]
      show (kv.1 == k) = _
      by_cases z : kv.1 = k
      · subst z; simp
      · simp [z]
    rw [List.findIdx?_cons, List.findIdx?_cons, ih, q]
theorem Ents.get {es kvs} (x : Ents es kvs) {i : Nat} {e} (h : es[i]? = some e) : ∃ kv, kvs[i]? = some kv ∧ Ent e kv := by
  induction x generalizing i with
  | nil => simp at h
  | cons a _ ih =>
    cases i with
    | zero => simp at h; subst h; exact ⟨_, rfl, a⟩
    | succ i => simpa using ih (by simpa using h)
theorem Ents.append {es kvs es' kvs'} (x : Ents es kvs) (y : Ents es' kvs') : Ents (es ++ es') (kvs ++ kvs') := by
  induction x with
  | nil => exact y
  | cons a _ ih => exact .cons a ih
theorem put_none {kvs : Rw} {k : Str} {v : Int} (h : kvs.findIdx? (fun p => decide (p.1 = k)) = none) : put kvs k v = kvs ++ [(k, v)] := by
  induction kvs with
  | nil => rfl
  | cons p r ih =>
    rw [List.findIdx?_cons] at h
    by_cases z : p.1 = k
    · simp [z] at h
    · simp only [z, decide_false, Bool.false_eq_true, if_false, Option.map_eq_none_iff] at h
      obtain ⟨a, b⟩ := p
      simp only [put, if_neg z, ih h, List.cons_append]
theorem Ents.put {es kvs} (x : Ents es kvs) {k : Str} {v : Int} {i : Nat} (h : kvs.findIdx? (fun p => decide (p.1 = k)) = some i) (u : Tok) : Ents (es.modify i fun e => { e with val := .int v u }) (put kvs k v) := by
  induction x generalizing i with
  | nil => simp at h
  | @cons e kv es kvs a x ih =>
    rw [List.findIdx?_cons] at h
    obtain ⟨p, q⟩ := kv
    by_cases z : p = k
    · simp only [z, decide_true, if_true, Option.some.injEq] at h
      subst h
      simp only [Mine.put, if_pos z]
      exact .cons ⟨a.1, u, rfl⟩ x
    · simp only [z, decide_false, Bool.false_eq_true, if_false, Option.map_eq_some_iff] at h
      obtain ⟨j, hj, rfl⟩ := h
      simp only [Mine.put, if_neg z]
      exact .cons a (ih hj)

section
variable {α β : Type} {c : Cx} {A : Around} {h : Heap} {cls : Value} {dct : Option Addr} {sl : Array (Option Value)}

theorem Go.dictEntries {d : Addr} {p : Option Value} {es ep} {Q : Array DictEntry → Heap → Prop} (hd : h.get? d = some ⟨cls, dct, .dict es ep, sl⟩) (H : Q es h) : Go c A (PySem.dictEntries d p) Q h :=
  Go.bind (Go.loadPart hd (Go.pure H))
theorem Go.dictEpoch {d : Addr} {p : Option Value} {es ep} {Q : Nat → Heap → Prop} (hd : h.get? d = some ⟨cls, dct, .dict es ep, sl⟩) (H : Q ep h) : Go c A (PySem.dictEpoch d p) Q h :=
  Go.bind (Go.loadPart hd (Go.pure H))
theorem Go.eqBoolStr {a b : Str} {t u : Tok} {Q : Bool → Heap → Prop} (H : Q (decide (a = b)) h) : Go c A (PySem.eqBool (.str a t) (.str b u)) Q h := fun tk => wpAny_eqBool_str ⟨h, tk, rfl, H⟩

theorem Go.dictFind {d : Addr} {es ep} {kvs : Rw} {k : Str} {t : Tok} {hs : Int} {Q : Option Nat → Heap → Prop} (hd : h.get? d = some ⟨cls, dct, .dict es ep, sl⟩) (x : Ents es.toList kvs)
    (H : Q (kvs.findIdx? fun p => decide (p.1 = k)) h) : Go c A (PySem.dictFind d (.str k t) hs) Q h := by
  unfold PySem.dictFind
  refine Go.holding (Go.bind (Go.dictEntries hd ?_))
  have e1 : (es.all fun e => isExactStrKey e.key) = true := by rw [← Array.all_toList]; exact x.allStr
  dsimp only
  rw [if_pos e1]
  unfold foundByValue
  have e2 : es.findIdx? (fun e => e.key.isStr k) = kvs.findIdx? (fun p => decide (p.1 = k)) := by
    rw [← x.find k]; obtain ⟨l⟩ := es; simp
  rw [e2]
  cases q : kvs.findIdx? (fun p => decide (p.1 = k)) with
  | none => rw [q] at H; exact Go.pure H
  | some i =>
    rw [q] at H
    obtain ⟨hi, hp, _⟩ := List.findIdx?_eq_some_iff_getElem.mp q
    have hi' : i < es.size := by rw [← Array.length_toList, x.length]; exact hi
    have ge : es[i]? = some es[i] := Array.getElem?_eq_getElem hi'
    obtain ⟨kv, hkv, ⟨u, hk⟩, _⟩ := x.get (i := i) (e := es[i]) (by rw [Array.getElem?_toList]; exact ge)
    have hkv' : kvs[i] = kv := by rw [List.getElem?_eq_getElem hi] at hkv; exact Option.some.inj hkv
    dsimp only
    rw [ge]
    dsimp only
    refine Go.bind (Go.dictEpoch hd (Go.bind ?_))
    rw [hk]
    refine Go.eqBoolStr (Go.bind (Go.dictEpoch hd ?_))
    have e3 : kv.1 = k := by rw [← hkv']; exact of_decide_eq_true hp
    rw [if_neg (by simp), decide_eq_true e3]
    exact Go.bind (Go.rule (Go.pure H))
end
end Mine
namespace Mine
section
variable {α β : Type} {c : Cx} {A : Around} {h : Heap} {cls : Value} {dct : Option Addr} {sl : Array (Option Value)}

theorem Go.pyHashStr {k : Str} {t : Tok} {Q : Int → Heap → Prop} (H : ∀ i, Q i h) : Go c A (PySem.pyHash (.str k t)) Q h := fun tk => wpAny_pyHash_str ⟨h, _, rfl, H _⟩

theorem Go.dictSetHashed {d : Addr} {es ep} {kvs : Rw} {k : Str} {t : Tok} {hs : Int} {v : Int} {u : Tok} {Q : Unit → Heap → Prop} (hd : h.get? d = some ⟨cls, dct, .dict es ep, sl⟩) (x : Ents es.toList kvs) (hz : kvs.length ≤ 1000)
    (H : ∀ h' es' ep', h'.get? d = some ⟨cls, dct, .dict es' ep', sl⟩ → Ents es'.toList (put kvs k v) → Heap.SameBut d h h' → Q () h') : Go c A (PySem.dictSetHashed d (.str k t) hs (.int v u)) Q h := by
  have hsz : es.size ≤ sizeLine := by
    have := x.length
    rw [Array.length_toList] at this
    rw [sizeLine_eq]; omega
  unfold PySem.dictSetHashed
  refine Go.holding (Go.bind (Go.dictFind hd x ?_))
  cases q : kvs.findIdx? (fun p => decide (p.1 = k)) with
  | some i =>
    refine Go.bind (Go.rule (Go.bind ?_))
    intro tk
    refine wpAny_updateDict hd rfl ⟨_, _, rfl, ?_⟩
    refine Go.point ?_
    refine H _ (es.modify i fun e => { e with val := .int v u }) ep (Heap.get?_update_self _ hd rfl) ?_ (Heap.SameBut.update ..)
    rw [Array.toList_modify]
    exact x.put q u
  | none =>
    refine Go.bind (Go.rule ?_)
    intro tk
    refine wpAny_updateDictKeys (hz := hsz) hd rfl ⟨_, _, rfl, ?_⟩
    refine H _ (es.push ⟨hs, .str k t, .int v u⟩) (ep + 1) (Heap.get?_update_self _ hd rfl) ?_ (Heap.SameBut.update ..)
    rw [put_none q, Array.toList_push]
    exact x.append (.cons ⟨⟨t, rfl⟩, u, rfl⟩ .nil)

theorem Go.dictSet {d : Addr} {es ep} {kvs : Rw} {k : Str} {t : Tok} {v : Int} {u : Tok} {Q : Unit → Heap → Prop} (hd : h.get? d = some ⟨cls, dct, .dict es ep, sl⟩) (x : Ents es.toList kvs) (hz : kvs.length ≤ 1000)
    (H : ∀ h' es' ep', h'.get? d = some ⟨cls, dct, .dict es' ep', sl⟩ → Ents es'.toList (put kvs k v) → Heap.SameBut d h h' → Q () h') : Go c A (PySem.dictSet d (.str k t) (.int v u)) Q h := by
  unfold PySem.dictSet
  exact Go.holding (Go.bind (Go.pyHashStr fun i => Go.dictSetHashed hd x hz H))
end
end Mine
namespace Mine

abbrev VMap := Str → Option Value
def upd (m : VMap) (x : Str) (v : Value) : VMap := fun y => if y = x then some v else m y
theorem upd_same {m : VMap} {x : Str} {v : Value} : upd m x v x = some v := if_pos rfl
theorem upd_ne {m : VMap} {x y : Str} {v : Value} (h : y ≠ x) : upd m x v y = m y := if_neg h

theorem lim_of {c : Cx} {h : Heap} (X : (Mine.hd.heap_39 c.w.params).In h) (e1 : nsOkIn (Mine.hd.heap_39 c.w.params) cStatics = true) (e2 : nsIn (Mine.hd.heap_39 c.w.params) cStatics "sys.recursionlimit" = some none) : h.NoLimit :=
  ⟨_, .of_isNs (isNs_of_in X e1), nsMap_none_of_in X e1 e2⟩

abbrev none0 : VMap := fun _ => none
theorem lookup_upd (a : Str) (v : Value) (l : List (Str × Value)) : (fun x => List.lookup x ((a, v) :: l)) = upd (fun x => List.lookup x l) a v := by
  funext x
  rw [List.lookup_cons]
  unfold upd
  by_cases q : x = a
  · simp [q]
  · have : (x == a) = false := by simpa using q
    simp [this, q]
theorem ns_1 {h : Heap} {L : Addr} {a : Str} {v : Value} (N : h.Ns L fun x => [(a, v)].reverse.lookup x) : h.Ns L (upd none0 a v) := by
  have e : (fun x => [(a, v)].reverse.lookup x) = upd none0 a v := lookup_upd a v []
  exact e ▸ N
theorem ns_2 {h : Heap} {L : Addr} {a b : Str} {v u : Value} (N : h.Ns L fun x => [(a, v), (b, u)].reverse.lookup x) : h.Ns L (upd (upd none0 a v) b u) := by
  have e : (fun x => [(a, v), (b, u)].reverse.lookup x) = upd (upd none0 a v) b u := (lookup_upd b u [(a, v)]).trans (congrArg (fun m => upd m b u) (lookup_upd a v []))
  exact e ▸ N

section
variable {α β : Type} {c : Cx} {A : Around} {h : Heap}

theorem Go.looks {t : Sem α} {r : α} {Q : α → Heap → Prop} (L : Looks (model PR c.w) h t r) (H : Q r h) : Go c A t Q h := fun tk => L.here ⟨h, tk, rfl, H⟩

/-- a call of a def of the text's -/
theorem Go.defc {f : Addr} {args : List Value} {name qual : Str} {params : Arguments} {body : List Stmt} {scope : Scope} {dV kV doc pm cdv ct oc : Value} {an od : Option Addr} {osl : Array (Option Value)} {binds : List (Str × Value)} {Q : Value → Heap → Prop}
    (X : (Mine.hd.heap_39 c.w.params).In h) (e : (Mine.hd.heap_39 c.w.params).lookup f = some ⟨oc, od, .func (fnOf name qual params body scope dV kV doc pm an cdv ct), osl⟩) (hcd : codeIn (Mine.hd.heap_39 c.w.params) cdv qual = true)
    (e1 : nsOkIn (Mine.hd.heap_39 c.w.params) cStatics = true) (e2 : nsIn (Mine.hd.heap_39 c.w.params) cStatics "sys.recursionlimit" = some none)
    (hroom : A.depth < recursionLimit) (hbind : bindArgs (fnOf name qual params body scope dV kV doc pm an cdv ct) ⟨args, []⟩ = Pure.pure binds) (hloc : (binds.all fun x => decide (scope.names.lookup x.1 = some .local)) = true)
    (H : ∀ h₁, h₁.Ns h.objs.size (fun x => binds.reverse.lookup x) → Ext h h₁ → h.get? h.objs.size = none →
      Go c (A.deeper (envOf qual scope h.objs.size f cdv)) (execs body (envOf qual scope h.objs.size f cdv)) (fun fl h' => Q (match fl with | .ret v => v | _ => .none) h') h₁)
    (hcell : (scope.names.all fun x => x.2 != .cell) = true) (hco : scope.isCoroutine = false) (hgen : scope.isGenerator = false) (hk : scope.kind = .function) :
    Go c A (PySem.call (.ref f) args) Q h := by
  refine Go.call fun tk => ?_
  refine codeAny_call_def (fd := fnOf name qual params body scope dV kV doc pm an cdv ct) (body := body) (binds := binds) hroom (X _ _ e) rfl (lim_of X e1 e2) (codeRec_of X hcd) rfl (.of_eq hbind) (fun x hx => by simpa using List.all_eq_true.mp hcell x hx) (locs hloc) (fun h₁ hns hk₁ => ?_) hco hgen hk
  have fresh : h.get? h.objs.size = none := by
    cases q : h.get? h.objs.size with
    | none => rfl
    | some o => exact absurd (Heap.lt_size q) (Nat.lt_irrefl _)
  refine wpAny_mono (H h₁ hns hk₁ fresh _) (fun fl s' ⟨h', tk', e, q⟩ => ⟨h', tk', e, _, rfl, q⟩) fun _ _ x => x.elim

variable {nm : Str} {sc : Scope} {L f : Addr} {cd : Value}

/-- a local is read -/
theorem Go.ld {x : Str} {p : Pos} {v : Value} {m : VMap} {Q : Value → Heap → Prop} (N : h.Ns L m) (hv : m x = some v) (H : Q v h)
    (hk : sc.kind = .function) (hl : sc.names.lookup x = some .local) (hd : (x == ("__debug__" : Str)) = false) : Go c A (eval (.Name x p) (envOf nm sc L f cd)) Q h := fun tk => by
  refine wpAny_Name (wpAny_loadName_local hk hl N hv ?_) hd
  exact ⟨h, tk, rfl, H⟩
/-- a local is stored -/
theorem Go.st {x : Str} {v : Value} {m : VMap} {Q : Unit → Heap → Prop} (N : h.Ns L m) (H : ∀ h', h'.Ns L (upd m x v) → Heap.SameBut L h h' → Q () h')
    (hk : sc.kind = .function) (hl : sc.names.lookup x = some .local) : Go c A (storeName (envOf nm sc L f cd) x v) Q h := fun tk => by
  refine wpAny_storeName_local hl N (fun h' hn hs => ?_) ?_
  · exact ⟨h', _, rfl, H h' hn hs⟩
  · show (sc.kind == .class || (sc.kind == .module && L != mainGlobals)) = false
    rw [hk]; rfl
/-- a global of the text's -/
theorem Go.gl {x : Str} {p : Pos} {v : Value} {Q : Value → Heap → Prop} (X : (Mine.hd.heap_39 c.w.params).In h) (e : nsIn (Mine.hd.heap_39 c.w.params) mainGlobals x = some (some v)) (H : Q v h)
    (hk : sc.kind = .function) (hl : sc.names.lookup x = some .globalImplicit) (hd : (x == ("__debug__" : Str)) = false) : Go c A (eval (.Name x p) (envOf nm sc L f cd)) Q h := fun tk => by
  refine Name_function_global hk hl ?_ hd
  refine wpAny_bind ((looks_nsIn X e).here (wpAny_pure ?_))
  exact ⟨h, tk, rfl, H⟩
/-- a built-in name -/
theorem Go.bl {x : Str} {p : Pos} {v : Value} {Q : Value → Heap → Prop} (X : (Mine.hd.heap_39 c.w.params).In h) (e : nsIn (Mine.hd.heap_39 c.w.params) mainGlobals x = some none) (e2 : nsIn (Mine.hd.heap_39 c.w.params) builtinsNs x = some (some v)) (H : Q v h)
    (hk : sc.kind = .function) (hl : sc.names.lookup x = some .globalImplicit) (hd : (x == ("__debug__" : Str)) = false) : Go c A (eval (.Name x p) (envOf nm sc L f cd)) Q h := fun tk => by
  refine Name_function_global hk hl ?_ hd
  refine wpAny_bind ((looks_nsIn X e).here ?_)
  dsimp only
  refine wpAny_bind ((looks_nsIn X e2).here ?_)
  refine wpAny_pure ?_
  exact ⟨h, tk, rfl, H⟩
end
end Mine
namespace Mine
section
variable {α β : Type} {c : Cx} {A : Around} {h : Heap} {env : Env}

theorem Go.nil {Q : Flow → Heap → Prop} (H : Q .next h) : Go c A (execs [] env) Q h := Go.pure H
theorem Go.cons {st rest} {Q : Flow → Heap → Prop} (H : Go c A (exec st env) (fun f h' => match f with | .next => Go c A (execs rest env) Q h' | f => Q f h') h) : Go c A (execs (st :: rest) env) Q h := by
  rw [execs_cons]
  refine Go.bind (H.mono fun f h' q => ?_)
  cases f <;> first | exact q | exact Go.pure q

theorem Go.constInt {i k pos} {Q : Value → Heap → Prop} (H : ∀ t, Q (.int i t) h) : Go c A (eval (.Constant (.int i) k pos) env) Q h := fun tk => wpAny_Constant_int ⟨h, _, rfl, H _⟩
theorem Go.constStr {x k pos} {Q : Value → Heap → Prop} (H : ∀ t, Q (.str x t) h) : Go c A (eval (.Constant (.str x) k pos) env) Q h := fun tk => Constant_str ⟨h, _, rfl, H _⟩
theorem Go.constNone {k pos} {Q : Value → Heap → Prop} (H : Q .none h) : Go c A (eval (.Constant .none k pos) env) Q h := Go.pure H
theorem Go.constBool {b k pos} {Q : Value → Heap → Prop} (H : Q (.bool b) h) : Go c A (eval (.Constant (.bool b) k pos) env) Q h := Go.pure H

theorem Go.ret {e pos} {Q : Flow → Heap → Prop} (H : Go c A (eval e env) (fun v => Q (.ret v)) h) : Go c A (exec (.Return (some e) pos) env) Q h := by
  rw [exec_Return_some]
  exact Go.bind (Go.standAt (Go.bind (H.mono fun v h' q => Go.pure q)))
theorem Go.iff {test body orelse pos} {Q : Flow → Heap → Prop} (H : Go c A (isTrue test env (eval test env)) (fun b h' => if b = true then Go c A (execs body env) Q h' else Go c A (execs orelse env) Q h') h) :
    Go c A (exec (.If test body orelse pos) env) Q h := by
  rw [exec_If]
  refine Go.bind (Go.standAt (Go.bind (H.mono fun b h' q => ?_)))
  cases b <;> exact q
theorem Go.cont {pos} {Q : Flow → Heap → Prop} (H : Q .cont h) : Go c A (exec (.Continue pos) env) Q h := fun tk => wpAny_Continue ⟨h, tk, rfl, H⟩
theorem Go.brk {pos} {Q : Flow → Heap → Prop} (H : Q .brk h) : Go c A (exec (.Break pos) env) Q h := fun tk => wpAny_Break ⟨h, tk, rfl, H⟩
theorem Go.bindName {x : Str} {v : Value} {Q : Unit → Heap → Prop} (H : Go c A (storeName env x v) Q h) : Go c A (PySem.bindName env x v) Q h := fun tk => wpAny_bindName (H tk)
theorem Go.asg {x pos' value pos} {Q : Flow → Heap → Prop} (H : Go c A (eval value env) (fun v h₁ => Go c A (storeName env x v) (fun _ => Q .next) h₁) h)
    (hs : swapsWith value (some (.Name x pos')) pos.line env = Pure.pure false := by rfl) : Go c A (exec (.Assign [.Name x pos'] value pos) env) Q h := by
  rw [exec_Assign_Name env x pos' value pos hs]
  exact Go.bind (Go.standAt (Go.bind (H.mono fun v h₁ q => Go.bind (Go.standAt (Go.bind ((Go.bindName q).mono fun _ _ z => Go.pure z))))))

theorem Go.splnil {Q : List Value → Heap → Prop} (H : Q [] h) : Go c A (spliced []) Q h := Go.pure H
theorem Go.splcons {x : Sem Value} {rest} {Q : List Value → Heap → Prop} (H : Go c A x (fun v h₁ => Go c A (spliced rest) (fun vs h₂ => Q (v :: vs) h₂) h₁) h) : Go c A (spliced ((false, x) :: rest)) Q h := by
  unfold spliced
  refine Go.bind (H.mono fun v h₁ q => ?_)
  refine Go.bind (Go.pure (Go.bind (Go.holding (q.mono fun vs h₂ z => Go.pure ?_))))
  simpa using z

theorem Go.keep {vs : List Value} {m : Sem α} {Q : α → Heap → Prop} (H : Go c A m Q h) : Go c A (m.keep vs) Q h := fun tk => wpAny_keep (H tk)
theorem Go.operate {vs : List Value} {m : Sem Value} {Q : Value → Heap → Prop} (H : Go c A m Q h) : Go c A (PySem.operate vs m) Q h := fun tk => wpAny_operating (H tk)

theorem Go.evalArgs {f : Value} {trees : List (Bool × Sem Value)} {Q : Args → Heap → Prop} (hst : trees.all (fun x => !x.1) = true) (H : Go c A (spliced trees) (fun vs h' => Q ⟨vs, []⟩ h') h) :
    Go c A (PySem.evalArgs f true trees []) Q h := by
  cases trees with
  | nil =>
    unfold PySem.evalArgs
    refine Go.bind (H.mono fun vs h' q => ?_)
    refine Go.bind (Go.pure ?_)
    exact Go.holding (Go.bind (Go.pure (Go.bind (Go.pure (Go.pure q)))))
  | cons t r =>
    obtain ⟨b, x⟩ := t
    cases b with
    | true => simp at hst
    | false =>
      intro tk
      refine evalArgs_plain (wpAny_mono (H tk) (fun vs s' z => ?_) fun _ _ z => z)
      exact z

def KeepOk (c : Cx) (h : Heap) (f : Value) : Prop := ∃ k, k ≠ Keeper.caller ∧ Looks (model PR c.w) h (keeperOf f) k
theorem keep_plain {f : Value} (hf : ∀ a, f ≠ .ref a) : KeepOk c h f := ⟨.machine, by decide, by
  cases f <;> first | exact Looks.of_pure rfl | exact absurd rfl (hf _)⟩
theorem keep_K {f : Value} (X : (Mine.hd.heap_39 c.w.params).In h) (e : keepIn (Mine.hd.heap_39 c.w.params) f = true) : KeepOk c h f := by
  obtain ⟨k, hk, L⟩ := looks_keep (M := model PR c.w) e X
  exact ⟨k, by rcases hk with rfl | rfl <;> decide, L⟩

theorem Go.callW {pos : Pos} {f : Value} {first : List Value} {trees : List (Bool × Sem Value)} {Q : Value → Heap → Prop} (hst : trees.all (fun x => !x.1) = true)
    (H : Go c A (spliced trees) (fun vs h₁ => KeepOk c h₁ f ∧ Go c A (PySem.call f (first ++ vs) []) Q h₁) h) : Go c A (callWith pos f first trees []) Q h := by
  unfold callWith
  refine Go.bind (Go.holding (Go.evalArgs hst (H.mono fun vs h₁ q => ?_)))
  obtain ⟨⟨k, hk, L⟩, q⟩ := q
  refine Go.bind (Go.standAt ?_)
  have ha : (trees.any (·.1) || ([] : List (Option Str × Sem Value)).any (·.1.isNone)) = false := by
    simp only [List.any_nil, Bool.or_false]
    cases z : trees.any (·.1) with
    | false => rfl
    | true =>
      obtain ⟨x, hx, hy⟩ := List.any_eq_true.mp z
      have := List.all_eq_true.mp hst x hx
      simp [hy] at this
  dsimp only
  refine Go.bind (Go.looks L ?_)
  have tail : ∀ a h', Q a h' → Go c A (do PySem.holding [a] PySem.point; Pure.pure a) Q h' := fun a h' z => Go.bind (Go.holding (Go.point (Go.pure z)))
  simp only [List.any_nil, Bool.or_false] at ha
  simp only [List.any_nil, Bool.or_false, ha]
  cases k with
  | caller => exact absurd rfl hk
  | machine => exact Go.bind (q.mono tail)
  | frame =>
    dsimp only
    split
    · exact Go.bind (q.mono tail)
    · exact Go.bind (Go.keep (q.mono tail))
  | boundFrame =>
    dsimp only
    split
    · exact Go.bind (q.mono tail)
    · exact Go.bind (Go.keep (q.mono tail))

theorem Go.callE {func args pos} {Q : Value → Heap → Prop} (he : eval (.Call func args [] pos) env = (do callWith pos (← eval func env) [] (backTo pos (starEach args env)) (backToKw pos (keywordEach [] env))))
    (hst : (backTo pos (starEach args env)).all (fun x => !x.1) = true)
    (H : Go c A (eval func env) (fun f h₁ => Go c A (spliced (backTo pos (starEach args env))) (fun vs h₂ => KeepOk c h₂ f ∧ Go c A (PySem.call f vs []) Q h₂) h₁) h) : Go c A (eval (.Call func args [] pos) env) Q h := by
  rw [he]
  refine Go.bind (H.mono fun f h₁ q => ?_)
  exact Go.callW hst q

theorem Go.method {o : Expr} {name : Str} {apos pos : Pos} {args : List Expr} {Q : Value → Heap → Prop} (hbase : attributeBase o name env (eval o env) = eval o env)
    (hst : (backTo pos (starEach args env)).all (fun x => !x.1) = true) (hn : args.length + 0 + 0 < 30) (hline : (apos.endLine == pos.line) = true)
    (H : Go c A (eval o env) (fun ov h₁ => Go c A (getMethod ov name (do return (← importBound o env).getD true)) (fun fr h₂ => Go c A (spliced (backTo pos (starEach args env))) (fun vs h₃ => KeepOk c h₃ fr.1 ∧ Go c A (PySem.call fr.1 (fr.2 ++ vs) []) Q h₃) h₂) h₁) h) :
    Go c A (eval (.Call (.Attribute o name apos) args [] pos) env) Q h := by
  rw [arm_eval_Call, hbase]
  refine Go.bind (H.mono fun ov h₁ q => ?_)
  refine Go.bind (Go.standAt ?_)
  have hform : methodCallForm (args.length + ([] : List Keyword).length) (backTo pos (starEach args env)) (backToKw pos (keywordEach [] env)) = true := by
    have e : backToKw pos (keywordEach [] env) = [] := rfl
    unfold methodCallForm
    rw [hst, e]
    simpa using hn
  have hpos : methodCallPos true o env apos pos = Pure.pure pos := by unfold methodCallPos; simp [hline]
  unfold methodCall
  rw [hform]
  refine Go.bind (Go.holding (Go.mono q fun fr h₂ q => ?_))
  rw [hpos]
  exact Go.bind (Go.pure (Go.callW hst q))
end
end Mine
namespace Mine
theorem ext_of_extBut {h h' : Heap} (x : Heap.ExtBut h.objs.size h h') : Ext h h' := fun b o e => x b o (Nat.ne_of_lt (Heap.lt_size e)) e
theorem but_of_same {a : Addr} {h h' : Heap} (x : Heap.SameBut a h h') : But a h h' := fun b o n e => (x.2 b n).trans e
theorem fresh_at (h : Heap) : h.get? h.objs.size = none := by
  cases q : h.get? h.objs.size with
  | none => rfl
  | some o => exact absurd (Heap.lt_size q) (Nat.lt_irrefl _)
theorem ext_of_but {a : Addr} {h h' : Heap} (x : But a h h') (f : h.get? a = none) : Ext h h' := fun b o e => x b o (fun q => by rw [q, f] at e; cases e) e
theorem Ext.fresh {a : Addr} {h h' : Heap} (x : Ext h h') (f : h'.get? a = none) : h.get? a = none := by
  cases q : h.get? a with
  | none => rfl
  | some o => rw [x _ _ q] at f; cases f
theorem ns_keeps {L : Addr} {m : VMap} {h h' : Heap} (N : h.Ns L m) (x : Ext h h') : h'.Ns L m := N.keeps x
theorem ns_but {L a : Addr} {m : VMap} {h h' : Heap} (N : h.Ns L m) (x : But a h h') (n : L ≠ a) : h'.Ns L m := N.extBut (b := a) (fun b o q e => x b o q e) n

section
variable {α β : Type} {c : Cx} {A : Around} {h : Heap} {env : Env}

theorem Go.truthyBool {b : Bool} {Q : Bool → Heap → Prop} (H : Q b h) : Go c A (truthy (.bool b)) Q h := fun tk => wpAny_truthy_bool ⟨h, tk, rfl, H⟩
theorem Go.truthyNone {Q : Bool → Heap → Prop} (H : Q false h) : Go c A (truthy .none) Q h := Go.pure H
theorem Go.cmp {l op r pos} {Q : Value → Heap → Prop} (H : Go c A (eval l env) (fun a h₁ => Go c A (eval r env) (fun b h₂ => Go c A (compareOp op a b) Q h₂) h₁) h)
    (hm : behindInMarks op r = false := by with_unfolding_all rfl) : Go c A (eval (.Compare l [op] [r] pos) env) Q h := by
  rw [eval_Compare1, markedBehindIn_of_false hm]
  exact Go.bind (H.mono fun a h₁ q => Go.bind (Go.holding (Go.mono q fun b h₂ q => Go.bind (Go.standAt (Go.operate q)))))
theorem Go.tcmp {l op r pos whole} {Q : Bool → Heap → Prop} (H : Go c A (eval l env) (fun a h₁ => Go c A (eval r env) (fun b h₂ => Go c A (compareOp op a b) (fun v h₃ => Go c A (truthy v) Q h₃) h₂) h₁) h)
    (hm : behindInMarks op r = false := by with_unfolding_all rfl) : Go c A (isTrue (.Compare l [op] [r] pos) env whole) Q h := by
  rw [isTrue_Compare1, markedBehindIn_of_false hm]
  exact Go.bind (H.mono fun a h₁ q => Go.bind (Go.holding (Go.mono q fun b h₂ q => Go.bind (Go.standAt (Go.bind ((Go.operate q).mono fun _ _ z => Go.holding z))))))
theorem Go.tnot {x pos whole} {Q : Bool → Heap → Prop} (H : Go c A (isTrue x env (eval x env)) (fun b => Q (!b)) h) : Go c A (isTrue (.UnaryOp .Not x pos) env whole) Q h := by
  rw [arm_isTrue_UnaryOp]
  exact Go.bind (H.mono fun _ _ q => Go.pure q)
theorem Go.tval {e whole} {Q : Bool → Heap → Prop} (H : Go c A whole (fun v h₁ => Go c A (truthy v) Q h₁) h) (he : isTrue e env whole = (do let v ← whole; PySem.standAt e.pos; PySem.holding [v] (truthy v)) := by rfl) :
    Go c A (isTrue e env whole) Q h := by
  rw [he]
  exact Go.bind (H.mono fun v h₁ q => Go.bind (Go.standAt (Go.holding q)))
theorem Go.tor {x rest pos whole} {Q : Bool → Heap → Prop} (H : Go c A (allTrue .Or (x :: rest) env) Q h) : Go c A (isTrue (.BoolOp .Or (x :: rest) pos) env whole) Q h := by rw [arm_isTrue_BoolOp]; exact H
theorem Go.tand {x rest pos whole} {Q : Bool → Heap → Prop} (H : Go c A (allTrue .And (x :: rest) env) Q h) : Go c A (isTrue (.BoolOp .And (x :: rest) pos) env whole) Q h := by rw [arm_isTrue_BoolOp]; exact H
theorem Go.ornil {Q : Bool → Heap → Prop} (H : Q false h) : Go c A (allTrue .Or [] env) Q h := Go.pure H
theorem Go.andnil {Q : Bool → Heap → Prop} (H : Q true h) : Go c A (allTrue .And [] env) Q h := Go.pure H
theorem Go.orcons {x rest} {Q : Bool → Heap → Prop} (H : Go c A (isTrue x env (eval x env)) (fun b h₁ => if b = true then Q true h₁ else Go c A (allTrue .Or rest env) Q h₁) h) : Go c A (allTrue .Or (x :: rest) env) Q h := by
  rw [arm_allTrue_cons]
  refine Go.bind (H.mono fun b h₁ q => ?_)
  cases b with
  | true => exact Go.pure q
  | false => exact q
theorem Go.andcons {x rest} {Q : Bool → Heap → Prop} (H : Go c A (isTrue x env (eval x env)) (fun b h₁ => if b = true then Go c A (allTrue .And rest env) Q h₁ else Q false h₁) h) : Go c A (allTrue .And (x :: rest) env) Q h := by
  rw [arm_allTrue_cons]
  refine Go.bind (H.mono fun b h₁ q => ?_)
  cases b with
  | true => exact q
  | false => exact Go.pure q
theorem Go.ifexp {test body orelse pos} {Q : Value → Heap → Prop} (H : Go c A (isTrue test env (eval test env)) (fun b h₁ => if b = true then Go c A (eval body env) Q h₁ else Go c A (eval orelse env) Q h₁) h) :
    Go c A (eval (.IfExp test body orelse pos) env) Q h := by
  rw [arm_eval_IfExp]
  refine Go.bind (H.mono fun b h₁ q => ?_)
  cases b with
  | true => exact q
  | false => exact q
theorem Go.binop {l op r pos} {Q : Value → Heap → Prop} (H : Go c A (eval l env) (fun a h₁ => Go c A (eval r env) (fun b h₂ => Go c A (binaryOp op a b) Q h₂) h₁) h) : Go c A (eval (.BinOp l op r pos) env) Q h := by
  rw [eval_BinOp]
  exact Go.bind (H.mono fun a h₁ q => Go.bind (Go.holding (Go.mono q fun b h₂ q => Go.bind (Go.standAt (Go.operate q)))))
theorem Go.list {elts pos} {Q : Value → Heap → Prop} (H : Go c A (spliced (backTo pos (starEach elts env))) (fun vs h₁ => vs.length ≤ 1000 ∧ Q (.ref h₁.objs.size) (h₁.push ⟨.type "list", Option.none, .seq vs.toArray, #[]⟩)) h) : Go c A (eval (.List elts pos) env) Q h := fun tk =>
  wpAny_List_spliced (wpAny_mono (H tk) (fun vs s' ⟨h', tk', e, q⟩ => ⟨by rw [sizeLine_eq]; omega, by subst e; exact ⟨_, tk', rfl, q.2⟩⟩) fun _ _ x => x)
theorem Go.tuple {elts k pos} {Q : Value → Heap → Prop} (H : Go c A (spliced (backTo pos (starEach elts env))) (fun vs h₁ => vs.length ≤ 1000 ∧ Q (.ref h₁.objs.size) (h₁.push ⟨.type "tuple", Option.none, .seq vs.toArray, #[]⟩)) h) : Go c A (eval (.Tuple elts k pos) env) Q h := fun tk =>
  wpAny_Tuple_spliced (wpAny_mono (H tk) (fun vs s' ⟨h', tk', e, q⟩ => ⟨by rw [sizeLine_eq]; omega, by subst e; exact ⟨_, tk', rfl, q.2⟩⟩) fun _ _ x => x)

/-- a tuple is taken apart -/
theorem Go.asgTup {elts k pos} {t : Addr} {items : Array Value} {Q : Unit → Heap → Prop} (ht : h.IsTuple t items) (hn : (assignEach elts env).length = items.size) (hstar : (assignEach elts env).findIdx? (·.1) = Option.none)
    (H : ∀ h', Ext h h' → Go c A (assignInOrder ((assignEach elts env).map (·.2)) items.toList) Q h') (hh : A.handled = Option.none := by rfl) : Go c A (assign (.Tuple elts k pos) env (.ref t)) Q h := fun tk =>
  wpAny_assign_Tuple hh ht hn hstar fun h' e => H h' (ext_of_extBut e) tk
theorem Go.aionil {ts : List (Value → Sem Unit)} {Q : Unit → Heap → Prop} (H : Q () h) : Go c A (assignInOrder ts []) Q h := by cases ts <;> exact Go.pure H
theorem Go.aiocons {t : Value → Sem Unit} {ts x xs} {Q : Unit → Heap → Prop} (H : Go c A (t x) (fun _ h₁ => Go c A (assignInOrder ts xs) Q h₁) h) : Go c A (assignInOrder (t :: ts) (x :: xs)) Q h :=
  Go.bind (Go.holding H)
theorem Go.asgName {x p v} {Q : Unit → Heap → Prop} (H : Go c A (storeName env x v) Q h) : Go c A (assign (.Name x p) env v) Q h := by
  rw [arm_assign_Name]; exact Go.bind (Go.standAt (Go.bindName H))

theorem Go.forS {target iter body pos} {Q : Flow → Heap → Prop} (H : Go c A (eval iter env) (fun x h₁ => Go c A (pyIter x) (fun it h₂ => GoC c A (.forLoop target it body [] env) Q h₂) h₁) h)
    (hs : ∀ x, foldedSetIterable iter env x = Pure.pure x := by intro _; rfl) (hA : A.handled = Option.none := by rfl) : Go c A (exec (.For target iter body [] pos) env) Q h := fun tk => by
  refine wpAny_For (wpAny_mono (H tk) (fun x s₁ ⟨h₁, t₁, e, q⟩ => ?_) fun _ _ x => x) hs
  subst e
  refine wpAny_mono (q t₁) (fun it s₂ ⟨h₂, t₂, e, q⟩ => ?_) fun _ _ x => x
  subst e
  refine codeAny_mono (q t₂) fun r s' z => ?_
  cases r with
  | ok f => exact z
  | error e => exact z.elim

theorem GoC.forLoop {target : Expr} {it : Value} {body : List Stmt} {Q : Flow → Heap → Prop} (J : Nat → Heap → Prop) (n : Nat) (h0 : J 0 h)
    (step : ∀ i h, i < n → J i h → Go c A (pyNext it) (fun r h₁ => ∃ v, r = some v ∧ Go c A (letOwnedTupleGo target it v) (fun _ h₂ => Go c A (assign target env v) (fun _ h₃ => Go c A (execs body env) (fun f h₄ => match f with
      | .next | .cont => J (i + 1) h₄
      | .brk => Q .next h₄
      | .ret v => Q (.ret v) h₄) h₃) h₂) h₁) h)
    (fin : ∀ h, J n h → Go c A (pyNext it) (fun r h₁ => r = Option.none ∧ Q .next h₁) h) : GoC c A (.forLoop target it body [] env) Q h := fun tk => by
  refine codeAny_forLoop_any (fun k s => ∃ i h' tk', s = ⟨h', c.g, c.d, tk', c.os⟩ ∧ J i h' ∧ i ≤ n ∧ k = n - i) ?_ n ⟨0, h, tk, rfl, h0, Nat.zero_le _, rfl⟩
  rintro k s ⟨i, h', tk', rfl, hJ, hi, rfl⟩
  by_cases hlt : i < n
  · refine wpAny_mono (step i h' hlt hJ tk') (fun r s₁ ⟨h₁, t₁, e, v, hr, q⟩ => ?_) fun _ _ x => x.elim
    subst e hr
    dsimp only
    refine wpAny_mono (q t₁) (fun _ s₂ ⟨h₂, t₂, e, q⟩ => ?_) fun _ _ x => x.elim
    subst e
    refine wpAny_mono (q t₂) (fun _ s₃ ⟨h₃, t₃, e, q⟩ => ?_) fun _ _ x => x.elim
    subst e
    refine wpAny_mono (q t₃) (fun f s₄ ⟨h₄, t₄, e, q⟩ => ?_) fun _ _ x => x.elim
    subst e
    cases f with
    | next => exact ⟨n - (i + 1), by omega, i + 1, h₄, t₄, rfl, q, hlt, rfl⟩
    | cont => exact ⟨n - (i + 1), by omega, i + 1, h₄, t₄, rfl, q, hlt, rfl⟩
    | brk => exact ⟨h₄, t₄, rfl, q⟩
    | ret v => exact ⟨h₄, t₄, rfl, q⟩
  · have e : i = n := by omega
    subst e
    refine wpAny_mono (fin h' hJ tk') (fun r s₁ ⟨h₁, t₁, e, hr, q⟩ => ?_) fun _ _ x => x.elim
    subst e hr
    dsimp only
    exact wpAny_execs_nil ⟨h₁, t₁, rfl, q⟩

/-- over a list: the list stays as it is, the iterator is the loop's own -/
theorem Go.iterList {l : Addr} {items : Array Value} {Q : Value → Heap → Prop} (hl : h.IsList l items) (H : ∀ h', h'.IsListIter h.objs.size l 0 → Ext h h' → Q (.ref h.objs.size) h') : Go c A (pyIter (.ref l)) Q h := fun tk =>
  wpAny_pyIter_list hl ⟨_, tk, rfl, H _ ⟨_, Heap.get?_push_size _ rfl, rfl, rfl⟩ fun b o e => Heap.get?_push_of_some _ e⟩
theorem Go.nextList {it l : Addr} {i : Nat} {items : Array Value} {v : Value} {Q : Option Value → Heap → Prop} (hit : h.IsListIter it l i) (hl : h.IsList l items) (hx : items[i]? = some v)
    (H : ∀ h', h'.IsListIter it l (i + 1) → Heap.SameBut it h h' → Q (some v) h') : Go c A (pyNext (.ref it)) Q h := fun tk => wpAny_pyNext_list_item hit hl hx fun h' a b => ⟨h', tk, rfl, H h' a b⟩
theorem Go.endList {it l : Addr} {i : Nat} {items : Array Value} {Q : Option Value → Heap → Prop} (hit : h.IsListIter it l i) (hl : h.IsList l items) (hx : items[i]? = Option.none)
    (H : ∀ h', But it h h' → Q Option.none h') (hA : A.handled = Option.none := by rfl) : Go c A (pyNext (.ref it)) Q h := fun tk => wpAny_pyNext_list_end hA hit hl hx fun h' a => ⟨h', tk, rfl, H h' fun b o n e => a b o n e⟩
theorem Go.letGoList {target : Expr} {it l : Addr} {i : Nat} {v : Value} {Q : Unit → Heap → Prop} (hit : h.IsListIter it l i) (H : Q () h) : Go c A (letOwnedTupleGo target (.ref it) v) Q h := fun tk => letGo_listiter hit ⟨h, tk, rfl, H⟩
theorem Go.iterTuple {l : Addr} {items : Array Value} {Q : Value → Heap → Prop} (hl : h.IsTuple l items) (H : ∀ h', h'.IsTupleIter h.objs.size l 0 → Ext h h' → Q (.ref h.objs.size) h') : Go c A (pyIter (.ref l)) Q h := fun tk =>
  wpAny_pyIter_tuple hl ⟨_, tk, rfl, H _ ⟨_, Heap.get?_push_size _ rfl, rfl, rfl⟩ fun b o e => Heap.get?_push_of_some _ e⟩

end
end Mine
namespace Mine
theorem plainAt {h h' : Heap} {a : Addr} {items : Array Value} (x : PlainL h a items) (k : ∀ o, h.get? a = some o → h'.get? a = some o) : PlainL h' a items := let ⟨o, n, e, r⟩ := x; ⟨o, n, k _ e, r⟩
/-- what h' has beyond h stands in g' -/
abbrev New (h h' g' : Heap) : Prop := ∀ b o, h.get? b = none → h'.get? b = some o → g'.get? b = some o
theorem New.trans {h h₁ h₂ g : Heap} (x : Ext h₁ h₂) (y : New h h₂ g) : New h h₁ g := fun b o n e => y b o n (x b o e)
theorem New.back {h h₁ h₂ g : Heap} (x : Ext h h₁) (y : New h h₂ g) : New h₁ h₂ g := fun b o n e => y b o (x.fresh n) e
theorem New.self (h h' : Heap) : New h h' h' := fun _ _ _ e => e

theorem frz (h : Heap) (l : List Addr) : ∃ g, Ext g h ∧ (∀ a ∈ l, g.get? a = none) ∧ ∀ b o, b ∉ l → h.get? b = some o → g.get? b = some o :=
  ⟨hideAll h l, fun b o e => of_hideAll l e, fun a ha => hideAll_none l ha, fun b o n e => hideAll_get l e n⟩

/-- an iterator of the comprehension's own: its place, its turns -/
structure Wk (c : Cx) (A : Around) (target : Expr) (I n : Nat) (P : Nat → Value → Prop) (B : Heap → Prop) (St : Nat → Heap → Prop) : Prop where
  has : ∀ i h, St i h → ∃ o, h.get? I = some o
  fr : ∀ i h h', (∀ o, h.get? I = some o → h'.get? I = some o) → St i h → St i h'
  item : ∀ i h (Q : Option Value → Heap → Prop), i < n → B h → St i h → (∀ v h', P i v → St (i + 1) h' → Heap.SameBut I h h' → Q (some v) h') → Go c A (pyNext (.ref I)) Q h
  done : ∀ h (Q : Option Value → Heap → Prop), B h → St n h → (∀ h', But I h h' → Q none h') → Go c A (pyNext (.ref I)) Q h
  lets : ∀ i h v (Q : Unit → Heap → Prop), St i h → Q () h → Go c A (letOwnedTupleGo target (.ref I) v) Q h
  self : ∀ i h (Q : Value → Heap → Prop), St i h → Q (.ref I) h → Go c A (pyIter (.ref I)) Q h

section
variable {α β : Type} {c : Cx} {A : Around} {h : Heap} {env : Env}

theorem GoC.loop {k : Code} {R : Flow → Heap → Prop} (hq : k.quiet = true) (I : Nat → Heap → Prop)
    (turn : ∀ n h, I n h → Go c (A.under k) (denote table k) (fun fin h' => match fin with | .done f => R f h' | .again k' => k' = k ∧ ∃ m, m < n ∧ I m h') h)
    (n : Nat) (h0 : I n h) : GoC c A k R h := by
  induction n using Nat.strongRecOn generalizing h with
  | ind n ih =>
    refine GoC.tree ((turn n h h0).mono fun fin h' x => ?_)
    cases fin with
    | done f => exact x
    | again k' => obtain ⟨rfl, m, hm, hI⟩ := x; exact ⟨hq, ih m hm hI⟩

theorem Go.append {l : Addr} {items : Array Value} {x : Value} {Q : Value → Heap → Prop} (hl : PlainL h l items) (hsz : items.size ≤ 1000)
    (H : ∀ h', PlainL h' l (items.push x) → Heap.SameBut l h h' → Q .none h') : Go c A (PySem.call (.builtin "list.append") [.ref l, x]) Q h := fun tk => by
  refine list_append_plainL (hsz := by rw [sizeLine_eq]; omega) hl fun h' a b => ?_
  exact ⟨h', tk, rfl, H h' a b⟩

def testsT (ifs : List Expr) (env : Env) : Sem Bool := forIn ifs true fun c r => if r = true then do let ok ← isTrue c env (eval c env); Pure.pure (ForInStep.yield ok) else Pure.pure (ForInStep.yield r)
theorem Go.testsNil {Q : Bool → Heap → Prop} (H : Q true h) : Go c A (testsT [] env) Q h := Go.pure H
theorem Go.testsOne {e : Expr} {Q : Bool → Heap → Prop} (H : Go c A (isTrue e env (eval e env)) Q h) : Go c A (testsT [e] env) Q h := fun tk => wpAny_tests_one (H tk)

theorem comp_tree {elt target iter : Expr} {ifs : List Expr} {scope : Scope} {pos : Pos} {it acc : Value} :
    denote table (.compLoop (.ListComp elt [⟨target, iter, ifs, 0⟩] scope pos) 0 it acc env) = (compTurn (.ListComp elt [⟨target, iter, ifs, 0⟩] scope pos) 0 it acc env).onRaise (fun x => do noteFrame x env; theTreesLotGoes x) := rfl

theorem GoC.compLoop {elt target iter : Expr} {ifs : List Expr} {scope : Scope} {pos : Pos} {I D n : Nat} {P : Nat → Value → Prop} {B : Heap → Prop} {St : Nat → Heap → Prop} {m : VMap} {R : Flow → Heap → Prop} {g : Heap}
    (J : Nat → Heap → List Value → Prop) (W : Wk c A target I n P B St) (hB : ∀ h', (∀ b o, b ≠ I → b ≠ D → b ≠ env.locals → h.get? b = some o → h'.get? b = some o) → B h') (hID : I ≠ D) (hIC : I ≠ env.locals) (hDC : D ≠ env.locals)
    (gI : g.get? I = none) (gD : g.get? D = none) (gC : g.get? env.locals = none)
    (G : Ext g h) (hit : St 0 h) (hacc : PlainL h D #[]) (hn : h.Ns env.locals m) (hsz : n ≤ 1000) (h0 : ∀ g', Ext g g' → J 0 g' [])
    (step : ∀ i v h₁ m₁ ys, i < n → P i v → (∀ b o, b ≠ I → b ≠ D → b ≠ env.locals → h.get? b = some o → h₁.get? b = some o) → J i h₁ ys → h₁.Ns env.locals m₁ →
      Go c A (assign target env v) (fun _ h₂ => Go c A (testsT ifs env) (fun ok h₃ => if ok = true
        then Go c A (eval elt env) (fun y h₄ => But env.locals h₁ h₄ ∧ (∃ m, h₄.Ns env.locals m) ∧ ∀ g', Ext g g' → New h₁ h₄ g' → J i g' ys → J (i + 1) g' (ys ++ [y])) h₃
        else But env.locals h₁ h₃ ∧ (∃ m, h₃.Ns env.locals m) ∧ ∀ g', Ext g g' → New h₁ h₃ g' → J i g' ys → J (i + 1) g' ys) h₂) h₁)
    (fin : ∀ h₁ ys m, (∀ b o, b ≠ I → b ≠ D → b ≠ env.locals → h.get? b = some o → h₁.get? b = some o) → (∀ g', Ext g g' → New h h₁ g' → J n g' ys) → ys.length ≤ n → PlainL h₁ D ys.toArray → h₁.Ns env.locals m → R .next h₁)
    : GoC c A (.compLoop (.ListComp elt [⟨target, iter, ifs, 0⟩] scope pos) 0 (.ref I) (.ref D) env) R h := by
  have hI : ∃ o, h.get? I = some o := W.has _ _ hit
  have hD : ∃ o, h.get? D = some o := let ⟨o, _, e, _⟩ := hacc; ⟨o, e⟩
  have hC : ∃ o, h.get? env.locals = some o := let ⟨o, _, _, e, _⟩ := hn; ⟨o, e⟩
  refine GoC.loop rfl (fun k h' => ∃ i ys m, i ≤ n ∧ k = n - i ∧ ys.length ≤ i ∧ (∀ b o, b ≠ I → b ≠ D → b ≠ env.locals → h.get? b = some o → h'.get? b = some o) ∧
      (∀ g', Ext g g' → New h h' g' → J i g' ys) ∧ St i h' ∧ PlainL h' D ys.toArray ∧ h'.Ns env.locals m) ?_ n
    ⟨0, [], m, Nat.zero_le _, rfl, Nat.le_refl _, fun _ _ _ _ _ e => e, fun g' x _ => h0 g' x, hit, hacc, hn⟩
  rintro k h' ⟨i, ys, m₁, hi, rfl, hys, K3, hJ, it₁, l₁, n₁⟩
  rw [comp_tree]
  show Go c A _ _ h'
  refine Go.onRaise ?_
  rw [compTurn_list]
  refine Go.bind (Go.standAt (Go.bind ?_))
  have hBh : B h' := hB h' K3
  have GH : Ext g h' := fun b o e => K3 b o (fun q => by rw [q, gI] at e; cases e) (fun q => by rw [q, gD] at e; cases e) (fun q => by rw [q, gC] at e; cases e) (G b o e)
  have off : ∀ b, h.get? b = none → b ≠ I ∧ b ≠ D ∧ b ≠ env.locals := by
    intro b e
    refine ⟨?_, ?_, ?_⟩
    · rintro rfl; obtain ⟨o, z⟩ := hI; rw [z] at e; cases e
    · rintro rfl; obtain ⟨o, z⟩ := hD; rw [z] at e; cases e
    · rintro rfl; obtain ⟨o, z⟩ := hC; rw [z] at e; cases e
  by_cases hlt : i < n
  · refine W.item i h' _ hlt hBh it₁ fun v h₁ hPv it₂ s₁ => ?_
    dsimp only
    have b₁ := but_of_same s₁
    refine Go.bind (W.lets _ _ _ _ it₂ ?_)
    have l₂ : PlainL h₁ D ys.toArray := plainAt l₁ fun o e => b₁ _ _ (Ne.symm hID) e
    have n₂ : h₁.Ns env.locals m₁ := ns_but n₁ b₁ (Ne.symm hIC)
    have K4 : ∀ b o, b ≠ I → b ≠ D → b ≠ env.locals → h.get? b = some o → h₁.get? b = some o := fun b o e1 e2 e3 e => b₁ _ _ e1 (K3 b o e1 e2 e3 e)
    have back : ∀ b o, h.get? b = none → h₁.get? b = some o → h'.get? b = some o := fun b o n e => (s₁.2 b (off b n).1).symm.trans e
    have hJ₁ : ∀ g', Ext g g' → New h h₁ g' → J i g' ys := fun g' x y => hJ g' x fun b o n e => y b o n (b₁ b o (off b n).1 e)
    refine Go.bind ((step i v h₁ m₁ ys hlt hPv K4 (hJ₁ h₁ (fun b o e => b₁ b o (fun q => by rw [q, gI] at e; cases e) (GH b o e)) (New.self _ _)) n₂).mono fun _ h₂ q => ?_)
    refine Go.bind (Go.mono (t := testsT ifs env) q fun ok h₃ q => ?_)
    have next : ∀ h₄ ys', But env.locals h₁ h₄ → (∃ m, h₄.Ns env.locals m) → (∀ g', Ext g g' → New h₁ h₄ g' → J i g' ys → J (i + 1) g' ys') → ys'.length ≤ i + 1 → ∀ h₅, PlainL h₅ D ys'.toArray → But D h₄ h₅ → Heap.SameBut D h₄ h₅ →
        ∃ m', m' < n - i ∧ ∃ i' ys m, i' ≤ n ∧ m' = n - i' ∧ ys.length ≤ i' ∧ (∀ b o, b ≠ I → b ≠ D → b ≠ env.locals → h.get? b = some o → h₅.get? b = some o) ∧
          (∀ g', Ext g g' → New h h₅ g' → J i' g' ys) ∧ St i' h₅ ∧ PlainL h₅ D ys.toArray ∧ h₅.Ns env.locals m := by
      rintro h₄ ys' b₄ ⟨m₄, n₄⟩ hj hy h₅ l₅ b₅ s₅
      refine ⟨n - (i + 1), by omega, i + 1, ys', m₄, hlt, rfl, hy, fun b o e1 e2 e3 e => b₅ b o e2 (b₄ b o e3 (K4 b o e1 e2 e3 e)), fun g' x y => ?_, ?_, l₅, ?_⟩
      · refine hj g' x (fun b o n e => ?_) (hJ₁ g' x fun b o n e => ?_)
        · have hb : h.get? b = none := by
            cases q : h.get? b with
            | none => rfl
            | some o' =>
              exfalso
              by_cases e1 : b = I
              · subst e1; obtain ⟨o, z⟩ := W.has _ _ it₂; rw [z] at n; cases n
              · by_cases e2 : b = D
                · subst e2; obtain ⟨o, _, z, _⟩ := l₂; rw [z] at n; cases n
                · by_cases e3 : b = env.locals
                  · subst e3; obtain ⟨o, _, _, z, _⟩ := n₂; rw [z] at n; cases n
                  · rw [K4 b o' e1 e2 e3 q] at n; cases n
          exact y b o hb (b₅ b o (off b hb).2.1 e)
        · exact y b o n (b₅ b o (off b n).2.1 (b₄ b o (off b n).2.2 e))
      · exact W.fr _ _ _ (fun o e => b₅ _ _ hID (b₄ _ _ hIC e)) it₂
      · exact ns_but n₄ b₅ (Ne.symm hDC)
    cases ok with
    | true =>
      simp only [if_true] at q ⊢
      refine Go.bind (Go.bind (Go.mono q fun y h₄ q => ?_))
      obtain ⟨b₄, n₄, hj⟩ := q
      have l₄ : PlainL h₄ D ys.toArray := plainAt l₂ fun o e => b₄ _ _ hDC e
      refine Go.bind (Go.append l₄ (by simp; omega) fun h₅ l₅ s₅ => Go.pure (Go.pure ⟨rfl, ?_⟩))
      refine next h₄ (ys ++ [y]) b₄ n₄ hj (by simp; omega) h₅ ?_ (but_of_same s₅) s₅
      simpa using l₅
    | false =>
      simp only [Bool.false_eq_true, if_false] at q ⊢
      obtain ⟨b₄, n₄, hj⟩ := q
      exact Go.pure ⟨rfl, next h₃ ys b₄ n₄ hj (by omega) h₃ (plainAt l₂ fun o e => b₄ _ _ hDC e) (fun _ _ _ e => e) (Heap.SameBut.refl _ _)⟩
  · have e : i = n := by omega
    subst e
    refine W.done _ _ hBh it₁ fun h₁ b₁ => ?_
    refine Go.pure ?_
    refine fin h₁ ys m₁ (fun b o e1 e2 e3 e => b₁ _ _ e1 (K3 b o e1 e2 e3 e)) (fun g' x y => hJ g' x fun b o n e => y b o n (b₁ b o (off b n).1 e)) hys (plainAt l₁ fun o e => b₁ _ _ (Ne.symm hID) e) (ns_but n₁ b₁ (Ne.symm hIC))
end
end Mine
namespace Mine
section
variable {α β : Type} {c : Cx} {A : Around} {h : Heap} {env : Env}

/-- what a comprehension over a list asks: behind the source's evaluation -/
def CompAt (c : Cx) (A : Around) (env : Env) (elt target : Expr) (ifs : List Expr) (scope : Scope) (cl : List (Str × Addr)) (P : Addr → Heap → Prop) (x : Value) (h₁ : Heap) : Prop :=
  ∃ (o : Obj) (n : Nat) (PV : Nat → Value → Prop) (St : Nat → Heap → Prop) (g : Heap) (J : Nat → Heap → List Value → Prop), (∀ Q, Q (.ref h₁.objs.size) (h₁.push o) → Go c A (pyIter x) Q h₁) ∧ Wk c A target h₁.objs.size n PV (Ext h₁) St ∧
    (∀ h', h'.get? h₁.objs.size = some o → St 0 h') ∧ o.isFreed = false ∧ n ≤ 1000 ∧ (∃ o, h₁.get? env.locals = some o) ∧ Ext g h₁ ∧ (∀ g', Ext g g' → J 0 g' []) ∧
    (∀ C i v h₂ m ys, h₁.get? C = none → i < n → PV i v → Ext h₁ h₂ → J i h₂ ys → h₂.Ns C m →
      Go c A (assign target (compEnvC scope cl C env) v) (fun _ h₃ => Go c A (testsT ifs (compEnvC scope cl C env)) (fun ok h₄ => if ok = true
        then Go c A (eval elt (compEnvC scope cl C env)) (fun y h₅ => But C h₂ h₅ ∧ (∃ m, h₅.Ns C m) ∧ ∀ g', Ext g g' → New h₂ h₅ g' → J i g' ys → J (i + 1) g' (ys ++ [y])) h₄
        else But C h₂ h₄ ∧ (∃ m, h₄.Ns C m) ∧ ∀ g', Ext g g' → New h₂ h₄ g' → J i g' ys → J (i + 1) g' ys) h₃) h₂) ∧
    ∀ D h₂ ys, h₁.get? D = none → Ext h₁ h₂ → ys.length ≤ n → (∀ g', Ext g g' → New h₁ h₂ g' → J n g' ys) → PlainL h₂ D ys.toArray → P D h₂

def UseOk (c : Cx) (A : Around) (use : Option (Value → Sem Unit)) (Q : Value → Heap → Prop) (D C : Addr) (h₂ : Heap) : Prop := match use with
  | none => ∃ m, h₂.Ns C m ∧ ∀ h₃, Heap.SameBut C h₂ h₃ → Q (.ref D) h₃
  | some u => Go c A (u (.ref D)) (fun _ h₃ => ∃ m, h₃.Ns C m ∧ ∀ h₄, Heap.SameBut C h₃ h₄ → Q .none h₄) h₂
theorem comp_core {elt target iter : Expr} {ifs : List Expr} {scope : Scope} {cl : List (Str × Addr)} {pos : Pos} {use : Option (Value → Sem Unit)} {Q : Value → Heap → Prop} {P : Addr → Heap → Prop}
    (hs : ∀ x, foldedSetIterable iter env x = Pure.pure x) (hclos : closureFor scope env = Pure.pure cl) (hcell : (scope.names.all fun x => x.2 != .cell) = true) (hkind : scope.kind = .function)
    (hnames : ∀ x ∈ scope.names, x.2 = .local → scope.names.lookup x.1 = some .local)
    (hP : ∀ D C h₂ m, C ≠ D → C ≠ env.locals → h₂.Ns C m → (∃ items, PlainL h₂ D items) → (∀ h₃, Heap.SameBut C h₂ h₃ → P D h₃) → UseOk c A use Q D C h₂)
    (H : Go c A (eval iter env) (CompAt c A env elt target ifs scope cl P) h) (hA : A.handled = none := by rfl) :
    Go c A (comprehension (.ListComp elt [⟨target, iter, ifs, 0⟩] scope pos) scope env (firstIterPos [⟨target, iter, ifs, 0⟩] pos) (newList []) (firstAsync [⟨target, iter, ifs, 0⟩]) (firstIter [⟨target, iter, ifs, 0⟩] env) use) Q h := by
  intro tk
  refine wpAny_comprehension_free (g := ⟨target, iter, ifs, 0⟩) (gs := []) (cl := cl) rfl hs hclos hkind hnames ?_
  refine wpAny_mono (H tk) (fun x s₁ ⟨h₁, t₁, e, oI, n, PV, St, g, J, hx, W, hst, hfr, hsz, ⟨oL, eL⟩, G, h0, step, fin⟩ => ?_) fun _ _ x => x
  subst e
  refine wpAny_mono (hx (fun v h' => v = .ref h₁.objs.size ∧ h' = h₁.push oI) ⟨rfl, rfl⟩ t₁) (fun v s' ⟨h', t', e, ev, eh⟩ => ?_) fun _ _ x => x.elim
  subst e ev eh
  refine (wpAny_newObj_type (hd := by size_fits) (wpAny_newFunctionEnv (by simpa using hcell) (by intro y hy; simp at hy) (fun h₂ hns hsb => ?_) hkind))
  dsimp only at hns hsb ⊢
  generalize hH1 : h₁.push oI = H1 at hns hsb ⊢
  have s1 : H1.objs.size = h₁.objs.size + 1 := by rw [← hH1, Heap.size_push]
  generalize hH2 : H1.push { cls := .type "list", dict := none, data := .seq ([] : List Value).toArray } = H2 at hns hsb ⊢
  have s2 : H2.objs.size = h₁.objs.size + 2 := by rw [← hH2, Heap.size_push, s1]
  have nDC : H1.objs.size ≠ H2.objs.size := by omega
  have below : ∀ b o, h₁.get? b = some o → b ≠ H2.objs.size ∧ b ≠ h₁.objs.size ∧ b ≠ H1.objs.size := fun b o e => by
    have q := Heap.lt_size e
    exact ⟨Nat.ne_of_lt (Nat.lt_of_lt_of_le q (by omega)), Nat.ne_of_lt q, Nat.ne_of_lt (Nat.lt_of_lt_of_le q (by omega))⟩
  have old : Ext h₁ h₂ := fun b o e => hsb.extBut b o (below b o e).1 (Heap.get?_push_of_some _ (hH2 ▸ Heap.get?_push_of_some _ (hH1 ▸ Heap.get?_push_of_some _ e)))
  have hit : St 0 h₂ := hst _ (hsb.extBut _ _ (Nat.ne_of_lt (by omega)) (Heap.get?_push_of_some _ (hH2 ▸ Heap.get?_push_of_some _ (hH1 ▸ Heap.get?_push_size _ hfr))))
  have hacc : PlainL h₂ H1.objs.size #[] := ⟨_, _, hsb.extBut _ _ nDC (Heap.get?_push_of_some _ (hH2 ▸ Heap.get?_push_size _ rfl)), rfl, rfl, rfl⟩
  have fr : ∀ a, h₁.objs.size ≤ a → h₁.get? a = none := fun a ha => by
    cases e : h₁.get? a with
    | none => rfl
    | some o => exact absurd (Heap.lt_size e) (Nat.not_lt.mpr ha)
  have fI := fr h₁.objs.size (Nat.le_refl _)
  have fD := fr H1.objs.size (by omega)
  have fC := fr H2.objs.size (by omega)
  have key : GoC c A (.compLoop (.ListComp elt [⟨target, iter, ifs, 0⟩] scope pos) 0 (.ref h₁.objs.size) (.ref H1.objs.size) (compEnvC scope cl H2.objs.size env))
      (fun _ h₃ => UseOk c A use Q H1.objs.size H2.objs.size h₃) h₂ := by
    refine GoC.compLoop (g := g) J W (fun h' K b o e => K b o (below b o e).2.1 (below b o e).2.2 (below b o e).1 (old b o e)) (by show h₁.objs.size ≠ H1.objs.size; omega) (by show h₁.objs.size ≠ H2.objs.size; omega) (by show H1.objs.size ≠ H2.objs.size; omega)
      (G.fresh fI) (G.fresh fD) (G.fresh fC) (G.trans old) hit hacc hns hsz h0 ?_ ?_
    · intro i v h₃ m₁ ys hi hv K hj n₃
      exact step H2.objs.size i v h₃ m₁ ys fC hi hv (fun b o e => K b o (below b o e).2.1 (below b o e).2.2 (below b o e).1 (old b o e)) hj n₃
    · intro h₃ ys m K hj hy l₃ n₃
      refine hP H1.objs.size H2.objs.size h₃ m (Ne.symm nDC) (Ne.symm (below _ _ eL).1) n₃ ⟨_, l₃⟩ fun h₄ s₄ => ?_
      have b₄ := but_of_same s₄
      refine fin H1.objs.size h₄ ys fD (fun b o e => b₄ b o (below b o e).1 (K b o (below b o e).2.1 (below b o e).2.2 (below b o e).1 (old b o e))) hy (fun g' x y => hj g' x fun b o n e => ?_) (plainAt l₃ fun o e => b₄ _ _ nDC e)
      exact y b o (old.fresh n) (b₄ b o (fun q => by subst q; obtain ⟨_, _, _, z, _⟩ := hns; rw [z] at n; cases n) e)
  have post : ∀ (r : Result) (s' : Shared), (match r with | .ok f => ∃ h' tk', s' = ⟨h', c.g, c.d, tk', c.os⟩ ∧ UseOk c A use Q H1.objs.size H2.objs.size h' | .error _ => False) →
      compPost (model PR c.w) A (fun _ _ => False) use (fun v s' => ∃ h' tk', s' = ⟨h', c.g, c.d, tk', c.os⟩ ∧ Q v h') (.ref H1.objs.size) H2.objs.size r s' := by
    intro r s' z
    cases r with
    | error e => exact z.elim
    | ok f =>
      obtain ⟨h', tk', e, z⟩ := z
      subst e
      cases use with
      | none =>
        obtain ⟨m, a, b⟩ := z
        exact ⟨m, a, fun h'' s => ⟨h'', tk', rfl, b h'' s⟩⟩
      | some u =>
        refine wpAny_mono (z tk') (fun _ s'' ⟨h'', t'', e, m, a, b⟩ => ?_) fun _ _ x => x
        subst e
        exact ⟨m, a, fun h₃ s => ⟨h₃, t'', rfl, b h₃ s⟩⟩
  have two : ∀ t₂, codeAny (model PR c.w) A (.compLoop (.ListComp elt [⟨target, iter, ifs, 0⟩] scope pos) 0 (.ref h₁.objs.size) (.ref H1.objs.size) (compEnvC scope cl H2.objs.size env))
      (compPost (model PR c.w) A (fun _ _ => False) use (fun v s' => ∃ h' tk', s' = ⟨h', c.g, c.d, tk', c.os⟩ ∧ Q v h') (.ref H1.objs.size) H2.objs.size) ⟨h₂, c.g, c.d, t₂, c.os⟩ := fun t₂ => codeAny_mono (key t₂) post
  refine codeAny_compStart_list (two _) (wpAny_mono (W.self 0 h₂ (fun v h' => v = .ref h₁.objs.size ∧ h' = h₂) hit ⟨rfl, rfl⟩ _) (fun v s' ⟨h', t', e, ev, eh⟩ => ?_) fun _ _ x => x.elim)
  subst e ev eh
  exact two _

/-- a comprehension's value -/
theorem Go.compV {elt target iter : Expr} {ifs : List Expr} {scope : Scope} {cl : List (Str × Addr)} {pos : Pos} {Q : Value → Heap → Prop}
    (hclos : closureFor scope env = Pure.pure cl) (hcell : (scope.names.all fun x => x.2 != .cell) = true) (hkind : scope.kind = .function)
    (hnames : ∀ x ∈ scope.names, x.2 = .local → scope.names.lookup x.1 = some .local)
    (H : Go c A (eval iter env) (CompAt c A env elt target ifs scope cl fun D h' => Q (.ref D) h') h) (hs : ∀ x, foldedSetIterable iter env x = Pure.pure x := by intro _; rfl) (hA : A.handled = none := by rfl) :
    Go c A (eval (.ListComp elt [⟨target, iter, ifs, 0⟩] scope pos) env) Q h := by
  rw [arm_eval_ListComp]
  refine comp_core hs hclos hcell hkind hnames ?_ H hA
  intro D C h₂ m _ _ n _ f
  exact ⟨m, n, f⟩

/-- a comprehension stored under a local on its own line -/
theorem Go.asgComp {elt target iter : Expr} {ifs : List Expr} {scope : Scope} {cl : List (Str × Addr)} {pos spos py : Pos} {y : Str} {Q : Flow → Heap → Prop}
    (hsw : swapsWith (.ListComp elt [⟨target, iter, ifs, 0⟩] scope pos) (some (.Name y py)) spos.line env = Pure.pure true)
    (hclos : closureFor scope env = Pure.pure cl) (hcell : (scope.names.all fun x => x.2 != .cell) = true) (hkind : scope.kind = .function)
    (hnames : ∀ x ∈ scope.names, x.2 = .local → scope.names.lookup x.1 = some .local) (hk : env.scope.kind = .function) (hy : env.kindOf y = some .local)
    (H : Go c A (eval iter env) (fun x h₁ => (∃ m, h₁.Ns env.locals m) ∧ CompAt c A env elt target ifs scope cl (fun D h₂ => ∀ h₃ m, h₂.Ns env.locals m → h₃.Ns env.locals (upd m y (.ref D)) → Heap.SameBut env.locals h₂ h₃ → Q .next h₃) x h₁) h)
    (hs : ∀ x, foldedSetIterable iter env x = Pure.pure x := by intro _; rfl) (hA : A.handled = none := by rfl) :
    Go c A (exec (.Assign [.Name y py] (.ListComp elt [⟨target, iter, ifs, 0⟩] scope pos) spos) env) Q h := by
  rw [exec_Assign_Name_used _ _ _ _ hsw]
  refine Go.bind (Go.standAt (Go.bind ?_))
  rw [arm_evalThenUse_ListComp]
  refine Go.bind ?_
  refine Go.mono (Q := fun _ h' => Q .next h') ?_ fun _ _ q => Go.pure (Go.pure q)
  refine comp_core (P := fun D h₂ => (∃ m, h₂.Ns env.locals m) ∧ ∀ h₃ m, h₂.Ns env.locals m → h₃.Ns env.locals (upd m y (.ref D)) → Heap.SameBut env.locals h₂ h₃ → Q .next h₃) hs hclos hcell hkind hnames ?_ ?_ hA
  · intro D C h₂ mC nCD nCL nC _ f
    obtain ⟨⟨m, n₂⟩, _⟩ := f h₂ (Heap.SameBut.refl _ _)
    show Go c A (assign (.Name y py) env (.ref D)) _ h₂
    refine Go.asgName ?_
    intro tk
    refine wpAny_storeName_local hy n₂ (fun h₃ n₃ s₃ => ?_) (by rw [hk]; rfl)
    refine ⟨h₃, _, rfl, mC, nC.sameBut s₃ nCL, fun h₄ s₄ => ?_⟩
    obtain ⟨oL, es, ep, eL, rL⟩ := id n₂
    have sm : Heap.SameBut C h₂ (h₄.update env.locals fun _ => oL) := by
      refine ⟨by rw [Heap.size_after_update, s₄.1, s₃.1], fun b nb => ?_⟩
      by_cases q : b = env.locals
      · subst q
        have e4 : h₄.get? env.locals = h₃.get? env.locals := s₄.2 _ (Ne.symm nCL)
        obtain ⟨o3, _, _, e3, _⟩ := n₃
        rw [eL]
        exact Heap.get?_update_self (fun _ => oL) (e4.trans e3) (Obj.isFreed_of_dict rL.1)
      · rw [Heap.get?_update_other h₄ _ (Ne.symm q), s₄.2 b nb, s₃.2 b q]
    obtain ⟨_, k⟩ := f _ sm
    have n5 : (h₄.update env.locals fun _ => oL).Ns env.locals m := n₂.sameBut sm (Ne.symm nCL)
    refine k h₄ m n5 (n₃.sameBut s₄ (Ne.symm nCL)) ⟨by rw [Heap.size_after_update], fun b nb => ?_⟩
    rw [Heap.get?_update_other h₄ _ (Ne.symm nb)]
  · refine H.mono fun x h₁ q => ?_
    obtain ⟨⟨m, n₁⟩, oI, n, PV, St, g, J, hx, W, hst, hfr, hsz, ho, G, h0, step, fin⟩ := q
    exact ⟨oI, n, PV, St, g, J, hx, W, hst, hfr, hsz, ho, G, h0, step, fun D h₂ ys fD x ly hj l₂ => ⟨⟨m, ns_keeps n₁ x⟩, fin D h₂ ys fD x ly hj l₂⟩⟩
end
end Mine
namespace Mine
section
variable {α β : Type} {c : Cx} {A : Around} {h : Heap} {env : Env}

theorem Wk.list {target : Expr} {I ax : Addr} {items : Array Value} {B : Heap → Prop} (hB : ∀ h', B h' → h'.IsList ax items) (hA : A.handled = none) : Wk c A target I items.size (fun i v => items[i]? = some v) B (fun i h => h.IsListIter I ax i) where
  has := fun i h ⟨o, e, _⟩ => ⟨o, e⟩
  fr := fun i h h' k ⟨o, e, r⟩ => ⟨o, k _ e, r⟩
  item := fun i h Q hi b st k => Go.nextList st (hB _ b) (v := items[i]) (by simp [hi]) fun h' a s => k _ h' (by simp [hi]) a s
  done := fun h Q b st k => Go.endList st (hB _ b) (by simp) k hA
  lets := fun i h v Q st q => Go.letGoList st q
  self := fun i h Q st q tk => wpAny_pyIter_listiter st ⟨_, _, rfl, q⟩

theorem Go.nextRange {it : Addr} {x left step : Int} {Q : Option Value → Heap → Prop} (hit : IsRangeIter h it x left step) (hleft : 0 < left)
    (H : ∀ t h', IsRangeIter h' it (x + step) (left - 1) step → Heap.SameBut it h h' → Q (some (.int x t)) h') : Go c A (pyNext (.ref it)) Q h := fun tk =>
  wpAny_pyNext_range_item hit hleft fun h' a b => ⟨h', _, rfl, H _ h' a b⟩
theorem Go.endRange {it : Addr} {x left step : Int} {Q : Option Value → Heap → Prop} (hit : IsRangeIter h it x left step) (hleft : left ≤ 0)
    (H : ∀ h', But it h h' → Q none h') (hA : A.handled = none := by rfl) : Go c A (pyNext (.ref it)) Q h := fun tk =>
  wpAny_pyNext_range_end hA hit hleft fun h' a => ⟨h', tk, rfl, H h' fun b o n e => a b o n e⟩
theorem Go.letGoName {x : Str} {p : Pos} {it v : Value} {Q : Unit → Heap → Prop} (H : Q () h) : Go c A (letOwnedTupleGo (.Name x p) it v) Q h := Go.pure H

theorem Wk.range {x : Str} {p : Pos} {I : Addr} {n : Nat} {B : Heap → Prop} (hA : A.handled = none) : Wk c A (.Name x p) I n (fun i v => ∃ t, v = .int (i : Int) t) B (fun i h => IsRangeIter h I (i : Int) ((n : Int) - (i : Int)) 1) where
  has := fun i h e => ⟨_, e⟩
  fr := fun i h h' k e => k _ e
  item := fun i h Q hi b st k => Go.nextRange st (by omega) fun t h' a s => k _ h' ⟨t, rfl⟩ (by
    have e2 : (n : Int) - (i : Int) - 1 = (n : Int) - ((i + 1 : Nat) : Int) := by push_cast; omega
    have e1 : (i : Int) + 1 = ((i + 1 : Nat) : Int) := by push_cast; rfl
    rw [e1, e2] at a; exact a) s
  done := fun h Q b st k => Go.endRange st (by omega) k hA
  lets := fun i h v Q st q => Go.letGoName q
  self := fun i h Q st q tk => wpAny_pyIter_rangeiter st ⟨_, _, rfl, q⟩

/-- a comprehension over a list -/
theorem CompAt.list {elt target : Expr} {ifs : List Expr} {scope : Scope} {cl : List (Str × Addr)} {P : Addr → Heap → Prop} {ax : Addr} {items : Array Value} (g : Heap) (J : Nat → Heap → List Value → Prop)
    (hl : h.IsList ax items) (hsz : items.size ≤ 1000) (ho : ∃ o, h.get? env.locals = some o) (G : Ext g h) (h0 : ∀ g', Ext g g' → J 0 g' [])
    (step : ∀ C i v h₂ m ys, h.get? C = none → i < items.size → items[i]? = some v → Ext h h₂ → J i h₂ ys → h₂.Ns C m →
      Go c A (assign target (compEnvC scope cl C env) v) (fun _ h₃ => Go c A (testsT ifs (compEnvC scope cl C env)) (fun ok h₄ => if ok = true
        then Go c A (eval elt (compEnvC scope cl C env)) (fun y h₅ => But C h₂ h₅ ∧ (∃ m, h₅.Ns C m) ∧ ∀ g', Ext g g' → New h₂ h₅ g' → J i g' ys → J (i + 1) g' (ys ++ [y])) h₄
        else But C h₂ h₄ ∧ (∃ m, h₄.Ns C m) ∧ ∀ g', Ext g g' → New h₂ h₄ g' → J i g' ys → J (i + 1) g' ys) h₃) h₂)
    (fin : ∀ D h₂ ys, h.get? D = none → Ext h h₂ → ys.length ≤ items.size → (∀ g', Ext g g' → New h h₂ g' → J items.size g' ys) → PlainL h₂ D ys.toArray → P D h₂) (hA : A.handled = none := by rfl) :
    CompAt c A env elt target ifs scope cl P (.ref ax) h :=
  ⟨{ cls := .type "list_iterator", data := .fields #[.ref ax, .int 0 0] }, items.size, fun i v => items[i]? = some v, fun i h' => h'.IsListIter h.objs.size ax i, g, J, fun Q q tk => wpAny_pyIter_list hl ⟨_, tk, rfl, q⟩,
    Wk.list (fun h' b => hl.at fun o e => b _ _ e) hA, fun h' e => ⟨_, e, rfl, rfl⟩, rfl, hsz, ho, G, h0, step, fin⟩

/-- a comprehension over range(n) -/
theorem CompAt.range {elt : Expr} {y : Str} {py : Pos} {ifs : List Expr} {scope : Scope} {cl : List (Str × Addr)} {P : Addr → Heap → Prop} {r : Addr} {t u v : Tok} {n : Nat} (g : Heap) (J : Nat → Heap → List Value → Prop)
    (hr : IsRange h r 0 n 1 t u v) (hsz : n ≤ 1000) (ho : ∃ o, h.get? env.locals = some o) (G : Ext g h) (h0 : ∀ g', Ext g g' → J 0 g' [])
    (step : ∀ C i t h₂ m ys, h.get? C = none → i < n → Ext h h₂ → J i h₂ ys → h₂.Ns C m →
      Go c A (assign (.Name y py) (compEnvC scope cl C env) (.int (i : Int) t)) (fun _ h₃ => Go c A (testsT ifs (compEnvC scope cl C env)) (fun ok h₄ => if ok = true
        then Go c A (eval elt (compEnvC scope cl C env)) (fun y h₅ => But C h₂ h₅ ∧ (∃ m, h₅.Ns C m) ∧ ∀ g', Ext g g' → New h₂ h₅ g' → J i g' ys → J (i + 1) g' (ys ++ [y])) h₄
        else But C h₂ h₄ ∧ (∃ m, h₄.Ns C m) ∧ ∀ g', Ext g g' → New h₂ h₄ g' → J i g' ys → J (i + 1) g' ys) h₃) h₂)
    (fin : ∀ D h₂ ys, h.get? D = none → Ext h h₂ → ys.length ≤ n → (∀ g', Ext g g' → New h h₂ g' → J n g' ys) → PlainL h₂ D ys.toArray → P D h₂) (hA : A.handled = none := by rfl) :
    CompAt c A env elt (.Name y py) ifs scope cl P (.ref r) h := by
  have hsm : Builtin.Range.small 0 n 1 = true := small_one (by decide) (by decide) (by omega) (by omega)
  have hrs : Builtin.Range.rangeSize 0 n 1 = (n : Int) := by rw [rangeSize_one]; split <;> omega
  refine ⟨_, n, fun i v => ∃ t, v = .int (i : Int) t, fun i h' => IsRangeIter h' h.objs.size (i : Int) ((n : Int) - (i : Int)) 1, g, J, fun Q q tk => wpAny_pyIter_range hr hsm ⟨_, tk, rfl, q⟩,
    Wk.range hA, fun h' e => ?_, rfl, hsz, ho, G, h0, fun C i v h₂ m ys f hi hv x j n₂ => ?_, fin⟩
  · rw [hrs] at e
    simpa using e
  · obtain ⟨t, rfl⟩ := hv
    exact step C i t h₂ m ys f hi x j n₂

theorem Go.callRange {n : Int} {t : Tok} {Q : Value → Heap → Prop} (H : ∀ r h' t u v, IsRange h' r 0 n 1 t u v → Ext h h' → h.get? r = none → Q (.ref r) h') : Go c A (PySem.call (.type "range") [.int n t]) Q h := fun tk =>
  call_range_1 ⟨_, _, rfl, H _ _ _ _ _ (Heap.get?_push_size _ rfl) (fun b o e => Heap.get?_push_of_some _ e) (fresh_at h)⟩

/-- a call of a def of the text's with one cell -/
theorem Go.defcc {f : Addr} {args : List Value} {name qual : Str} {params : Arguments} {body : List Stmt} {scope : Scope} {dV kV doc pm cdv ct oc : Value} {an od : Option Addr} {osl : Array (Option Value)} {binds : List (Str × Value)} {Q : Value → Heap → Prop}
    (cn : Str) (mL : VMap) (cv : Option Value)
    (X : (Mine.hd.heap_39 c.w.params).In h) (e : (Mine.hd.heap_39 c.w.params).lookup f = some ⟨oc, od, .func (fnOf name qual params body scope dV kV doc pm an cdv ct), osl⟩) (hcd : codeIn (Mine.hd.heap_39 c.w.params) cdv qual = true)
    (e1 : nsOkIn (Mine.hd.heap_39 c.w.params) cStatics = true) (e2 : nsIn (Mine.hd.heap_39 c.w.params) cStatics "sys.recursionlimit" = some none)
    (hroom : A.depth < recursionLimit) (hbind : bindArgs (fnOf name qual params body scope dV kV doc pm an cdv ct) ⟨args, []⟩ = Pure.pure binds)
    (hcs : ∀ L, cellsFrom L scope.names [] = [(cn, L)]) (hC : bindC (fun x => scope.names.lookup x) binds (fun _ => none) cn = cv) (hL : bindL (fun x => scope.names.lookup x) binds (fun _ => none) = mL)
    (hloc : (binds.all fun x => decide (scope.names.lookup x.1 = some .local) || (decide (scope.names.lookup x.1 = some .cell) && (x.1 == cn))) = true)
    (H : ∀ h₁, h₁.Ns h.objs.size mL → h₁.IsCell (h.objs.size + 1) cv → Ext h h₁ → h.get? h.objs.size = none → h.get? (h.objs.size + 1) = none →
      Go c (A.deeper (envOfC qual scope h.objs.size f cdv)) (execs body (envOfC qual scope h.objs.size f cdv)) (fun fl h' => Q (match fl with | .ret v => v | _ => .none) h') h₁)
    (hco : scope.isCoroutine = false) (hgen : scope.isGenerator = false) (hk : scope.kind = .function) :
    Go c A (PySem.call (.ref f) args) Q h := by
  refine Go.call fun tk => ?_
  refine codeAny_call_cells (fd := fnOf name qual params body scope dV kV doc pm an cdv ct) (body := body) (binds := binds) hroom (X _ _ e) rfl (lim_of X e1 e2) (codeRec_of X hcd) rfl hbind rfl ?_ (fun s₁ x => ?_) hco hgen hk
  · intro y hy
    have q := List.all_eq_true.mp hloc y hy
    simp only [Bool.or_eq_true, decide_eq_true_eq, Bool.and_eq_true, beq_iff_eq] at q
    rcases q with q | ⟨q, r⟩
    · exact .inl q
    · refine .inr ⟨q, ?_⟩
      show ((cellsFrom _ scope.names []).lookup y.1).isSome = true
      rw [hcs, r]
      simp
  · obtain ⟨h₁, tk₁, rfl⟩ := x.toInCall.same
    have fr : ∀ a, h.objs.size ≤ a → h.get? a = none := fun a ha => by
      cases q : h.get? a with
      | none => rfl
      | some o => exact absurd (Heap.lt_size q) (Nat.not_lt.mpr ha)
    have hN : h₁.Ns h.objs.size mL := by
      rw [← hL]
      exact x.toInCall.ns
    have hX : h₁.IsCell (h.objs.size + 1) cv := by
      rw [← hC]
      refine x.cell cn _ ?_
      show (cellsFrom _ scope.names []).lookup cn = _
      rw [hcs]
      simp
    refine wpAny_mono (H h₁ hN hX x.toInCall.keep (fr _ (Nat.le_refl _)) (fr _ (Nat.le_succ _)) _) (fun fl s' ⟨h', tk', e, q⟩ => ⟨h', tk', e, _, rfl, q⟩) fun _ _ x => x.elim

variable {nm : Str} {sc : Scope} {L f : Addr} {cd : Value}
/-- a name of a frame with cells, by kind -/
theorem Go.ldc {x : Str} {p : Pos} {v : Value} {a : Addr} {Q : Value → Heap → Prop} (hk : env.scope.kind = .function) (hl : env.kindOf x = some .cell) (hc : env.cells.lookup x = some a) (X : h.IsCell a (some v)) (H : Q v h)
    (hd : (x == ("__debug__" : Str)) = false) : Go c A (eval (.Name x p) env) Q h := fun tk => wpAny_Name (wpAny_loadName_cell hk hl hc X ⟨h, tk, rfl, H⟩) hd
theorem Go.ldf {x : Str} {p : Pos} {v : Value} {a : Addr} {Q : Value → Heap → Prop} (hk : env.scope.kind = .function) (hl : env.kindOf x = some .free) (hc : env.cells.lookup x = some a) (X : h.IsCell a (some v)) (H : Q v h)
    (hd : (x == ("__debug__" : Str)) = false) (hn : (x == ("__classdict__" : Str)) = false) : Go c A (eval (.Name x p) env) Q h := fun tk => wpAny_Name (wpAny_loadName_free hk hl hc X ⟨h, tk, rfl, H⟩ hn) hd
theorem Go.stc {x : Str} {v : Value} {v₀ : Option Value} {a : Addr} {Q : Unit → Heap → Prop} (hk : env.scope.kind = .function) (hl : env.kindOf x = some .cell) (hc : env.cells.lookup x = some a) (X : h.IsCell a v₀)
    (H : ∀ h', h'.IsCell a (some v) → Heap.SameBut a h h' → Q () h') : Go c A (storeName env x v) Q h := fun tk => wpAny_storeName_cell hk hl hc X fun h' x s => ⟨h', _, rfl, H h' x s⟩
/-- a local of any frame -/
theorem Go.ldl {x : Str} {p : Pos} {v : Value} {m : VMap} {Q : Value → Heap → Prop} (hk : env.scope.kind = .function) (hl : env.kindOf x = some .local) (N : h.Ns env.locals m) (hv : m x = some v) (H : Q v h)
    (hd : (x == ("__debug__" : Str)) = false) : Go c A (eval (.Name x p) env) Q h := fun tk => wpAny_Name (wpAny_loadName_local hk hl N hv ⟨h, tk, rfl, H⟩) hd
theorem Go.stl {x : Str} {v : Value} {m : VMap} {Q : Unit → Heap → Prop} (hk : env.scope.kind = .function) (hl : env.kindOf x = some .local) (N : h.Ns env.locals m) (H : ∀ h', h'.Ns env.locals (upd m x v) → Heap.SameBut env.locals h h' → Q () h') :
    Go c A (storeName env x v) Q h := fun tk => by
  refine wpAny_storeName_local hl N (fun h' hn hs => ⟨h', _, rfl, H h' hn hs⟩) ?_
  rw [hk]; rfl
end
end Mine
namespace Mine
section
variable {α β : Type} {c : Cx} {A : Around} {h : Heap} {env : Env}

theorem Go.add {a b : Int} {t u : Tok} {Q : Value → Heap → Prop} (H : ∀ t, Q (.int (a + b) t) h) : Go c A (binaryOp .Add (.int a t) (.int b u)) Q h := fun tk => wpAny_add_int ⟨_, _, rfl, H _⟩
theorem Go.mul {a b : Int} {t u : Tok} {Q : Value → Heap → Prop} (hm : IntMulOk a b) (H : ∀ t, Q (.int (a * b) t) h) : Go c A (binaryOp .Mult (.int a t) (.int b u)) Q h := fun tk => PyProof.Rows.mul_int ⟨_, _, rfl, H _⟩ hm
theorem Go.mod {a b : Int} {t u : Tok} {Q : Value → Heap → Prop} (hb : b ≠ 0) (H : ∀ t, Q (.int (a.fmod b) t) h) : Go c A (binaryOp .Mod (.int a t) (.int b u)) Q h := fun tk => PyProof.Rows.mod_int hb ⟨_, _, rfl, H _⟩
/-- what the walks need of the machine: no limit set, nobody looks on -/
structure Calm (h : Heap) : Prop where
  lim : h.NoLimit
  seer : h.NoSeer
theorem Calm.keeps {h h' : Heap} (x : Calm h) (e : Ext h h') : Calm h' := ⟨x.lim.keeps e, x.seer.keeps e⟩
theorem Go.floordiv {a b : Int} {t u : Tok} {e : Env} {l : List Env} {Q : Value → Heap → Prop} (C : Calm h) (hd : A.depth + 100 < recursionLimit) (hfr : A.frames = some (e :: l)) (hgen : e.scope.isGenerator = false) (hco : e.scope.isCoroutine = false)
    (hbi : e.builtins = builtinsNs) (hg : e.globals = mainGlobals) (hb : b ≠ 0) (H : ∀ t, Q (.int (a.fdiv b) t) h) : Go c A (binaryOp .FloorDiv (.int a t) (.int b u)) Q h := fun tk =>
  PyProof.Rows.floordiv_int hb ⟨_, _, rfl, H _⟩ (.inr (PySem.PylongRoom.of C.lim hd (SeerAt.of C.seer rfl hfr hgen hco hbi hg)))

theorem Go.eqInt {a b : Int} {t u : Tok} {Q : Value → Heap → Prop} (H : Q (.bool (a == b)) h) : Go c A (compareOp .Eq (.int a t) (.int b u)) Q h := fun tk => PyProof.Rows.eq_int ⟨_, _, rfl, H⟩
theorem Go.gtInt {a b : Int} {t u : Tok} {Q : Value → Heap → Prop} (H : Q (.bool (decide (b < a))) h) : Go c A (compareOp .Gt (.int a t) (.int b u)) Q h := fun tk => PyProof.Rows.gt_int ⟨_, _, rfl, H⟩
theorem Go.ltInt {a b : Int} {t u : Tok} {Q : Value → Heap → Prop} (H : Q (.bool (decide (a < b))) h) : Go c A (compareOp .Lt (.int a t) (.int b u)) Q h := fun tk => PyProof.Rows.lt_int ⟨_, _, rfl, H⟩
theorem Go.isPlain {a b : Value} {Q : Value → Heap → Prop} (hp : plainIs a b = true) (H : Q (.bool (a == b)) h) : Go c A (compareOp .Is a b) Q h := fun tk => wpAny_is_plain hp ⟨_, _, rfl, H⟩
theorem Go.isNotPlain {a b : Value} {Q : Value → Heap → Prop} (hp : plainIs a b = true) (H : Q (.bool (!(a == b))) h) : Go c A (compareOp .IsNot a b) Q h := fun tk => wpAny_isNot_plain hp ⟨_, _, rfl, H⟩
theorem Go.isSelf {x : Addr} {Q : Value → Heap → Prop} (H : Q (.bool true) h) : Go c A (compareOp .Is (.ref x) (.ref x)) Q h := fun tk => wpAny_is_ref_self ⟨_, _, rfl, H⟩
theorem Go.isNotSelf {x : Addr} {Q : Value → Heap → Prop} (H : Q (.bool false) h) : Go c A (compareOp .IsNot (.ref x) (.ref x)) Q h := fun tk => wpAny_isNot_ref_self ⟨_, _, rfl, H⟩
theorem Go.isOther {x y : Addr} {ox oy : Obj} {Q : Value → Heap → Prop} (hxy : x ≠ y) (hx : h.get? x = some ox) (hy : h.get? y = some oy) (hnt : ox.cls ≠ .type "tuple") (H : Q (.bool false) h) : Go c A (compareOp .Is (.ref x) (.ref y)) Q h := fun tk => wpAny_is_ref_other hxy hx hy hnt ⟨_, _, rfl, H⟩
theorem Go.isNotOther {x y : Addr} {ox oy : Obj} {Q : Value → Heap → Prop} (hxy : x ≠ y) (hx : h.get? x = some ox) (hy : h.get? y = some oy) (hnt : ox.cls ≠ .type "tuple") (H : Q (.bool true) h) : Go c A (compareOp .IsNot (.ref x) (.ref y)) Q h := fun tk => wpAny_isNot_ref_other hxy hx hy hnt ⟨_, _, rfl, H⟩

/-- an item by its number -/
theorem Go.subSeq {value slice pos} {Q : Value → Heap → Prop} (H : Go c A (eval value env) (fun o h₁ => Go c A (eval slice env) (fun i h₂ => ∃ a items k t v, o = .ref a ∧ i = .int k t ∧ (h₂.IsTuple a items ∨ h₂.IsList a items) ∧ 0 ≤ k ∧ k < 2 ^ 62 ∧ items[k.toNat]? = some v ∧ Q v h₂) h₁) h)
    (hs : ∀ o i, subscripted slice false o i = PySem.operate [o, i] (getItem o i) := by intro _ _; with_unfolding_all rfl) (hg : ∀ o r, letTemporaryGo value o r = Pure.pure () := by intro _ _; with_unfolding_all rfl) :
    Go c A (eval (.Subscript value slice pos) env) Q h := fun tk => by
  refine Subscript_ (wpAny_mono (H tk) (fun o s₁ ⟨h₁, t₁, e, q⟩ => ?_) fun _ _ x => x)
  subst e
  refine wpAny_mono (q t₁) (fun i s₂ ⟨h₂, t₂, e, q⟩ => ?_) fun _ _ x => x
  subst e
  obtain ⟨a, items, k, t, v, rfl, rfl, hl, h0, h1, hx, q⟩ := q
  have hlt : k < items.size := by
    have := (Array.getElem?_eq_some_iff.mp hx).1
    omega
  rcases hl with hl | hl
  · exact item_tuple hl (by omega) (by omega) (seqIndex_of h0 hlt) hx ⟨_, _, rfl, q⟩ (hs _ _) (hg _)
  · exact subscriptTail_builtin hl.typeIs slot_list_getitem.lookup (wpAny_getItem_list hl h0 (by omega) hx ⟨_, _, rfl, q⟩) (hs _ _) (hg _)

/-- names of any frame -/
theorem Go.glx {x : Str} {p : Pos} {v : Value} {Q : Value → Heap → Prop} (X : (Mine.hd.heap_39 c.w.params).In h) (e : nsIn (Mine.hd.heap_39 c.w.params) mainGlobals x = some (some v)) (H : Q v h)
    (hk : env.scope.kind = .function) (hg : env.globals = mainGlobals) (hl : env.kindOf x = some .globalImplicit) (hd : (x == ("__debug__" : Str)) = false) : Go c A (eval (.Name x p) env) Q h := fun tk => by
  refine Name_function_global hk hl ?_ hd
  unfold loadGlobal
  rw [hg]
  refine wpAny_bind ((looks_nsIn X e).here (wpAny_pure ?_))
  exact ⟨h, tk, rfl, H⟩
theorem Go.blx {x : Str} {p : Pos} {v : Value} {Q : Value → Heap → Prop} (X : (Mine.hd.heap_39 c.w.params).In h) (e : nsIn (Mine.hd.heap_39 c.w.params) mainGlobals x = some none) (e2 : nsIn (Mine.hd.heap_39 c.w.params) builtinsNs x = some (some v)) (H : Q v h)
    (hk : env.scope.kind = .function) (hg : env.globals = mainGlobals) (hb : env.builtins = builtinsNs) (hl : env.kindOf x = some .globalImplicit) (hd : (x == ("__debug__" : Str)) = false) : Go c A (eval (.Name x p) env) Q h := fun tk => by
  refine Name_function_global hk hl ?_ hd
  unfold loadGlobal
  rw [hg]
  refine wpAny_bind ((looks_nsIn X e).here ?_)
  dsimp only
  rw [hb]
  refine wpAny_bind ((looks_nsIn X e2).here ?_)
  refine wpAny_pure ?_
  exact ⟨h, tk, rfl, H⟩
end
end Mine
namespace Mine
section
variable {α β : Type} {c : Cx} {A : Around} {h : Heap} {env : Env}
theorem Go.spc {e : Expr} {es : List Expr} {pos : Pos} {Q : List Value → Heap → Prop} (H : Go c A (eval e env) (fun v h₁ => Go c A (spliced (backTo pos (starEach es env))) (fun vs h₂ => Q (v :: vs) h₂) h₁) h)
    (he : starEach (e :: es) env = (false, eval e env) :: starEach es env := by rfl) : Go c A (spliced (backTo pos (starEach (e :: es) env))) Q h := by
  rw [he]
  exact Go.splcons H
theorem Go.spn {pos : Pos} {Q : List Value → Heap → Prop} (H : Q [] h) : Go c A (spliced (backTo pos (starEach [] env))) Q h := Go.splnil H

theorem Ext.thru {a : Addr} {h h' h'' : Heap} (x : Ext h h') (y : But a h' h'') (f : h.get? a = none) : Ext h h'' := fun b o e => y b o (fun q => by subst q; rw [f] at e; cases e) (x b o e)
theorem cell_keeps {h h' : Heap} {a : Addr} {v : Option Value} (x : h.IsCell a v) (e : Ext h h') : h'.IsCell a v := x.keeps e

theorem tup_K {P : Prop} {a : Addr} {oc : Value} {od : Option Addr} {items : Array Value} {n : Nat} {sl : Array (Option Value)} (X : (Mine.hd.heap_39 c.w.params).In h) (e : (Mine.hd.heap_39 c.w.params).lookup a = some ⟨oc, od, .seq items n, sl⟩)
    (hc : oc = .type "tuple") (H : h.IsTuple a items → P) : P := H ⟨_, X _ _ e, hc, n, rfl⟩

/-- a row: a tuple of a str and an int -/
def RowAt (h : Heap) (v : Value) (kv : Str × Int) : Prop := ∃ a t u, v = .ref a ∧ h.IsTuple a #[.str kv.1 t, .int kv.2 u]
theorem RowAt.keeps {h h' : Heap} {v kv} (x : RowAt h v kv) (e : Ext h h') : RowAt h' v kv := let ⟨a, t, u, q, r⟩ := x; ⟨a, t, u, q, r.at fun o z => e _ _ z⟩
inductive Rs (h : Heap) : List Value → Rw → Prop
  | nil : Rs h [] []
  | cons {v kv vs kvs} : RowAt h v kv → Rs h vs kvs → Rs h (v :: vs) (kv :: kvs)
theorem Rs.keeps {h h' : Heap} {vs kvs} (x : Rs h vs kvs) (e : Ext h h') : Rs h' vs kvs := by
  induction x with
  | nil => exact .nil
  | cons a _ ih => exact .cons (a.keeps e) ih
theorem Rs.append {h : Heap} {vs kvs vs' kvs'} (x : Rs h vs kvs) (y : Rs h vs' kvs') : Rs h (vs ++ vs') (kvs ++ kvs') := by
  induction x with
  | nil => exact y
  | cons a _ ih => exact .cons a ih
theorem Rs.length {h : Heap} {vs kvs} (x : Rs h vs kvs) : vs.length = kvs.length := by
  induction x with
  | nil => rfl
  | cons _ _ ih => simp [ih]
theorem Rs.get {h : Heap} {vs kvs} (x : Rs h vs kvs) {i : Nat} {v} (e : vs[i]? = some v) : ∃ kv, kvs[i]? = some kv ∧ RowAt h v kv := by
  induction x generalizing i with
  | nil => simp at e
  | cons a _ ih =>
    cases i with
    | zero => simp at e; subst e; exact ⟨_, rfl, a⟩
    | succ i => simpa using ih (by simpa using e)
/-- a list of rows -/
def RowsAt (h : Heap) (a : Addr) (kvs : Rw) : Prop := ∃ vs, h.IsList a vs.toArray ∧ Rs h vs kvs
theorem RowsAt.keeps {h h' : Heap} {a kvs} (x : RowsAt h a kvs) (e : Ext h h') : RowsAt h' a kvs := let ⟨vs, p, q⟩ := x; ⟨vs, p.at fun o z => e _ _ z, q.keeps e⟩
end
end Mine
-- the value of a name in a chain of stores
local macro_rules | `(tactic| walk_at "e_mv") => `(tactic| first
  | exact Mine.upd_same
  | assumption
  | (refine (Mine.upd_ne ?ne).trans ?rest; (case ne => decide +kernel); (case rest => walk_at "e_mv")))
local macro_rules | `(tactic| walk_at "e_name") => `(tactic| first
  | (refine' Mine.Go.ldl ?a ?b ?N ?v ?H ?d; (case b => kernel_rfl); (case a => rfl); (case d => kernel_rfl); (case N => assumption); (case v => walk_at "e_mv"))
  | (refine' Mine.Go.ldc ?a ?b ?cc ?X ?H ?d; (case b => kernel_rfl); (case a => rfl); (case d => kernel_rfl); (case cc => exact rfl); (case X => assumption))
  | (refine' Mine.Go.ldf ?a ?b ?cc ?X ?H ?d ?dd; (case b => kernel_rfl); (case a => rfl); (case d => kernel_rfl); (case dd => kernel_rfl); (case cc => exact rfl); (case X => assumption))
  | (refine' Mine.Go.glx ?X ?e ?H ?a ?g ?b ?d; (case b => kernel_rfl); (case a => rfl); (case g => rfl); (case d => kernel_rfl); (case X => assumption); (case e => k_is))
  | (refine' Mine.Go.blx ?X ?e ?e2 ?H ?a ?g ?bi ?b ?d; (case b => kernel_rfl); (case a => rfl); (case g => rfl); (case bi => rfl); (case d => kernel_rfl); (case X => assumption); (case e => k_is); (case e2 => k_is)))
local macro_rules | `(tactic| walk_at "e_def") => `(tactic| (refine' Mine.Go.defc ?X ?e1 ?e2 ?e3 ?e4 ?e5 ?e6 ?e7 ?H ?e8 ?e9 ?e10 ?e11; (case X => assumption); (case e1 => k_is); (case e2 => k_is); (case e3 => kernel_rfl); (case e4 => k_is); (case e5 => first | decide | assumption | (show _ < 1000; omega)); (case e6 => exact rfl); (case e7 => kernel_rfl); (case e8 => kernel_rfl); (case e9 => rfl); (case e10 => rfl); (case e11 => rfl)))
local macro_rules | `(tactic| walk_at "e_step") => `(tactic| first
  | with_reducible refine Mine.Go.cons ?_
  | with_reducible refine Mine.Go.ret ?_
  | with_reducible refine Mine.Go.iff ?_
  | with_reducible refine Mine.Go.cmp ?_
  | with_reducible refine Mine.Go.tcmp ?_
  | with_reducible refine Mine.Go.tnot ?_
  | with_reducible refine Mine.Go.tor ?_
  | with_reducible refine Mine.Go.tand ?_
  | with_reducible refine Mine.Go.orcons ?_
  | with_reducible refine Mine.Go.ornil ?_
  | with_reducible refine Mine.Go.andcons ?_
  | with_reducible refine Mine.Go.andnil ?_
  | with_reducible refine Mine.Go.ifexp ?_
  | with_reducible refine Mine.Go.binop ?_
  | (with_reducible refine Mine.Go.constInt (fun t => ?_))
  | (with_reducible refine Mine.Go.constStr (fun t => ?_))
  | with_reducible refine Mine.Go.constNone ?_
  | with_reducible refine Mine.Go.constBool ?_
  | with_reducible refine Mine.Go.truthyBool ?_
  | with_reducible refine Mine.Go.truthyNone ?_
  | with_reducible refine Mine.Go.cont ?_
  | with_reducible refine Mine.Go.brk ?_
  | with_reducible refine Mine.Go.splnil ?_
  | (with_reducible refine Mine.Go.add (fun t => ?_))
  | (with_reducible show Mine.Go _ _ (eval (PySem.Expr.Name _ _) _) _ _; walk_at "e_name"))
namespace Mine
example (h : Heap) (w : World) (X : (Mine.hd.heap_39 w.params).In h) : PySem.Challenge.rw_ep5041_01.prog = PySem.Challenge.rw_ep5041_01.prog ∨ (Mine.hd.heap_39 w.params).In h := by
  k_fill
  exact .inl rfl

def nameAt : Nat → Str
  | 0 => Str.ofString "a"
  | 1 => Str.ofString "b"
  | 2 => Str.ofString "c"
  | 3 => Str.ofString "d"
  | _ => Str.ofString "e"
def rowAt (x : Int) (i : Nat) : Str × Int := (nameAt ((x.fdiv 30 + 2 * (i : Int)).fmod 5).toNat, (x.fdiv 150).fmod 7 + 10 * (i : Int))
def rowsN (x : Int) : Nat := ((x.fdiv 10).fmod 3).toNat
def rowsOf (x : Int) : Rw := (List.range (rowsN x)).map (rowAt x)

theorem rows_spec {c : Cx} {A : Around} {h g : Heap} {x : Int} {t : Tok} {Q : Value → Heap → Prop} {l : List Env} (X : (Mine.hd.heap_39 c.w.params).In g) (G : Ext g h) (Cm : Calm g) (hA : A.handled = none) (hd : A.depth ≤ 400) (hf : A.frames = some l)
    (H : ∀ a h', Ext h h' → (∀ g', Ext g g' → New h h' g' → RowsAt g' a (rowsOf x)) → h.get? a = none → Q (.ref a) h') : Go c A (PySem.call (.ref 395) [.int x t]) Q h := by
  have X0 := X.keeps G
  refine' Go.defcc (Str.ofString "x") none0 (some (.int x t)) ?X ?e1 ?e2 ?e3 ?e4 ?e5 ?e6 ?cs ?cc ?cl ?e7 ?H ?e9 ?e10 ?e11
  case X => assumption
  case e1 => k_is
  case e2 => k_is
  case e3 => kernel_rfl
  case e4 => k_is
  case e5 => show _ < 1000; omega
  case e6 => exact rfl
  case cs => intro L; kernel_rfl
  case cc => kernel_rfl
  case cl => kernel_rfl
  case e7 => kernel_rfl
  case e9 => rfl
  case e10 => rfl
  case e11 => rfl
  case H =>
    intro h₁ N XC E f1 f2
    have X1 := X0.keeps E
    refine Go.cons (Go.ret ?_)
    refine Go.compV (cl := [(Str.ofString "x", h.objs.size + 1)]) ?clos ?cell ?kind ?names ?H (hA := hA)
    case clos => rfl
    case cell => kernel_rfl
    case kind => rfl
    case names => decide
    case H =>
      refine Go.callE rfl rfl ?_
      walk_at "e_name"
      refine Go.spc ?_
      refine Go.binop (Go.binop ?_)
      walk_at "e_name"
      refine Go.constInt fun t1 => ?_
      refine Go.floordiv (e := envOfC (Str.ofString "_law_rows") _ _ _ _) (Cm.keeps (G.trans E)) (by show A.depth + 1 + 100 < 1000; omega) (by show A.frames.map _ = _; rw [hf]; rfl) rfl rfl rfl rfl (by decide) fun t2 => ?_
      refine Go.constInt fun t3 => ?_
      refine Go.mod (by decide) fun t4 => ?_
      refine Go.spn ⟨keep_plain (fun a e => by cases e), ?_⟩
      have hn : ((x.fdiv 10).fmod 3) = ((rowsN x : Nat) : Int) := (Int.toNat_of_nonneg (Int.fmod_nonneg_of_pos _ (by decide))).symm
      have hn3 : rowsN x < 3 := by
        have := Int.fmod_lt_of_pos (x.fdiv 10) (b := 3) (by decide)
        omega
      rw [hn]
      refine Go.callRange fun r h₂ tu tv tw R E2 fr => ?_
      refine CompAt.range (n := rowsN x) g (fun i g' ys => Rs g' ys ((List.range i).map (rowAt x))) R (by omega) ?ho (G.trans (E.trans E2)) (fun _ _ => .nil) ?step ?fin hA
      case ho => obtain ⟨o, _, _, e, _⟩ := N; exact ⟨o, E2 _ _ e⟩
      case fin =>
        intro D h₃ ys fD E3 ly hJ lD
        refine H D h₃ (E.trans (E2.trans E3)) (fun g' a b => ⟨ys, ?_, hJ g' a (b.back (E.trans E2))⟩) ?_
        · exact lD.isList.at fun o e => b D o ((E.trans E2).fresh fD) e
        · exact (E.trans E2).fresh fD
      case step =>
        intro C i t5 h₃ m ys fC hi E3 hJ N3
        refine Go.asgName (Go.stl rfl (by kernel_rfl) N3 fun h₄ N4 s4 => ?_)
        refine Go.testsNil ?_
        simp only [if_true]
        have E4 : Ext h₂ h₄ := E3.thru (but_of_same s4) fC
        have X4 : (Mine.hd.heap_39 c.w.params).In h₄ := X1.keeps (E2.trans E4)
        have XC4 : h₄.IsCell (h.objs.size + 1) (some (.int x t)) := cell_keeps XC (E2.trans E4)
        refine Go.tuple (Go.spc (Go.subSeq ?_))
        walk_at "e_name"
        refine Go.binop (Go.binop (Go.binop ?_))
        walk_at "e_name"
        refine Go.constInt fun t1 => ?_
        refine Go.floordiv (e := envOfC (Str.ofString "_law_rows") _ _ _ _) ((Cm.keeps (G.trans E)).keeps (E2.trans E4)) (by show A.depth + 1 + 100 < 1000; omega) (by show A.frames.map _ = _; rw [hf]; rfl) rfl rfl rfl rfl (by decide) fun t2 => ?_
        refine Go.binop (Go.constInt fun t3 => ?_)
        walk_at "e_name"
        refine Go.mul (by mul_fits) fun t4 => ?_
        refine Go.add fun t6 => ?_
        refine Go.constInt fun t7 => ?_
        refine Go.mod (by decide) fun t8 => ?_
        have q0 : 0 ≤ (x.fdiv 30 + 2 * (i : Int)).fmod 5 := Int.fmod_nonneg_of_pos _ (by decide)
        have q1 : (x.fdiv 30 + 2 * (i : Int)).fmod 5 < 5 := Int.fmod_lt_of_pos _ (by decide)
        have LN : ∃ items, h₄.IsTuple 383 items ∧ ∀ k : Nat, k < 5 → ∃ t, items[k]? = some (.str (nameAt k) t) := by
          refine' tup_K (a := 383) X4 ?e ?r1 ?r2
          case e => k_is
          case r1 => rfl
          case r2 =>
            intro T
            refine ⟨_, T, ?_⟩
            intro k hk
            match k, hk with
            | 0, _ => exact ⟨_, rfl⟩
            | 1, _ => exact ⟨_, rfl⟩
            | 2, _ => exact ⟨_, rfl⟩
            | 3, _ => exact ⟨_, rfl⟩
            | 4, _ => exact ⟨_, rfl⟩
        obtain ⟨items, LT, LK⟩ := LN
        obtain ⟨tn, en⟩ := LK ((x.fdiv 30 + 2 * (i : Int)).fmod 5).toNat (by omega)
        refine ⟨383, items, _, _, _, rfl, rfl, .inl LT, q0, by omega, en, ?_⟩
        refine Go.spc (Go.binop (Go.binop (Go.binop ?_)))
        walk_at "e_name"
        refine Go.constInt fun t1 => ?_
        refine Go.floordiv (e := envOfC (Str.ofString "_law_rows") _ _ _ _) ((Cm.keeps (G.trans E)).keeps (E2.trans E4)) (by show A.depth + 1 + 100 < 1000; omega) (by show A.frames.map _ = _; rw [hf]; rfl) rfl rfl rfl rfl (by decide) fun t2 => ?_
        refine Go.constInt fun t3 => ?_
        refine Go.mod (by decide) fun t4 => ?_
        refine Go.binop (Go.constInt fun t6 => ?_)
        walk_at "e_name"
        refine Go.mul (by mul_fits) fun t9 => ?_
        refine Go.add fun t10 => ?_
        refine Go.spn ⟨Nat.le_of_ble_eq_true rfl, ?_⟩
        refine ⟨fun b o n e => Heap.get?_push_of_some _ (but_of_same s4 b o n e), ⟨_, ns_keeps N4 fun b o e => Heap.get?_push_of_some _ e⟩, fun g' a b J => ?_⟩
        rw [List.range_succ, List.map_append]
        refine J.append (.cons ⟨_, tn, _, rfl, ⟨_, b _ _ ?_ (Heap.get?_push_size _ rfl), rfl, _, rfl⟩⟩ .nil)
        cases q : h₃.get? h₄.objs.size with
        | none => rfl
        | some o => exact absurd (Heap.lt_size q) (by rw [← s4.1]; exact Nat.lt_irrefl _)
end Mine
namespace Mine
section
variable {α β : Type} {c : Cx} {A : Around} {h : Heap} {env : Env}

theorem Go.forInR {f : Nat → PUnit → Sem (ForInStep PUnit)} (J : Nat → Heap → Prop) (n : Nat) (step : ∀ i h, i < n → J i h → Go c A (f i ⟨⟩) (fun r h' => r = .yield ⟨⟩ ∧ J (i + 1) h') h) :
    ∀ (k i : Nat) (h : Heap), i + k = n → J i h → Go c A (forIn (List.range' i k) (⟨⟩ : PUnit) f) (fun _ h' => J n h') h
  | 0, i, h, e, j => by
    have q : i = n := by omega
    subst q
    rw [List.range'_zero, List.forIn_nil]
    exact Go.pure j
  | k + 1, i, h, e, j => by
    rw [List.range'_succ, List.forIn_cons]
    refine Go.bind ((step i h (by omega) j).mono fun r h' ⟨q, j'⟩ => ?_)
    subst q
    exact Go.forInR J n step k (i + 1) h' (by omega) j'

theorem putAll_take (a b : Rw) (i : Nat) (kv : Str × Int) (e : b[i]? = some kv) : putAll a (b.take (i + 1)) = put (putAll a (b.take i)) kv.1 kv.2 := by
  simp [putAll, List.take_add_one, e, List.foldl_append]
theorem put_length (a : Rw) (k : Str) (v : Int) : (put a k v).length ≤ a.length + 1 := by
  induction a with
  | nil => simp [put]
  | cons p r ih =>
    obtain ⟨x, y⟩ := p
    simp only [put]
    split
    · simp
    · simpa using ih
theorem putAll_length (a b : Rw) : (putAll a b).length ≤ a.length + b.length := by
  induction b generalizing a with
  | nil => simp [putAll]
  | cons kv r ih =>
    have e1 := ih (put a kv.1 kv.2)
    have e2 := put_length a kv.1 kv.2
    simp only [putAll, List.foldl_cons, List.length_cons] at e1 ⊢
    omega

theorem Ents.keyParts {es kvs} (x : Ents es kvs) : es.all (fun e => (PySem.keyPart e.key).isSome) = true := by
  induction x with
  | nil => rfl
  | cons a _ ih =>
    obtain ⟨⟨t, e⟩, _⟩ := a
    rw [List.all_cons, ih, e]; rfl

theorem Go.mergeDict {id : String} {d o : Addr} {cls cls' : Value} {dct dct' : Option Addr} {sl sl' : Array (Option Value)} {es es' ep ep'} {kvs more : Rw} {Q : Unit → Heap → Prop}
    (hd : h.get? d = some ⟨cls, dct, .dict es ep, sl⟩) (x : Ents es.toList kvs) (ho : h.get? o = some ⟨cls', dct', .dict es' ep', sl'⟩) (y : Ents es'.toList more) (hdo : d ≠ o) (hoS : (o == sysModules) = false)
    (hsz : kvs.length ≤ 900) (hm : more.length ≤ 8)
    (H : ∀ h' es'' ep'', h'.get? d = some ⟨cls, dct, .dict es'' ep'', sl⟩ → Ents es''.toList (putAll kvs more) → Heap.SameBut d h h' → Q () h') :
    Go c A (Builtin.Dict.mergeDict id d o) Q h := by
  have hlen : es'.size = more.length := by rw [← Array.length_toList, y.length]
  unfold Builtin.Dict.mergeDict
  rw [if_neg (by simpa using hdo)]
  unfold Builtin.Dict.showsAll
  rw [if_neg (by rw [hoS]; exact Bool.false_ne_true)]
  refine Go.bind (Go.pure (Go.bind (Go.dictEntries ho ?_)))
  have few : (decide (es'.size ≤ 8) && es'.all fun e => (PySem.keyPart e.key).isSome) = true := by
    have e1 : (es'.all fun e => (PySem.keyPart e.key).isSome) = true := by rw [← Array.all_toList]; exact y.keyParts
    rw [e1, Bool.and_true]
    exact decide_eq_true (by omega)
  dsimp only
  rw [few]
  simp only [Bool.not_true, Bool.false_eq_true, if_false]
  refine Go.bind (Go.dictEpoch ho (Go.bind (Go.dictEntries ho (Go.bind ?_))))
  rw [Std.Legacy.Range.forIn_eq_forIn_range']
  simp only [Std.Legacy.Range.size, Nat.sub_zero, Nat.add_sub_cancel, Nat.div_one]
  refine (Go.forInR (fun i h' => ∃ es'' ep'', h'.get? d = some ⟨cls, dct, .dict es'' ep'', sl⟩ ∧ Ents es''.toList (putAll kvs (more.take i)) ∧ Heap.SameBut d h h') es'.size ?_ es'.size 0 h (by omega) ⟨es, ep, hd, by simpa [putAll] using x, Heap.SameBut.refl _ _⟩).mono ?_
  · rintro i h' hi ⟨es'', ep'', hd', x', s'⟩
    have ho' : h'.get? o = some ⟨cls', dct', .dict es' ep', sl'⟩ := (s'.2 o (Ne.symm hdo)).trans ho
    refine Go.bind (Go.dictEntries ho' ?_)
    have ge : es'[i]? = some es'[i] := Array.getElem?_eq_getElem hi
    rw [ge]
    obtain ⟨kv, hkv, ⟨t, hk⟩, u, hv⟩ := y.get (i := i) (e := es'[i]) (by rw [Array.getElem?_toList]; exact ge)
    refine Go.bind (Go.holding ?_)
    rw [hk, hv]
    have l1 := putAll_length kvs (more.take i)
    have l2 : (more.take i).length ≤ more.length := by rw [List.length_take]; omega
    refine Go.dictSetHashed hd' x' (by omega) fun h'' es3 ep3 hd'' x'' s'' => ?_
    have ho'' : h''.get? o = some ⟨cls', dct', .dict es' ep', sl'⟩ := (s''.2 o (Ne.symm hdo)).trans ho'
    refine Go.bind (Go.dictEpoch ho'' ?_)
    rw [if_neg (by simp)]
    exact Go.pure ⟨rfl, es3, ep3, hd'', by rw [putAll_take kvs more i kv hkv]; exact x'', s'.trans s''⟩
  · rintro _ h' ⟨es'', ep'', hd', x', s'⟩
    rw [hlen, List.take_length] at x'
    exact Go.pure (H h' es'' ep'' hd' x' s')
end
end Mine
namespace Mine
section
variable {prog : Program} {w : World} {A : Around} {h : Heap} {g : Array GenState} {d : Drawn} {t : Nat} {os : OsState} {a : Addr} {o : Obj} {α : Type}
theorem sub_ae : isSubtype (.type "AttributeError") (.type "AttributeError") = Pure.pure true := by rw [isSubtype_type]; kernel_rfl
theorem fam_ae (l : List Value) : firstArgMember (.type "AttributeError") l = Pure.pure .none := by
  have e : ((Manifest.find? "AttributeError").elim false fun t => t.mro.contains "StopIteration" || t.mro.contains "SystemExit") = false := by decide +kernel
  simp only [firstArgMember, e]; rfl
theorem raise_attr {o : Value} {name msg : Str} {Q : α → Shared → Prop} {E : Value → Shared → Prop} (hA : A.handled = none) (hm : msg.length ≤ sizeLine)
   (hE : ∀ e oe h' tk', Ext h h' → h'.get? e = some oe → oe.cls = .type "AttributeError" → E (.ref e) ⟨h', g, d, tk', os⟩) :
    wpAny (model prog w) A (raiseAttrError o name msg) Q E ⟨h, g, d, t, os⟩ := by
  have f1 := sub_ae
  unfold raiseAttrError
  refine wpAny_bind (wpAny_mkStr' ?_ hm)
  unfold newExc
  refine wpAny_bind (wpAny_bind ?_)
  refine wpAny_newTuple ?_ (by show 1 ≤ sizeLine; decide)
  refine wpAny_bind ?_
  rw [fam_ae]
  refine wpAny_pure ?_
  refine wpAny_newObj_type ?_ (by size_fits)
  repeat (any_goals (first | assumption | wp_step))
  unfold raiseNew
  refine wpAny_bind (wpAny_handled ?_)
  rw [hA]
  refine wpAny_bind (wpAny_pure (wpAny_throw ?_))
  refine hE _ _ _ _ ?_ (Heap.get?_update_self _ (Heap.get?_push_size _ rfl) rfl) rfl
  intro b o e
  have l1 := Heap.lt_size e
  refine (Heap.SameBut.update _ _ _).extBut b o ?_ (Heap.get?_push_of_some _ (Heap.get?_push_of_some _ e))
  show b ≠ (h.push _).objs.size
  rw [Heap.size_push]
  exact Nat.ne_of_lt (Nat.lt_succ_of_lt l1)

variable {T gid : String} {name : Str} {ob : Obj}
theorem getattr_missing (slot : Slot T "__getattribute__" gid) (ent : entryFor table gid = some Builtin.«object.__getattribute__») (ar : ∀ tk, argsOk gid ⟨[.ref a, .str name tk], []⟩)
    (hk : typeLookup (.type T) name = Pure.pure none) (hg : typeLookup (.type T) "__getattr__" = Pure.pure none) (hx : h.get? a = some ob) (hc : ob.cls = .type T)
    (hen : ∀ tk tk' (Q : Fin → Shared → Prop) (E : Value → Shared → Prop), (∀ e oe h' tk', Ext h h' → h'.get? e = some oe → oe.cls = .type "AttributeError" → E (.ref e) ⟨h', g, d, tk', os⟩) →
       wpAny (model prog w) A.in1 (Builtin.«object.__getattribute__» ⟨[.ref a, .str name tk], []⟩) Q E ⟨h, g, d, tk', os⟩)
    {Q : Option Value → Shared → Prop} {E : Value → Shared → Prop} (hQ : ∀ h' tk', Ext h h' → Q none ⟨h', g, d, tk', os⟩) : wpAny (model prog w) A (getAttr? (.ref a) name) Q E ⟨h, g, d, t, os⟩ := by
  have hT : ∀ tk, (⟨h, g, d, tk, os⟩ : Shared).TypeIs (.ref a) T := fun tk => ⟨_, hx, hc⟩
  unfold getAttr?
  refine wpAny_bind (wpAny_mkText ?_)
  unfold getAttrBy?
  refine wpAny_bind (wpAny_attempt ?_)
  have fin : ∀ e oe h' tk', Ext h h' → h'.get? e = some oe → oe.cls = .type "AttributeError" →
      wpAny (model prog w) A (isInstance (.ref e) (.type "AttributeError") >>= fun b => if b = true then Pure.pure none else throw (.ref e)) Q E ⟨h', g, d, tk', os⟩ := by
    intro e oe h' tk' x q r
    refine wpAny_bind (wpAny_isInstance (T := "AttributeError") (b := true) ⟨_, q, r⟩ sub_ae ?_)
    exact wpAny_pure (hQ h' tk' x)
  unfold getAttrBy
  refine wpAny_holding (wpAny_bind (wpAny_typeOf (hT _) (wpAny_bind (wpAny_of_eq slot.lookup ?_))))
  show wpAny _ _ (getAttrByItsOwn (.ref a) (.str name t) (.type T) (.builtin gid) false false) _ _ _
  unfold getAttrByItsOwn
  refine wpAny_bind (wpAny_pure (wpAny_bind (wpAny_attempt (wpAny_holding ?_))))
  show wpAny _ _ (boundAndCalled (.builtin gid) (.ref a) (.str name t)) _ _ _
  unfold boundAndCalled
  refine wpAny_bind (wpAny_of_eq (slot.bind _) (wpAny_call (codeAny_call_builtin slot.plain ent (slot.check _ _ _ _ _ _ _ _ (hT _) (ar _) (hen _ _ _ _ ?_)))))
  intro e oe h' tk' x q r
  unfold getattributeRaised
  dsimp only
  refine wpAny_bind (wpAny_isInstance (T := "AttributeError") (b := true) ⟨_, q, r⟩ sub_ae ?_)
  rw [if_pos rfl]
  refine wpAny_bind (wpAny_of_eq (show hookBehind (.type T) none = Pure.pure none from hg) ?_)
  show wpAny _ _ (attributeErrorLeaves (.ref a) (.str name t) (.ref e) false false) _ _ _
  unfold attributeErrorLeaves
  refine wpAny_throw ?_
  exact fin e oe h' tk' x q r

theorem slot_list_ga : Slot "list" "__getattribute__" "list.__getattribute__" :=
  .of (owner := "list") (n := "__getattribute__") (by rw [typeLookup_type, builtinLookup_eq_fast]; kernel_rfl) (by decide +kernel) (by decide +kernel) (by decide +kernel)
    (by first | exact .inl (by decide +kernel) | exact .inr (by decide +kernel)) (by rw [isSubtype_type]; kernel_rfl)
theorem lk_list_keys : typeLookup (.type "list") (Str.ofString "keys") = Pure.pure none := by rw [typeLookup_type, builtinLookup_eq_fast]; kernel_rfl
theorem lk_list_hook : typeLookup (.type "list") "__getattr__" = Pure.pure none := by rw [typeLookup_type, builtinLookup_eq_fast]; kernel_rfl
theorem args_list_ga (x y : Value) : argsOk "list.__getattribute__" ⟨[x, y], []⟩ := by unfold argsOk; kernel_rfl

theorem entry_list_ga : entryFor table "list.__getattribute__" = some Builtin.«object.__getattribute__» :=
  entryFor_alias (id' := "object.__getattribute__") (by kernel_rfl) (by first | rfl | decide +kernel) (by decide +kernel) (by kernel_rfl)

theorem miss_list {items : Array Value} {n : Nat} {tk : Tok} {Q : Fin → Shared → Prop} {E : Value → Shared → Prop} (hA : A.handled = none) (hx : h.get? a = some ⟨.type "list", none, .seq items n, #[]⟩)
   (hE : ∀ e oe h' tk', Ext h h' → h'.get? e = some oe → oe.cls = .type "AttributeError" → E (.ref e) ⟨h', g, d, tk', os⟩) :
    wpAny (model prog w) A (Builtin.«object.__getattribute__» ⟨[.ref a, .str (Str.ofString "keys") tk], []⟩) Q E ⟨h, g, d, t, os⟩ := by
  have hT : (⟨h, g, d, t, os⟩ : Shared).TypeIs (.ref a) "list" := ⟨_, hx, rfl⟩
  have f2 := lk_list_keys
  repeat (any_goals (first | assumption | with_reducible refine raise_attr hA ?_ hE | wp_step))
  rw [sizeLine_eq]
  decide +kernel
theorem Go.noKeys_list {c : Cx} {items : Array Value} {n : Nat} {Q : Option Value → Heap → Prop} (hA : A.handled = none) (hx : h.get? a = some ⟨.type "list", none, .seq items n, #[]⟩) (H : ∀ h', Ext h h' → Q none h') :
    Go c A (getAttr? (.ref a) (Str.ofString "keys")) Q h := fun tk =>
  getattr_missing slot_list_ga entry_list_ga (fun _ => args_list_ga _ _) lk_list_keys lk_list_hook hx rfl (fun _ _ _ _ hE => miss_list (n := n) hA hx hE) fun h' tk' e => ⟨h', tk', rfl, H h' e⟩

theorem slot_tuple_ga : Slot "tuple" "__getattribute__" "tuple.__getattribute__" :=
  .of (owner := "tuple") (n := "__getattribute__") (by rw [typeLookup_type, builtinLookup_eq_fast]; kernel_rfl) (by decide +kernel) (by decide +kernel) (by decide +kernel)
    (by first | exact .inl (by decide +kernel) | exact .inr (by decide +kernel)) (by rw [isSubtype_type]; kernel_rfl)
theorem lk_tuple_keys : typeLookup (.type "tuple") (Str.ofString "keys") = Pure.pure none := by rw [typeLookup_type, builtinLookup_eq_fast]; kernel_rfl
theorem lk_tuple_hook : typeLookup (.type "tuple") "__getattr__" = Pure.pure none := by rw [typeLookup_type, builtinLookup_eq_fast]; kernel_rfl
theorem args_tuple_ga (x y : Value) : argsOk "tuple.__getattribute__" ⟨[x, y], []⟩ := by unfold argsOk; kernel_rfl

theorem entry_tuple_ga : entryFor table "tuple.__getattribute__" = some Builtin.«object.__getattribute__» :=
  entryFor_alias (id' := "object.__getattribute__") (by kernel_rfl) (by first | rfl | decide +kernel) (by decide +kernel) (by kernel_rfl)

theorem miss_tuple {items : Array Value} {n : Nat} {tk : Tok} {Q : Fin → Shared → Prop} {E : Value → Shared → Prop} (hA : A.handled = none) (hx : h.get? a = some ⟨.type "tuple", none, .seq items n, #[]⟩)
   (hE : ∀ e oe h' tk', Ext h h' → h'.get? e = some oe → oe.cls = .type "AttributeError" → E (.ref e) ⟨h', g, d, tk', os⟩) :
    wpAny (model prog w) A (Builtin.«object.__getattribute__» ⟨[.ref a, .str (Str.ofString "keys") tk], []⟩) Q E ⟨h, g, d, t, os⟩ := by
  have hT : (⟨h, g, d, t, os⟩ : Shared).TypeIs (.ref a) "tuple" := ⟨_, hx, rfl⟩
  have f2 := lk_tuple_keys
  repeat (any_goals (first | assumption | with_reducible refine raise_attr hA ?_ hE | wp_step))
  rw [sizeLine_eq]
  decide +kernel
theorem Go.noKeys_tuple {c : Cx} {items : Array Value} {n : Nat} {Q : Option Value → Heap → Prop} (hA : A.handled = none) (hx : h.get? a = some ⟨.type "tuple", none, .seq items n, #[]⟩) (H : ∀ h', Ext h h' → Q none h') :
    Go c A (getAttr? (.ref a) (Str.ofString "keys")) Q h := fun tk =>
  getattr_missing slot_tuple_ga entry_tuple_ga (fun _ => args_tuple_ga _ _) lk_tuple_keys lk_tuple_hook hx rfl (fun _ _ _ _ hE => miss_tuple (n := n) hA hx hE) fun h' tk' e => ⟨h', tk', rfl, H h' e⟩

theorem slot_list_iterator_ga : Slot "list_iterator" "__getattribute__" "object.__getattribute__" :=
  .of (owner := "object") (n := "__getattribute__") (by rw [typeLookup_type, builtinLookup_eq_fast]; kernel_rfl) (by decide +kernel) (by decide +kernel) (by decide +kernel)
    (by first | exact .inl (by decide +kernel) | exact .inr (by decide +kernel)) (by rw [isSubtype_type]; kernel_rfl)
theorem lk_list_iterator_keys : typeLookup (.type "list_iterator") (Str.ofString "keys") = Pure.pure none := by rw [typeLookup_type, builtinLookup_eq_fast]; kernel_rfl
theorem lk_list_iterator_hook : typeLookup (.type "list_iterator") "__getattr__" = Pure.pure none := by rw [typeLookup_type, builtinLookup_eq_fast]; kernel_rfl
theorem args_list_iterator_ga (x y : Value) : argsOk "object.__getattribute__" ⟨[x, y], []⟩ := by unfold argsOk; kernel_rfl

theorem entry_list_iterator_ga : entryFor table "object.__getattribute__" = some Builtin.«object.__getattribute__» := entryFor_of_tree (by kernel_rfl)

theorem miss_list_iterator {items : Array Value} {n : Nat} {tk : Tok} {Q : Fin → Shared → Prop} {E : Value → Shared → Prop} (hA : A.handled = none) (hx : h.get? a = some ⟨.type "list_iterator", none, .fields items, #[]⟩)
   (hE : ∀ e oe h' tk', Ext h h' → h'.get? e = some oe → oe.cls = .type "AttributeError" → E (.ref e) ⟨h', g, d, tk', os⟩) :
    wpAny (model prog w) A (Builtin.«object.__getattribute__» ⟨[.ref a, .str (Str.ofString "keys") tk], []⟩) Q E ⟨h, g, d, t, os⟩ := by
  have hT : (⟨h, g, d, t, os⟩ : Shared).TypeIs (.ref a) "list_iterator" := ⟨_, hx, rfl⟩
  have f2 := lk_list_iterator_keys
  repeat (any_goals (first | assumption | with_reducible refine raise_attr hA ?_ hE | wp_step))
  rw [sizeLine_eq]
  decide +kernel
theorem Go.noKeys_list_iterator {c : Cx} {items : Array Value} {n : Nat} {Q : Option Value → Heap → Prop} (hA : A.handled = none) (hx : h.get? a = some ⟨.type "list_iterator", none, .fields items, #[]⟩) (H : ∀ h', Ext h h' → Q none h') :
    Go c A (getAttr? (.ref a) (Str.ofString "keys")) Q h := fun tk =>
  getattr_missing slot_list_iterator_ga entry_list_iterator_ga (fun _ => args_list_iterator_ga _ _) lk_list_iterator_keys lk_list_iterator_hook hx rfl (fun _ _ _ _ hE => miss_list_iterator (n := n) hA hx hE) fun h' tk' e => ⟨h', tk', rfl, H h' e⟩
end
end Mine
namespace Mine
section
variable {α β : Type} {c : Cx} {A : Around} {h : Heap} {env : Env}

theorem GoC.bcall {id : String} {b : Builtin} {pos : List Value} {R : Flow → Heap → Prop} (hp : plainId id = true) (hb : entryFor table id = some b) (hc : Looks (model PR c.w) h (checkBuiltinCall id ⟨pos, []⟩) ())
    (H : Go c A.in1 (b ⟨pos, []⟩) (fun fin h' => match fin with | .done f => R f h' | .again k' => k'.quiet = true ∧ GoC c A k' R h') h) : GoC c A (.call (.builtin id) ⟨pos, []⟩) R h := fun tk => by
  refine codeAny_call_builtin hp hb (hc.here ?_)
  refine wpAny_mono (H tk) (fun fin s' ⟨h', tk', e, q⟩ => ?_) fun _ _ x => x.elim
  subst e
  cases fin with
  | done f => exact ⟨h', tk', rfl, q⟩
  | again k' => exact ⟨q.1, q.2 tk'⟩
theorem GoC.bltin {id : String} {b : Builtin} {pos : List Value} {R : Flow → Heap → Prop} (hp : plainId id = true) (hb : entryFor table id = some b)
    (H : Go c A.in1 (b ⟨pos, []⟩) (fun fin h' => match fin with | .done f => R f h' | .again k' => k'.quiet = true ∧ GoC c A k' R h') h) : GoC c A (.builtin id ⟨pos, []⟩) R h := fun tk => by
  refine codeAny_builtin hb ?_
  rw [Around.under_plainId hp]
  refine wpAny_mono (H tk) (fun fin s' ⟨h', tk', e, q⟩ => ?_) fun _ _ x => x.elim
  subst e
  cases fin with
  | done f => exact ⟨h', tk', rfl, q⟩
  | again k' => exact ⟨q.1, q.2 tk'⟩
theorem Go.bcall {id : String} {b : Builtin} {pos : List Value} {Q : Value → Heap → Prop} (hp : plainId id = true) (hb : entryFor table id = some b) (hc : Looks (model PR c.w) h (checkBuiltinCall id ⟨pos, []⟩) ())
    (H : Go c A.in1 (b ⟨pos, []⟩) (fun fin h' => ∃ v, fin = .done (.ret v) ∧ Q v h') h) : Go c A (PySem.call (.builtin id) pos) Q h :=
  Go.call (GoC.bcall hp hb hc (H.mono fun fin h' ⟨v, e, q⟩ => by subst e; exact ⟨v, rfl, q⟩))
theorem check_method {M : Model} {i owner n : String} {self : Value} {rest : List Value} (hk : builtinKind i = some .method) (hs : splitId i = some (owner, n)) (hi : Looks M h (isInstance self (.type owner)) true) (ha : argsOk i ⟨self :: rest, []⟩) :
    Looks M h (checkBuiltinCall i ⟨self :: rest, []⟩) () := by
  intro A Q E s k q
  simp only [checkBuiltinCall, hk, hs]
  refine wpAny_bind (hi A _ E s k ?_)
  simp only [Bool.not_true, Bool.false_eq_true, if_false]
  cases hsig : Manifest.signature? i with
  | none => exact wpAny_pure q
  | some sig =>
    simp only [argsOk, hsig] at ha
    have h2 : Bind.checkArgs i sig ⟨self :: rest, []⟩ = Pure.pure () := ha
    show wpAny M A (Bind.checkArgs i sig ⟨self :: rest, []⟩) Q E s
    rw [h2]; exact wpAny_pure q

/-- the classes whose instances keep rows as a dict does -/
inductive DC : Value → Prop
  | d : DC (.type "dict")
  | i : DC (.ref 194)
  | p : DC (.ref 378)
theorem dc_type {M : Model} {a : Addr} {o : Obj} (e : h.get? a = some o) : Looks M h (typeOf (.ref a)) o.cls := (Looks.ld e).andThen .now
theorem dc_inst (X : (Mine.hd.heap_39 c.w.params).In h) {a : Addr} {o : Obj} (e : h.get? a = some o) (d : DC o.cls) : Looks (model PR c.w) h (isInstance (.ref a) (.type "dict")) true := by
  refine (dc_type e).andThen ?_
  generalize o.cls = cl at d
  cases d with
  | d => exact Looks.of_pure (by rw [isSubtype_type]; kernel_rfl)
  | i => exact looks_mroIn X (by k_is)
  | p => exact looks_mroIn X (by k_is)
theorem dc_ord (X : (Mine.hd.heap_39 c.w.params).In h) {a : Addr} {o : Obj} (e : h.get? a = some o) (d : DC o.cls) : Looks (model PR c.w) h (isInstance (.ref a) (.type "collections.OrderedDict")) false := by
  refine (dc_type e).andThen ?_
  generalize o.cls = cl at d
  cases d with
  | d => exact Looks.of_pure (by rw [isSubtype_type]; kernel_rfl)
  | i => exact looks_mroIn X (by k_is)
  | p => exact looks_mroIn X (by k_is)
theorem dc_iter (X : (Mine.hd.heap_39 c.w.params).In h) {a : Addr} {o : Obj} (e : h.get? a = some o) (d : DC o.cls) : Looks (model PR c.w) h (specialOf (.ref a) "__iter__") (some (.builtin "dict.__iter__")) := by
  refine (dc_type e).andThen ?_
  generalize o.cls = cl at d
  cases d with
  | d => exact Looks.of_pure (by rw [typeLookup_type, builtinLookup_eq_fast]; kernel_rfl)
  | i => exact looks_findIn X (by k_is)
  | p => exact looks_findIn X (by k_is)
theorem upd_check (X : (Mine.hd.heap_39 c.w.params).In h) {a : Addr} {o : Obj} {v : Value} (e : h.get? a = some o) (d : DC o.cls) : Looks (model PR c.w) h (checkBuiltinCall "dict.update" ⟨[.ref a, v], []⟩) () :=
  check_method (owner := "dict") (n := "update") (by decide +kernel) (by decide +kernel) (dc_inst X e d) (PySem.F.args_dict_update_2 _ _)
theorem Go.notOrdered (X : (Mine.hd.heap_39 c.w.params).In h) {a : Addr} {o : Obj} {name : String} {rest : List Value} {Q : Unit → Heap → Prop} (e : h.get? a = some o) (d : DC o.cls) (H : Q () h) : Go c A (Builtin.Dict.notOrdered name ⟨.ref a :: rest, []⟩) Q h := by
  unfold Builtin.Dict.notOrdered
  split
  · refine Go.bind (Go.looks (dc_type e) ?_)
    split
    · refine Go.bind (Go.looks (dc_ord X e d) ?_)
      exact Go.pure H
    · exact Go.pure H
  · exact Go.pure H
end
end Mine
namespace Mine
theorem mem_ext {h h' : Heap} {news : List (Addr × Obj)} (D : Mem h h' [] news) : Ext h h' := fun b o e => D.keep b o e (by cases hasCls o <;> rfl)
/-- the class and the own dict of one that keeps rows -/
inductive InsD (h : Heap) : Value → Option Addr → Prop
  | d : InsD h (.type "dict") none
  | i {xd} : h.get? xd = some ⟨.type "dict", none, .dict #[] 0, #[]⟩ → InsD h (.ref 194) (some xd)
  | p {xd hs tc ep} : h.get? xd = some ⟨.type "dict", none, .dict #[⟨hs, .str (Str.ofString "creator") tc, .ref 390⟩] ep, #[]⟩ → InsD h (.ref 378) (some xd)
theorem InsD.keeps {h h' : Heap} {cl d} (x : InsD h cl d) (e : Ext h h') : InsD h' cl d := by
  cases x with
  | d => exact .d
  | i q => exact .i (e _ _ q)
  | p q => exact .p (e _ _ q)
theorem InsD.dc {h : Heap} {cl d} (x : InsD h cl d) : DC cl := by cases x <;> constructor

local macro_rules | `(tactic| x_close) => `(tactic| exact ⟨_, _, rfl, _, rfl, mem_ext (by assumption)⟩)
theorem ga_i {c : Cx} {h : Heap} {x xd : Addr} {es ep t} (KX : (Mine.hd.heap_39 c.w.params).In h) (h1 : h.get? x = some ⟨.ref 194, some xd, .dict es ep, #[]⟩) (h2 : h.get? xd = some ⟨.type "dict", none, .dict #[] 0, #[]⟩) :
    Go c (AA 700 700) (PySem.call (.builtin "dict.__getattribute__") [.ref x, .str (Str.ofString "keys") t]) (fun v h' => ∃ b, v = .ref b ∧ Ext h h') h := fun tk => by
  x_run
theorem ga_p {c : Cx} {h : Heap} {x xd : Addr} {es ep t hs tc epx} (KX : (Mine.hd.heap_39 c.w.params).In h) (h1 : h.get? x = some ⟨.ref 378, some xd, .dict es ep, #[]⟩) (h2 : h.get? xd = some ⟨.type "dict", none, .dict #[⟨hs, .str (Str.ofString "creator") tc, .ref 390⟩] epx, #[]⟩) :
    Go c (AA 700 700) (PySem.call (.builtin "dict.__getattribute__") [.ref x, .str (Str.ofString "keys") t]) (fun v h' => ∃ b, v = .ref b ∧ Ext h h') h := fun tk => by
  x_run

section
variable {α β : Type} {c : Cx} {A : Around} {h : Heap} {env : Env}
theorem Go.attempt {m : Sem α} {Q : Except Value α → Heap → Prop} (H : Go c A m (fun v h' => Q (.ok v) h') h) : Go c A m.attempt Q h := fun tk =>
  wpAny_attempt (wpAny_mono (H tk) (fun _ _ x => x) fun _ _ x => x.elim)
theorem Go.tryCatch {m : Sem α} {k : Value → Sem α} {Q : α → Heap → Prop} (H : Go c A m Q h) : Go c A (tryCatch m k) Q h := fun tk =>
  wpAny_tryCatch (wpAny_mono (H tk) (fun _ _ x => x) fun _ _ x => x.elim)
theorem Go.mkText {x : Str} {Q : Value → Heap → Prop} (H : ∀ t, Q (.str x t) h) : Go c A (PySem.mkText x) Q h := fun tk => wpAny_mkText ⟨h, _, rfl, H _⟩
/-- an attribute of a made object, found without an exception -/
theorem Go.getAttrInst {a C : Addr} {o : Obj} {name : Str} {b : Bool} {Q : Value → Heap → Prop} (X : (Mine.hd.heap_39 c.w.params).In h) (e : h.get? a = some o) (hc : o.cls = .ref C) (hga : findIn (Mine.hd.heap_39 c.w.params) (.ref C) "__getattribute__" = some (some (.builtin "object.__getattribute__")))
    (H : ∀ t, Go c A (PySem.runValue (.builtin "proto.getattr_hooked" ⟨[.ref a, .str name t], []⟩)) (fun v h' => handedIn v = true ∧ Q v h') h) (t : Tok) (fill : Bool) : Go c A (getAttrBy (.ref a) (.str name t) fill b) Q h := by
  unfold getAttrBy
  refine Go.holding (Go.bind (Go.looks (dc_type e) ?_))
  rw [hc]
  refine Go.bind (Go.looks (looks_findIn X hga) ?_)
  show Go c A (getAttrEveryday (.ref a) (.str name t) fill) Q h
  unfold getAttrEveryday
  refine Go.bind (Go.onRaise ((H t).mono fun v h' ⟨q, r⟩ => ?_))
  rw [handedOut_of q]
  exact Go.pure r
theorem Go.getAttrInst? {a C : Addr} {o : Obj} {name : Str} {Q : Option Value → Heap → Prop} (X : (Mine.hd.heap_39 c.w.params).In h) (e : h.get? a = some o) (hc : o.cls = .ref C) (hga : findIn (Mine.hd.heap_39 c.w.params) (.ref C) "__getattribute__" = some (some (.builtin "object.__getattribute__")))
    (H : ∀ t, Go c A (PySem.runValue (.builtin "proto.getattr_hooked" ⟨[.ref a, .str name t], []⟩)) (fun v h' => handedIn v = true ∧ Q (some v) h') h) : Go c A (getAttr? (.ref a) name) Q h := by
  unfold getAttr?
  refine Go.bind (Go.mkText fun t => ?_)
  unfold getAttrBy?
  exact Go.bind (Go.attempt ((Go.getAttrInst X e hc hga H t false).mono fun v h' q => Go.pure q))

/-- an attribute of one of a class that a dict stands behind -/
theorem Go.getAttrDict {a C : Addr} {o : Obj} {name : Str} {b : Bool} {Q : Value → Heap → Prop} (X : (Mine.hd.heap_39 c.w.params).In h) (e : h.get? a = some o) (hc : o.cls = .ref C) (hga : findIn (Mine.hd.heap_39 c.w.params) (.ref C) "__getattribute__" = some (some (.builtin "dict.__getattribute__")))
    (hhk : findIn (Mine.hd.heap_39 c.w.params) (.ref C) "__getattr__" = some none)
    (H : ∀ t, Go c A (PySem.call (.builtin "dict.__getattribute__") [.ref a, .str name t]) (fun v h' => handedIn v = true ∧ Q v h') h) (t : Tok) (fill : Bool) : Go c A (getAttrBy (.ref a) (.str name t) fill b) Q h := by
  unfold getAttrBy
  refine Go.holding (Go.bind (Go.looks (dc_type e) ?_))
  rw [hc]
  refine Go.bind (Go.looks (looks_findIn X hga) ?_)
  show Go c A (getAttrByItsOwn (.ref a) (.str name t) (.ref C) (.builtin "dict.__getattribute__") fill b) Q h
  unfold getAttrByItsOwn
  refine Go.bind (Go.looks (looks_findIn X hhk) (Go.bind (Go.attempt (Go.holding ?_))))
  have e1 : callGetattribute (.ref a) (.str name t) (.builtin "dict.__getattribute__") b = boundAndCalled (.builtin "dict.__getattribute__") (.ref a) (.str name t) := by
    unfold callGetattribute; simp [onTheHeap]
  rw [e1]
  unfold boundAndCalled
  rw [PySem.F.slot_dict_getattribute.bind]
  refine Go.bind (Go.pure ((H t).mono fun v h' ⟨q, r⟩ => ?_))
  show Go c A (handedOut v) Q h'
  rw [show handedOut v = Pure.pure v from handedOut_of q]
  exact Go.pure r
theorem Go.getAttrDict? {a C : Addr} {o : Obj} {name : Str} {Q : Option Value → Heap → Prop} (X : (Mine.hd.heap_39 c.w.params).In h) (e : h.get? a = some o) (hc : o.cls = .ref C) (hga : findIn (Mine.hd.heap_39 c.w.params) (.ref C) "__getattribute__" = some (some (.builtin "dict.__getattribute__")))
    (hhk : findIn (Mine.hd.heap_39 c.w.params) (.ref C) "__getattr__" = some none)
    (H : ∀ t, Go c A (PySem.call (.builtin "dict.__getattribute__") [.ref a, .str name t]) (fun v h' => handedIn v = true ∧ Q (some v) h') h) : Go c A (getAttr? (.ref a) name) Q h := by
  unfold getAttr?
  refine Go.bind (Go.mkText fun t => ?_)
  unfold getAttrBy?
  exact Go.bind (Go.attempt ((Go.getAttrDict X e hc hga hhk H t false).mono fun v h' q => Go.pure q))

theorem Go.merge {id : String} {d o : Addr} {cls cls' : Value} {dct dct' : Option Addr} {sl sl' : Array (Option Value)} {es es' ep ep'} {kvs more : Rw} {Q : Unit → Heap → Prop} (X : (Mine.hd.heap_39 c.w.params).In h)
    (hd : h.get? d = some ⟨cls, dct, .dict es ep, sl⟩) (x : Ents es.toList kvs) (ho : h.get? o = some ⟨cls', dct', .dict es' ep', sl'⟩) (y : Ents es'.toList more) (hdo : d ≠ o) (hoS : (o == sysModules) = false)
    (hsz : kvs.length ≤ 900) (hm : more.length ≤ 8) (I : DC cls')
    (H : ∀ h' es'' ep'', h'.get? d = some ⟨cls, dct, .dict es'' ep'', sl⟩ → Ents es''.toList (putAll kvs more) → Heap.SameBut d h h' → Q () h') :
    Go c A (Builtin.Dict.merge id d (.ref o)) Q h := by
  unfold Builtin.Dict.merge
  refine Go.bind ?_
  unfold Builtin.Dict.readDirectly
  refine Go.bind (Go.looks (dc_inst X ho I) ?_)
  simp only [Bool.not_true, Bool.false_eq_true, if_false]
  refine Go.bind (Go.looks (dc_iter X ho I) (Go.pure ?_))
  simp only [beq_self_eq_true, if_true]
  exact Go.bind (Go.pure (Go.mergeDict hd x ho y hdo hoS hsz hm H))

/-- dict.update of one that keeps rows, by one that keeps rows -/
theorem Go.updD {d o : Addr} {cls cls' : Value} {dct dct' : Option Addr} {sl : Array (Option Value)} {es es' ep ep'} {kvs more : Rw} {Q : Value → Heap → Prop} (X : (Mine.hd.heap_39 c.w.params).In h)
    (hd : h.get? d = some ⟨cls, dct, .dict es ep, sl⟩) (x : Ents es.toList kvs) (ho : h.get? o = some ⟨cls', dct', .dict es' ep', #[]⟩) (y : Ents es'.toList more) (hdo : d ≠ o) (hoS : (o == sysModules) = false)
    (hsz : kvs.length ≤ 900) (hm : more.length ≤ 8) (D : DC cls) (I : InsD h cls' dct') (hA : A.handled = none) (hdep : A.depth ≤ 700) (hu : A.units ≤ 699)
    (H : ∀ h' es'' ep'', h'.get? d = some ⟨cls, dct, .dict es'' ep'', sl⟩ → Ents es''.toList (putAll kvs more) → But d h h' → Q .none h') :
    Go c A (PySem.call (.builtin "dict.update") [.ref d, .ref o]) Q h := by
  refine Go.bcall (by decide +kernel) PySem.F.entry_dict_update (upd_check X hd D) ?_
  unfold Builtin.«dict.update»
  refine Go.bind ?_
  unfold Builtin.Dict.selfAndRest
  refine Go.bind (Go.notOrdered X hd D ?_)
  show Go c A.in1 (Pure.pure (d, [Value.ref o])) _ h
  refine Go.pure ?_
  show Go c A.in1 (Builtin.Dict.updateFrom "dict.update" d (.ref o) [] .none) _ h
  unfold Builtin.Dict.updateFrom
  refine Go.bind (Go.looks (dc_type ho) ?_)
  have tail : ∀ h₁, Ext h h₁ → Go c A.in1 (do Builtin.Dict.merge "dict.update" d (.ref o); Builtin.Dict.addKeywords d []; PySem.ret .none) (fun fin h' => ∃ v, fin = .done (.ret v) ∧ Q v h') h₁ := by
    intro h₁ E
    refine Go.bind (Go.merge (X.keeps E) (E _ _ hd) x (E _ _ ho) y hdo hoS hsz hm I.dc fun h' es'' ep'' a b s => ?_)
    refine Go.bind (Go.pure (Go.pure ⟨_, rfl, H h' es'' ep'' a b ?_⟩))
    exact fun b o n e => but_of_same s b o n (E _ _ e)
  cases I with
  | d =>
    rw [if_neg (by simp)]
    exact tail h (Ext.refl h)
  | i q =>
    rw [if_pos (by simp)]
    refine Go.bind ((Go.getAttrDict? (C := 194) X ho rfl (by k_is) (by k_is) fun t => (Go.up (A := A.in1) (ga_i X ho q) hA hdep (by show A.units + 1 ≤ 700; omega)).mono fun v h' ⟨b, e, E⟩ => ?_))
    subst e
    refine ⟨rfl, ?_⟩
    rw [if_neg (by simp)]
    exact tail h' E
  | p q =>
    rw [if_pos (by simp)]
    refine Go.bind ((Go.getAttrDict? (C := 378) X ho rfl (by k_is) (by k_is) fun t => (Go.up (A := A.in1) (ga_p X ho q) hA hdep (by show A.units + 1 ≤ 700; omega)).mono fun v h' ⟨b, e, E⟩ => ?_))
    subst e
    refine ⟨rfl, ?_⟩
    rw [if_neg (by simp)]
    exact tail h' E
end
end Mine
namespace Mine
section
variable {prog : Program} {w : World} {A : Around} {h : Heap} {g : Array GenState} {d : Drawn} {t : Nat} {os : OsState} 
theorem sub_stop : isSubtype (.type "StopIteration") (.type "StopIteration") = Pure.pure true := by rw [isSubtype_type]; kernel_rfl
theorem fam_stop : firstArgMember (.type "StopIteration") [] = Pure.pure .none := by simp only [firstArgMember]; rfl
/-- a walk over a list at its end: the walk stays, of its class -/
theorem spent_next {it l : Addr} {i : Nat} {items : Array Value} {n : Nat} {od od' : Option Addr} {osl osl' : Array (Option Value)} {Q : Option Value → Shared → Prop} {E : Value → Shared → Prop} (hA : A.handled = none) (hit : h.get? it = some ⟨.type "list_iterator", od, .fields #[.ref l, .int i 0], osl⟩) (hl : h.get? l = some ⟨.type "list", od', .seq items n, osl'⟩)
    (hx : items[i]? = none) (H : ∀ h', But it h h' → (∃ o, h'.get? it = some o ∧ o.cls = .type "list_iterator") → Q none ⟨h', g, d, t, os⟩) : wpAny (model prog w) A (pyNext (.ref it)) Q E ⟨h, g, d, t, os⟩ := by
  have hT : (⟨h, g, d, t, os⟩ : Shared).TypeIs (.ref it) "list_iterator" := ⟨_, hit, rfl⟩
  have f1 := sub_stop
  have f2 := fam_stop
  unfold pyNext
  refine wpAny_bind (wpAny_attempt (wpAny_callSpecial?_slot (name := Str.ofString "__next__") hT slot_listiter_next
    (wpAny_call_entry slot_listiter_next hT entry_listiter_next ?_ (args_listiter_next _))))
  repeat (any_goals (first | assumption | wp_step))
  rw [Int.toNat_natCast, hx]
  dsimp only
  repeat (any_goals (first | assumption | wp_step))
  unfold raiseNew
  refine wpAny_bind (wpAny_handled ?_)
  rw [show A.in1.handled = none from hA]
  refine wpAny_bind (wpAny_pure (wpAny_throw ?_))
  refine wpAny_bind (wpAny_isInstance (T := "StopIteration") (b := true) ⟨_, Heap.get?_push_size _ rfl, rfl⟩ sub_stop ?_)
  refine wpAny_pure (H _ (fun b o n e => ?_) ⟨_, Heap.get?_push_of_some _ (Heap.get?_push_of_some _ (Heap.get?_update_self _ hit rfl)), rfl⟩)
  exact Heap.get?_push_of_some _ (Heap.get?_push_of_some _ ((Heap.SameBut.update _ _ _).extBut b o n e))
end
end Mine
namespace Mine
theorem plain_update_loop : plainId "dict.update.loop" = true := by decide +kernel
theorem entry_update_loop : entryFor table "dict.update.loop" = some Builtin.«dict.update.loop» := entryFor_of_tree (by kernel_rfl)
section
variable {α β : Type} {c : Cx} {A : Around} {h : Heap} {env : Env}
theorem Wk.tuple {target : Expr} {I ax : Addr} {items : Array Value} {B : Heap → Prop} (hB : ∀ h', B h' → h'.IsTuple ax items) (hA : A.handled = none) : Wk c A target I items.size (fun i v => items[i]? = some v) B (fun i h => h.IsTupleIter I ax i) where
  has := fun i h ⟨o, e, _⟩ => ⟨o, e⟩
  fr := fun i h h' k ⟨o, e, r⟩ => ⟨o, k _ e, r⟩
  item := fun i h Q hi b st k tk => wpAny_pyNext_tuple_item st (hB _ b) (x := items[i]) (by simp [hi]) fun h' a s => ⟨h', tk, rfl, k _ h' (by simp [hi]) a s⟩
  done := fun h Q b st k tk => wpAny_pyNext_tuple_end hA st (hB _ b) (by simp) fun h' a => ⟨h', tk, rfl, k h' fun b o n e => a b o n e⟩
  lets := fun i h v Q st q tk => letGo_tupleiter st ⟨h, tk, rfl, q⟩
  self := fun i h Q st q tk => wpAny_pyIter_tupleiter st ⟨_, _, rfl, q⟩

theorem Go.endSpent {it l : Addr} {i : Nat} {items : Array Value} {Q : Option Value → Heap → Prop} (hA : A.handled = none) (hit : h.IsListIter it l i) (hl : h.IsList l items)
    (hx : items[i]? = none) (H : ∀ h', But it h h' → (∃ o, h'.get? it = some o ∧ o.cls = .type "list_iterator") → Q none h') : Go c A (pyNext (.ref it)) Q h := fun tk => by
  obtain ⟨⟨oc, od, oda, osl⟩, e, rfl, rfl⟩ := hit
  obtain ⟨⟨oc', od', oda', osl'⟩, e', rfl, n, rfl⟩ := hl
  exact spent_next hA e e' hx fun h' a b => ⟨h', tk, rfl, H h' a b⟩

/-- rows, walked: what is left of them goes into the dict -/
theorem GoC.updLoop {d it n : Nat} {target : Expr} {cls : Value} {dct : Option Addr} {sl : Array (Option Value)} {es ep} {P : Nat → Value → Prop} {B : Heap → Prop} {St : Nat → Heap → Prop} {Sp : Heap → Prop} {kvs more : Rw} {R : Flow → Heap → Prop}
    (W : Wk c A.in1 target it n P B St) (done : ∀ h (Q : Option Value → Heap → Prop), B h → St n h → (∀ h', But it h h' → Sp h' → Q none h') → Go c A.in1 (pyNext (.ref it)) Q h)
    (hdi : d ≠ it) (hP : ∀ i v h', B h' → P i v → ∃ kv, more[i]? = some kv ∧ RowAt h' v kv) (hB : ∀ h' h'', B h' → (∀ b o, b ≠ d → b ≠ it → h'.get? b = some o → h''.get? b = some o) → B h'')
    (hsz : kvs.length ≤ 900) (hm : more.length ≤ 8) (hn : n = more.length) (hd : h.get? d = some ⟨cls, dct, .dict es ep, sl⟩) (x : Ents es.toList kvs) (b0 : B h) (s0 : St 0 h)
    (H : ∀ h' es' ep', h'.get? d = some ⟨cls, dct, .dict es' ep', sl⟩ → Ents es'.toList (putAll kvs more) → (∀ b o, b ≠ d → b ≠ it → h.get? b = some o → h'.get? b = some o) → Sp h' → R (.ret .none) h') :
    GoC c A (.builtin "dict.update.loop" ⟨[.ref d, .ref it, rawInt 0, .none], []⟩) R h := by
  have key : ∀ k i h, n = i + k → B h → St i h → ∀ es ep, h.get? d = some ⟨cls, dct, .dict es ep, sl⟩ → Ents es.toList (putAll kvs (more.take i)) →
      (∀ h' es' ep', h'.get? d = some ⟨cls, dct, .dict es' ep', sl⟩ → Ents es'.toList (putAll kvs more) → (∀ b o, b ≠ d → b ≠ it → h.get? b = some o → h'.get? b = some o) → Sp h' → R (.ret .none) h') →
      GoC c A (.builtin "dict.update.loop" ⟨[.ref d, .ref it, rawInt (i : Int), .none], []⟩) R h := by
    intro k
    induction k with
    | zero =>
      intro i h e b st es ep hd x H
      have q : i = n := by omega
      subst q
      refine GoC.bltin plain_update_loop entry_update_loop ?_
      unfold Builtin.«dict.update.loop»
      dsimp only
      show Go c A.in1 (pyNext (.ref it) >>= _) _ h
      refine Go.bind (done h _ b st fun h' bt sp => ?_)
      refine Go.bind (Go.pure (Go.pure ?_))
      rw [hn, List.take_length] at x
      exact H h' es ep (bt _ _ hdi hd) x (fun b o n1 n2 e => bt b o n2 e) sp
    | succ k ih =>
      intro i h e b st es ep hd x H
      refine GoC.bltin plain_update_loop entry_update_loop ?_
      unfold Builtin.«dict.update.loop»
      dsimp only
      show Go c A.in1 (pyNext (.ref it) >>= _) _ h
      refine Go.bind (W.item i h _ (by omega) b st fun v h' hv st' s' => ?_)
      dsimp only
      have bt := but_of_same s'
      have b' : B h' := hB h h' b fun b o _ n e => bt b o n e
      obtain ⟨kv, hkv, a, t, u, rfl, o, ho, hc, nn, hdat⟩ := hP i v h' b' hv
      refine Go.bind (Go.holding (Go.bind (Go.tryCatch ?_)))
      unfold Builtin.Dict.pairItems
      refine Go.bind (Go.looks (dc_type ho) ?_)
      rw [hc, if_pos (by decide)]
      refine Go.bind (fun tk => wpAny_seqItems ho hdat ⟨h', tk, rfl, ?_⟩)
      refine Go.pure ?_
      show Go c A.in1 (PySem.holding [.str kv.1 t, .int kv.2 u] (PySem.dictSet d (.str kv.1 t) (.int kv.2 u))) _ h'
      refine Go.holding ?_
      have l1 := putAll_length kvs (more.take i)
      have l2 : (more.take i).length ≤ more.length := by rw [List.length_take]; omega
      refine Go.dictSet (bt _ _ hdi hd) x (by omega) fun h'' es'' ep'' hd'' x'' s'' => ?_
      have bt'' := but_of_same s''
      refine Go.pure ⟨plainId_quiet plain_update_loop _, ?_⟩
      have e2 : ((i : Int) + 1) = ((i + 1 : Nat) : Int) := by push_cast; rfl
      rw [e2]
      refine ih (i + 1) h'' (by omega) (hB h' h'' b' fun b o n _ e => bt'' b o n e) (W.fr _ _ _ (fun o e => bt'' _ _ (Ne.symm hdi) e) st') es'' ep'' hd'' (by rw [putAll_take kvs more i kv hkv]; exact x'') fun h3 es3 ep3 hd3 x3 k3 sp => ?_
      exact H h3 es3 ep3 hd3 x3 (fun b o n1 n2 e => k3 b o n1 n2 (bt'' b o n1 (bt b o n2 e))) sp
  exact key n 0 h (by omega) b0 s0 es ep hd (by simpa [putAll] using x) H

/-- dict.update by what is walked in pairs -/
theorem Go.updPairs {d o : Addr} {oo : Obj} {cls : Value} {dct : Option Addr} {sl : Array (Option Value)} {es ep} {Q : Value → Heap → Prop} (X : (Mine.hd.heap_39 c.w.params).In h)
    (hd : h.get? d = some ⟨cls, dct, .dict es ep, sl⟩) (ho : h.get? o = some oo) (hc : oo.cls ≠ .type "dict") (D : DC cls)
    (hk : ∀ Q, (∀ h', Ext h h' → Q none h') → Go c A.in1 (getAttr? (.ref o) (Str.ofString "keys")) Q h)
    (H : ∀ h₁, Ext h h₁ → Go c A.in1 (pyIter (.ref o)) (fun it h₂ => GoC c A (.builtin "dict.update.loop" ⟨[.ref d, it, rawInt 0, .none], []⟩) (fun f h' => ∃ v, f = .ret v ∧ Q v h') h₂) h₁) :
    Go c A (PySem.call (.builtin "dict.update") [.ref d, .ref o]) Q h := by
  refine Go.call (GoC.bcall (by decide +kernel) PySem.F.entry_dict_update (upd_check X hd D) ?_)
  unfold Builtin.«dict.update»
  refine Go.bind ?_
  unfold Builtin.Dict.selfAndRest
  refine Go.bind (Go.notOrdered X hd D ?_)
  show Go c A.in1 (Pure.pure (d, [Value.ref o])) _ h
  refine Go.pure ?_
  show Go c A.in1 (Builtin.Dict.updateFrom "dict.update" d (.ref o) [] .none) _ h
  unfold Builtin.Dict.updateFrom
  refine Go.bind (Go.looks (dc_type ho) ?_)
  rw [if_pos (by simpa using hc)]
  refine Go.bind (hk _ fun h₁ E => ?_)
  rw [if_pos (show Option.isNone (none : Option Value) = true from rfl)]
  refine Go.bind (Go.rule (Go.bind ((H h₁ E).mono fun it h₂ q => ?_)))
  exact Go.pure ⟨plainId_quiet plain_update_loop _, q⟩

theorem rs_item {g : Heap} {vs : List Value} {more : Rw} (hR : Rs g vs more) {i : Nat} {v : Value} {h' : Heap} (b : Ext g h') (e : vs.toArray[i]? = some v) : ∃ kv, more[i]? = some kv ∧ RowAt h' v kv := by
  obtain ⟨kv, q, r⟩ := hR.get (i := i) (v := v) (by simpa using e)
  exact ⟨kv, q, r.keeps b⟩
theorem keep_g {g h' h'' : Heap} {d it : Addr} (b : Ext g h') (gd : g.get? d = none) (gi : g.get? it = none) (k : ∀ b o, b ≠ d → b ≠ it → h'.get? b = some o → h''.get? b = some o) : Ext g h'' := fun b' o e =>
  k b' o (fun q => by subst q; rw [gd] at e; cases e) (fun q => by subst q; rw [gi] at e; cases e) (b b' o e)

theorem Go.updList {g : Heap} {d o : Addr} {cls : Value} {dct : Option Addr} {sl : Array (Option Value)} {es ep} {kvs more : Rw} {vs : List Value} {n : Nat} {Q : Value → Heap → Prop} (X : (Mine.hd.heap_39 c.w.params).In h) (G : Ext g h) (gd : g.get? d = none)
    (hd : h.get? d = some ⟨cls, dct, .dict es ep, sl⟩) (x : Ents es.toList kvs) (ho : g.get? o = some ⟨.type "list", none, .seq vs.toArray n, #[]⟩) (hR : Rs g vs more)
    (hsz : kvs.length ≤ 900) (hm : more.length ≤ 8) (D : DC cls) (hA : A.handled = none)
    (H : ∀ h' es' ep', h'.get? d = some ⟨cls, dct, .dict es' ep', sl⟩ → Ents es'.toList (putAll kvs more) → But d h h' → Q .none h') :
    Go c A (PySem.call (.builtin "dict.update") [.ref d, .ref o]) Q h := by
  refine Go.updPairs X hd (G _ _ ho) (by simp) D (fun Q k => Go.noKeys_list hA (G _ _ ho) k) fun h₁ E => ?_
  refine Go.iterList ⟨_, E _ _ (G _ _ ho), rfl, _, rfl⟩ fun h₂ it E2 => ?_
  have G2 := G.trans (E.trans E2)
  have gi : g.get? h₁.objs.size = none := (G.trans E).fresh (fresh_at h₁)
  have W : Wk c A.in1 (.Name (Str.ofString "v") default) h₁.objs.size vs.toArray.size (fun i v => vs.toArray[i]? = some v) (Ext g) (fun i h => h.IsListIter h₁.objs.size o i) := Wk.list (fun h' b => ⟨_, b _ _ ho, rfl, _, rfl⟩) hA
  refine GoC.updLoop (Sp := fun _ => True) W (fun h Q b st k => W.done h Q b st fun h' b' => k h' b' trivial) ?_ (fun i v h' b e => rs_item hR b e) (fun h' h'' b k => keep_g b gd gi k) hsz hm (by rw [List.size_toArray, hR.length]) (E2 _ _ (E _ _ hd)) x G2 it fun h' es' ep' a b k _ => ⟨_, rfl, H h' es' ep' a b ?_⟩
  · intro e; rw [e] at hd; exact absurd (Heap.lt_size (E _ _ hd)) (Nat.lt_irrefl _)
  · exact fun b o n e => k b o n (fun q => by subst q; exact absurd (Heap.lt_size (E _ _ e)) (Nat.lt_irrefl _)) (E2 _ _ (E _ _ e))

theorem Go.updTuple {g : Heap} {d o : Addr} {cls : Value} {dct : Option Addr} {sl : Array (Option Value)} {es ep} {kvs more : Rw} {vs : List Value} {n : Nat} {Q : Value → Heap → Prop} (X : (Mine.hd.heap_39 c.w.params).In h) (G : Ext g h) (gd : g.get? d = none)
    (hd : h.get? d = some ⟨cls, dct, .dict es ep, sl⟩) (x : Ents es.toList kvs) (ho : g.get? o = some ⟨.type "tuple", none, .seq vs.toArray n, #[]⟩) (hR : Rs g vs more)
    (hsz : kvs.length ≤ 900) (hm : more.length ≤ 8) (D : DC cls) (hA : A.handled = none)
    (H : ∀ h' es' ep', h'.get? d = some ⟨cls, dct, .dict es' ep', sl⟩ → Ents es'.toList (putAll kvs more) → But d h h' → Q .none h') :
    Go c A (PySem.call (.builtin "dict.update") [.ref d, .ref o]) Q h := by
  refine Go.updPairs X hd (G _ _ ho) (by simp) D (fun Q k => Go.noKeys_tuple hA (G _ _ ho) k) fun h₁ E => ?_
  refine Go.iterTuple ⟨_, E _ _ (G _ _ ho), rfl, _, rfl⟩ fun h₂ it E2 => ?_
  have G2 := G.trans (E.trans E2)
  have gi : g.get? h₁.objs.size = none := (G.trans E).fresh (fresh_at h₁)
  have W : Wk c A.in1 (.Name (Str.ofString "v") default) h₁.objs.size vs.toArray.size (fun i v => vs.toArray[i]? = some v) (Ext g) (fun i h => h.IsTupleIter h₁.objs.size o i) := Wk.tuple (fun h' b => ⟨_, b _ _ ho, rfl, _, rfl⟩) hA
  refine GoC.updLoop (Sp := fun _ => True) W (fun h Q b st k => W.done h Q b st fun h' b' => k h' b' trivial) ?_ (fun i v h' b e => rs_item hR b e) (fun h' h'' b k => keep_g b gd gi k) hsz hm (by rw [List.size_toArray, hR.length]) (E2 _ _ (E _ _ hd)) x G2 it fun h' es' ep' a b k _ => ⟨_, rfl, H h' es' ep' a b ?_⟩
  · intro e; rw [e] at hd; exact absurd (Heap.lt_size (E _ _ hd)) (Nat.lt_irrefl _)
  · exact fun b o n e => k b o n (fun q => by subst q; exact absurd (Heap.lt_size (E _ _ e)) (Nat.lt_irrefl _)) (E2 _ _ (E _ _ e))

/-- a walk over pairs at its start -/
abbrev walkObj (l : Addr) (i : Nat) : Obj := ⟨.type "list_iterator", none, .fields #[.ref l, .int (i : Int) 0], #[]⟩
theorem Go.updIter {g : Heap} {d o l : Addr} {cls : Value} {dct : Option Addr} {sl : Array (Option Value)} {es ep} {kvs more : Rw} {vs : List Value} {n : Nat} {Q : Value → Heap → Prop} (X : (Mine.hd.heap_39 c.w.params).In h) (G : Ext g h) (gd : g.get? d = none) (go : g.get? o = none) (hdo : d ≠ o)
    (hd : h.get? d = some ⟨cls, dct, .dict es ep, sl⟩) (x : Ents es.toList kvs) (ho : h.get? o = some (walkObj l 0)) (hl : g.get? l = some ⟨.type "list", none, .seq vs.toArray n, #[]⟩) (hR : Rs g vs more)
    (hsz : kvs.length ≤ 900) (hm : more.length ≤ 8) (D : DC cls) (hA : A.handled = none)
    (H : ∀ h' es' ep', h'.get? d = some ⟨cls, dct, .dict es' ep', sl⟩ → Ents es'.toList (putAll kvs more) → (∀ b o', b ≠ d → b ≠ o → h.get? b = some o' → h'.get? b = some o') → (∃ o', h'.get? o = some o' ∧ o'.cls = .type "list_iterator") → Q .none h') :
    Go c A (PySem.call (.builtin "dict.update") [.ref d, .ref o]) Q h := by
  refine Go.updPairs X hd ho (by simp) D (fun Q k => Go.noKeys_list_iterator hA (n := 0) ho k) fun h₁ E => ?_
  have it1 : h₁.IsListIter o l 0 := ⟨_, E _ _ ho, rfl, rfl⟩
  refine (fun tk => wpAny_pyIter_listiter it1 ⟨_, _, rfl, ?_⟩)
  have G2 := G.trans E
  have W0 : Wk c A.in1 (.Name (Str.ofString "v") default) o vs.toArray.size (fun i v => vs.toArray[i]? = some v) (Ext g) (fun i h => h.IsListIter o l i) := Wk.list (fun h' b => ⟨_, b _ _ hl, rfl, _, rfl⟩) hA
  refine GoC.updLoop (Sp := fun h' => ∃ o', h'.get? o = some o' ∧ o'.cls = .type "list_iterator") W0 (fun h Q b st k => Go.endSpent hA st ⟨_, b _ _ hl, rfl, _, rfl⟩ (by simp) k) hdo (fun i v h' b e => rs_item hR b e) (fun h' h'' b k => keep_g b gd go k) hsz hm (by rw [List.size_toArray, hR.length]) (E _ _ hd) x G2 it1 fun h' es' ep' a b k sp => ⟨_, rfl, H h' es' ep' a b ?_ sp⟩
  exact fun b o n1 n2 e => k b o n1 n2 (E _ _ e)
end
end Mine
namespace Mine
theorem new_at {h h' g' : Heap} {news : List (Addr × Obj)} {a : Addr} {o : Obj} (D : Mem h h' [] news) (hm : (a, o) ∈ news) (N : New h h' g') : g'.get? a = some o := N a o (D.nw _ hm).2 (D.nw _ hm).1
theorem new_list {h h' g' : Heap} {news : List (Addr × Obj)} {a : Addr} {vs : List Value} {n : Nat} (D : Mem h h' [] news) (hm : (a, (⟨.type "list", none, .seq ⟨vs⟩ n, #[]⟩ : Obj)) ∈ news) (N : New h h' g') : g'.IsList a vs.toArray := ⟨_, new_at D hm N, rfl, _, rfl⟩
theorem new_row {h h' g' : Heap} {news : List (Addr × Obj)} {a : Addr} {n : Nat} {k : Str} {v : Int} {t u : Tok} (D : Mem h h' [] news) (hm : (a, (⟨.type "tuple", none, .seq ⟨[.str k t, .int v u]⟩ n, #[]⟩ : Obj)) ∈ news) (N : New h h' g') : RowAt g' (.ref a) (k, v) := ⟨a, t, u, rfl, _, new_at D hm N, rfl, _, rfl⟩
/-- a list of rows, its object known whole -/
def RowsX (h : Heap) (a : Addr) (kvs : Rw) : Prop := ∃ vs n, h.get? a = some ⟨.type "list", none, .seq vs.toArray n, #[]⟩ ∧ Rs h vs kvs
theorem RowsX.rows {h : Heap} {a : Addr} {kvs : Rw} (x : RowsX h a kvs) : RowsAt h a kvs := let ⟨vs, n, e, r⟩ := x; ⟨vs, ⟨_, e, rfl, _, rfl⟩, r⟩
theorem RowsX.keeps {h h' : Heap} {a : Addr} {kvs : Rw} (x : RowsX h a kvs) (e : Ext h h') : RowsX h' a kvs := let ⟨vs, n, q, r⟩ := x; ⟨vs, n, e _ _ q, r.keeps e⟩
def ListOut (h : Heap) (kvs : Rw) (v : Value) (h' : Heap) : Prop := ∃ a, v = .ref a ∧ h.get? a = none ∧ Ext h h' ∧ ∀ g', New h h' g' → RowsX g' a kvs
theorem list_out {h h' : Heap} {news : List (Addr × Obj)} {a : Addr} {vs : List Value} {n : Nat} {kvs : Rw} (D : Mem h h' [] news) (hm : (a, (⟨.type "list", none, .seq ⟨vs⟩ n, #[]⟩ : Obj)) ∈ news)
    (hr : ∀ g', New h h' g' → Rs g' vs kvs) : ListOut h kvs (.ref a) h' := ⟨a, rfl, (D.nw _ hm).2, mem_ext D, fun g' N => ⟨vs, n, new_at D hm N, hr g' N⟩⟩
local macro_rules | `(tactic| walk_at "e_mem") => `(tactic| repeat (first | exact List.Mem.head _ | apply List.Mem.tail))
local macro_rules | `(tactic| walk_at "e_rs") => `(tactic| repeat (first | exact Rs.nil | (refine Rs.cons (new_row (by assumption) (by walk_at "e_mem") (by assumption)) ?_)))
local macro_rules | `(tactic| x_close) => `(tactic| exact ⟨_, _, rfl, list_out (by assumption) (by walk_at "e_mem") (fun g' N => by walk_at "e_rs")⟩)
theorem li_d0 {c : Cx} {h : Heap} {C p v : Addr} {dct : Option Addr} {ep } (hp : ¬ p = sysModules)
   (h3 : h.get? p = some ⟨.type "dict", none, .dict #[] ep, #[]⟩) (hv : h.get? v = some ⟨.type "dict_items", none, .fields #[.ref p], #[]⟩) : Go c (AA 700 700) (PySem.call (.type "list") [.ref v]) (ListOut h []) h := fun tk => by
  x_run
theorem li_d1 {c : Cx} {h : Heap} {C p v : Addr} {dct : Option Addr} {ep t0 z0 u0 k0 v0} (hp : ¬ p = sysModules)
   (h3 : h.get? p = some ⟨.type "dict", none, .dict #[⟨z0, .str k0 t0, .int v0 u0⟩] ep, #[]⟩) (hv : h.get? v = some ⟨.type "dict_items", none, .fields #[.ref p], #[]⟩) : Go c (AA 700 700) (PySem.call (.type "list") [.ref v]) (ListOut h [(k0, v0)]) h := fun tk => by
  x_run
theorem li_d2 {c : Cx} {h : Heap} {C p v : Addr} {dct : Option Addr} {ep t0 z0 u0 k0 v0 t1 z1 u1 k1 v1} (hp : ¬ p = sysModules)
   (h3 : h.get? p = some ⟨.type "dict", none, .dict #[⟨z0, .str k0 t0, .int v0 u0⟩, ⟨z1, .str k1 t1, .int v1 u1⟩] ep, #[]⟩) (hv : h.get? v = some ⟨.type "dict_items", none, .fields #[.ref p], #[]⟩) : Go c (AA 700 700) (PySem.call (.type "list") [.ref v]) (ListOut h [(k0, v0), (k1, v1)]) h := fun tk => by
  x_run
theorem li_i0 {c : Cx} {h : Heap} {C p v : Addr} {dct : Option Addr} {ep } (hp : ¬ p = sysModules)
   (h3 : h.get? p = some ⟨.ref C, dct, .dict #[] ep, #[]⟩) (hv : h.get? v = some ⟨.type "dict_items", none, .fields #[.ref p], #[]⟩) : Go c (AA 700 700) (PySem.call (.type "list") [.ref v]) (ListOut h []) h := fun tk => by
  x_run
theorem li_i1 {c : Cx} {h : Heap} {C p v : Addr} {dct : Option Addr} {ep t0 z0 u0 k0 v0} (hp : ¬ p = sysModules)
   (h3 : h.get? p = some ⟨.ref C, dct, .dict #[⟨z0, .str k0 t0, .int v0 u0⟩] ep, #[]⟩) (hv : h.get? v = some ⟨.type "dict_items", none, .fields #[.ref p], #[]⟩) : Go c (AA 700 700) (PySem.call (.type "list") [.ref v]) (ListOut h [(k0, v0)]) h := fun tk => by
  x_run
theorem li_i2 {c : Cx} {h : Heap} {C p v : Addr} {dct : Option Addr} {ep t0 z0 u0 k0 v0 t1 z1 u1 k1 v1} (hp : ¬ p = sysModules)
   (h3 : h.get? p = some ⟨.ref C, dct, .dict #[⟨z0, .str k0 t0, .int v0 u0⟩, ⟨z1, .str k1 t1, .int v1 u1⟩] ep, #[]⟩) (hv : h.get? v = some ⟨.type "dict_items", none, .fields #[.ref p], #[]⟩) : Go c (AA 700 700) (PySem.call (.type "list") [.ref v]) (ListOut h [(k0, v0), (k1, v1)]) h := fun tk => by
  x_run
theorem li_i3 {c : Cx} {h : Heap} {C p v : Addr} {dct : Option Addr} {ep t0 z0 u0 k0 v0 t1 z1 u1 k1 v1 t2 z2 u2 k2 v2} (hp : ¬ p = sysModules)
   (h3 : h.get? p = some ⟨.ref C, dct, .dict #[⟨z0, .str k0 t0, .int v0 u0⟩, ⟨z1, .str k1 t1, .int v1 u1⟩, ⟨z2, .str k2 t2, .int v2 u2⟩] ep, #[]⟩) (hv : h.get? v = some ⟨.type "dict_items", none, .fields #[.ref p], #[]⟩) : Go c (AA 700 700) (PySem.call (.type "list") [.ref v]) (ListOut h [(k0, v0), (k1, v1), (k2, v2)]) h := fun tk => by
  x_run
theorem li_i4 {c : Cx} {h : Heap} {C p v : Addr} {dct : Option Addr} {ep t0 z0 u0 k0 v0 t1 z1 u1 k1 v1 t2 z2 u2 k2 v2 t3 z3 u3 k3 v3} (hp : ¬ p = sysModules)
   (h3 : h.get? p = some ⟨.ref C, dct, .dict #[⟨z0, .str k0 t0, .int v0 u0⟩, ⟨z1, .str k1 t1, .int v1 u1⟩, ⟨z2, .str k2 t2, .int v2 u2⟩, ⟨z3, .str k3 t3, .int v3 u3⟩] ep, #[]⟩) (hv : h.get? v = some ⟨.type "dict_items", none, .fields #[.ref p], #[]⟩) : Go c (AA 700 700) (PySem.call (.type "list") [.ref v]) (ListOut h [(k0, v0), (k1, v1), (k2, v2), (k3, v3)]) h := fun tk => by
  x_run
theorem li_i5 {c : Cx} {h : Heap} {C p v : Addr} {dct : Option Addr} {ep t0 z0 u0 k0 v0 t1 z1 u1 k1 v1 t2 z2 u2 k2 v2 t3 z3 u3 k3 v3 t4 z4 u4 k4 v4} (hp : ¬ p = sysModules)
   (h3 : h.get? p = some ⟨.ref C, dct, .dict #[⟨z0, .str k0 t0, .int v0 u0⟩, ⟨z1, .str k1 t1, .int v1 u1⟩, ⟨z2, .str k2 t2, .int v2 u2⟩, ⟨z3, .str k3 t3, .int v3 u3⟩, ⟨z4, .str k4 t4, .int v4 u4⟩] ep, #[]⟩) (hv : h.get? v = some ⟨.type "dict_items", none, .fields #[.ref p], #[]⟩) : Go c (AA 700 700) (PySem.call (.type "list") [.ref v]) (ListOut h [(k0, v0), (k1, v1), (k2, v2), (k3, v3), (k4, v4)]) h := fun tk => by
  x_run
theorem li_i6 {c : Cx} {h : Heap} {C p v : Addr} {dct : Option Addr} {ep t0 z0 u0 k0 v0 t1 z1 u1 k1 v1 t2 z2 u2 k2 v2 t3 z3 u3 k3 v3 t4 z4 u4 k4 v4 t5 z5 u5 k5 v5} (hp : ¬ p = sysModules)
   (h3 : h.get? p = some ⟨.ref C, dct, .dict #[⟨z0, .str k0 t0, .int v0 u0⟩, ⟨z1, .str k1 t1, .int v1 u1⟩, ⟨z2, .str k2 t2, .int v2 u2⟩, ⟨z3, .str k3 t3, .int v3 u3⟩, ⟨z4, .str k4 t4, .int v4 u4⟩, ⟨z5, .str k5 t5, .int v5 u5⟩] ep, #[]⟩) (hv : h.get? v = some ⟨.type "dict_items", none, .fields #[.ref p], #[]⟩) : Go c (AA 700 700) (PySem.call (.type "list") [.ref v]) (ListOut h [(k0, v0), (k1, v1), (k2, v2), (k3, v3), (k4, v4), (k5, v5)]) h := fun tk => by
  x_run
end Mine
namespace Mine
section
variable {α β : Type} {c : Cx} {A : Around} {h : Heap} {env : Env}

theorem Go.gm {a : Addr} {o : Obj} {name : Str} {f : Value} {ga : String} {pl : Sem Bool} {tf : String} {Q : Value × List Value → Heap → Prop} (ho : h.get? a = some o)
    (hga : Looks (model PR c.w) h (typeLookup o.cls "__getattribute__") (some (.builtin ga))) (hcan : (Manifest.canonical ga != "object.__getattribute__") = false)
    (hh : Looks (model PR c.w) h (typeLookup o.cls "__getattr__") none) (hf : Looks (model PR c.w) h (typeLookup o.cls name) (some f)) (ht : Looks (model PR c.w) h (typeOf f) (.type tf))
    (htf : (tf == "function" || tf == "method_descriptor" || tf == "wrapper_descriptor") = true) (hd : ∀ d, o.dict = some d → Looks (model PR c.w) h (nsGet d name) none) (H : Q (f, [.ref a]) h) : Go c A (getMethod (.ref a) name pl) Q h := by
  unfold getMethod
  refine Go.bind (Go.looks ((dc_type ho).andThen hga) ?_)
  dsimp only
  rw [if_neg (by rw [hcan]; exact Bool.false_ne_true)]
  refine Go.bind (Go.looks ((dc_type ho).andThen hh) ?_)
  rw [if_neg (by simp)]
  refine Go.bind (Go.looks ((dc_type ho).andThen hf) ?_)
  refine Go.bind (Go.looks ht ?_)
  have e : (Value.type tf != .type "function" && Value.type tf != .type "method_descriptor" && Value.type tf != .type "wrapper_descriptor") = false := by
    have q : ∀ x : String, (Value.type tf != Value.type x) = !(tf == x) := fun x => by
      rw [Bool.eq_iff_iff]
      simp
    rw [q, q, q]
    cases z1 : (tf == "function") <;> cases z2 : (tf == "method_descriptor") <;> cases z3 : (tf == "wrapper_descriptor") <;> simp_all
  rw [if_neg (by rw [e]; exact Bool.false_ne_true)]
  refine Go.bind (Go.loadPart ho ?_)
  cases q : o.dict with
  | none => exact Go.bind (Go.rule (Go.pure H))
  | some d =>
    dsimp only
    refine Go.bind (Go.looks (hd d q) ?_)
    rw [if_neg (by simp)]
    exact Go.bind (Go.rule (Go.pure H))
theorem insd_ns {cl : Value} {dct : Option Addr} {name : Str} (I : InsD h cl dct) (hn : name ≠ Str.ofString "creator") : ∀ d, dct = some d → Looks (model PR c.w) h (nsGet d name) none := by
  intro d e
  cases I with
  | d => cases e
  | i q =>
    cases e
    exact (Looks.ld q).andThen (Looks.of_pure (nsLook_of rfl))
  | @p xd hs tc ep q =>
    cases e
    refine (Looks.ld q).andThen (Looks.of_pure (nsLook_of ?_))
    have e1 : (Value.str (Str.ofString "creator") tc).isStr name = false := by
      show (Str.ofString "creator" == name) = false
      exact beq_eq_false_iff_ne.mpr (Ne.symm hn)
    simp [lookIn, e1, DictEntry.refKey]
/-- the call of a bound method -/
theorem Go.mcall {m : Addr} {f self : Value} {pos : List Value} {Q : Value → Heap → Prop} (hm : h.get? m = some (methodObj f self)) (H : GoC c A (.call f ⟨self :: pos, []⟩) (fun fl h' => ∃ v, fl = .ret v ∧ Q v h') h) : Go c A (PySem.call (.ref m) pos) Q h :=
  Go.call fun tk => method_call hm (H tk)
theorem GoC.defc {f : Addr} {args : List Value} {name qual : Str} {params : Arguments} {body : List Stmt} {scope : Scope} {dV kV doc pm cdv ct oc : Value} {an od : Option Addr} {osl : Array (Option Value)} {binds : List (Str × Value)} {Q : Value → Heap → Prop}
    (X : (Mine.hd.heap_39 c.w.params).In h) (e : (Mine.hd.heap_39 c.w.params).lookup f = some ⟨oc, od, .func (fnOf name qual params body scope dV kV doc pm an cdv ct), osl⟩) (hcd : codeIn (Mine.hd.heap_39 c.w.params) cdv qual = true)
    (e1 : nsOkIn (Mine.hd.heap_39 c.w.params) cStatics = true) (e2 : nsIn (Mine.hd.heap_39 c.w.params) cStatics "sys.recursionlimit" = some none)
    (hroom : A.depth < recursionLimit) (hbind : bindArgs (fnOf name qual params body scope dV kV doc pm an cdv ct) ⟨args, []⟩ = Pure.pure binds) (hloc : (binds.all fun x => decide (scope.names.lookup x.1 = some .local)) = true)
    (H : ∀ h₁, h₁.Ns h.objs.size (fun x => binds.reverse.lookup x) → Ext h h₁ → h.get? h.objs.size = none →
      Go c (A.deeper (envOf qual scope h.objs.size f cdv)) (execs body (envOf qual scope h.objs.size f cdv)) (fun fl h' => Q (match fl with | .ret v => v | _ => .none) h') h₁)
    (hcell : (scope.names.all fun x => x.2 != .cell) = true) (hco : scope.isCoroutine = false) (hgen : scope.isGenerator = false) (hk : scope.kind = .function) :
    GoC c A (.call (.ref f) ⟨args, []⟩) (fun fl h' => ∃ v, fl = .ret v ∧ Q v h') h := fun tk => by
  refine codeAny_call_def (fd := fnOf name qual params body scope dV kV doc pm an cdv ct) (body := body) (binds := binds) hroom (X _ _ e) rfl (lim_of X e1 e2) (codeRec_of X hcd) rfl (.of_eq hbind) (fun x hx => by simpa using List.all_eq_true.mp hcell x hx) (locs hloc) (fun h₁ hns hk₁ => ?_) hco hgen hk
  refine wpAny_mono (H h₁ hns hk₁ (fresh_at h) _) (fun fl s' ⟨h', tk', e, q⟩ => ⟨h', tk', e, _, rfl, q⟩) fun _ _ x => x.elim
/-- an attribute, read -/
theorem Go.attr {value : Expr} {attr : Str} {pos : Pos} {Q : Value → Heap → Prop} (hbase : attributeBase value attr env (eval value env) = eval value env)
    (H : Go c A (eval value env) (fun o h₁ => Go c A (getAttr o attr true) Q h₁) h) (ht : ∀ o r, letTemporaryGo value o r = Pure.pure () := by intro _ _; rfl) : Go c A (eval (.Attribute value attr pos) env) Q h := by
  rw [arm_eval_Attribute, hbase]
  refine Go.bind (H.mono fun o h₁ q => Go.bind (Go.standAt (Go.bind (Go.holding (Go.mono q fun r h₂ z => ?_)))))
  rw [ht]
  exact Go.bind (Go.pure (Go.pure z))
/-- d.items() of one that keeps rows -/
theorem Go.itemsView {a : Addr} {cls : Value} {dct : Option Addr} {es ep} {Q : Value → Heap → Prop} (X : (Mine.hd.heap_39 c.w.params).In h) (ho : h.get? a = some ⟨cls, dct, .dict es ep, #[]⟩) (D : DC cls) (hS : (a == sysModules) = false)
    (H : Q (.ref h.objs.size) (h.push ⟨.type "dict_items", none, .fields #[.ref a], #[]⟩)) : Go c A (PySem.call (.builtin "dict.items") [.ref a]) Q h := by
  refine Go.bcall (b := Builtin.«dict.items») (by decide +kernel) (entryFor_of_tree (by kernel_rfl)) (check_method (owner := "dict") (n := "items") (by decide +kernel) (by decide +kernel) (dc_inst X ho D) (by unfold argsOk; kernel_rfl)) ?_
  unfold Builtin.«dict.items»
  refine Go.bind ?_
  unfold Builtin.Dict.noArgs
  refine Go.bind (Go.notOrdered X ho D (Go.bind (Go.pure ?_)))
  refine Go.bind (Go.pure (Go.pure ?_))
  unfold Builtin.Dict.showsAll
  rw [if_neg (by rw [hS]; exact Bool.false_ne_true)]
  refine Go.bind (Go.pure (Go.bind ?_))
  unfold newFields
  intro tk
  refine wpAny_newObj_type ⟨_, tk, rfl, ?_⟩ (by size_fits)
  exact Go.pure ⟨_, rfl, H⟩
end
end Mine
namespace Mine
abbrev IntOut (h : Heap) (n : Int) (v : Value) (h' : Heap) : Prop := ∃ t, v = .int n t ∧ Ext h h'
local macro_rules | `(tactic| x_close) => `(tactic| first | exact ⟨_, _, rfl, _, rfl, Ext.refl _⟩ | exact ⟨_, _, rfl, _, rfl, mem_ext (by assumption)⟩)
theorem len_d {c : Cx} {h : Heap} {p : Addr} {es ep} (hp : ¬ p = sysModules) (h3 : h.get? p = some ⟨.type "dict", none, .dict es ep, #[]⟩) (hs : es.size < 1000) : Go c (AA 700 700) (PySem.runValue (.builtin "len" ⟨[.ref p], []⟩)) (IntOut h es.size) h := fun tk => by
  x_run
theorem len_i {c : Cx} {h : Heap} {p : Addr} {es ep dct} (KX : (Mine.hd.heap_39 c.w.params).In h) (h3 : h.get? p = some ⟨.ref 194, dct, .dict es ep, #[]⟩) (hs : es.size < 1000) : Go c (AA 700 700) (PySem.runValue (.builtin "len" ⟨[.ref p], []⟩)) (IntOut h es.size) h := fun tk => by
  x_run
theorem len_p {c : Cx} {h : Heap} {p : Addr} {es ep dct} (KX : (Mine.hd.heap_39 c.w.params).In h) (h3 : h.get? p = some ⟨.ref 378, dct, .dict es ep, #[]⟩) (hs : es.size < 1000) : Go c (AA 700 700) (PySem.runValue (.builtin "len" ⟨[.ref p], []⟩)) (IntOut h es.size) h := fun tk => by
  x_run
theorem len_t {c : Cx} {h : Heap} {p : Addr} {items n} (h3 : h.get? p = some ⟨.type "tuple", none, .seq items n, #[]⟩) (hs : items.size < 1000) : Go c (AA 700 700) (PySem.runValue (.builtin "len" ⟨[.ref p], []⟩)) (IntOut h items.size) h := fun tk => by
  x_run
theorem len_l {c : Cx} {h : Heap} {p : Addr} {items n} (h3 : h.get? p = some ⟨.type "list", none, .seq items n, #[]⟩) (hs : items.size < 1000) : Go c (AA 700 700) (PySem.runValue (.builtin "len" ⟨[.ref p], []⟩)) (IntOut h items.size) h := fun tk => by
  x_run
end Mine
namespace Mine
section
variable {α β : Type} {c : Cx} {A : Around} {h : Heap} {env : Env}
abbrev at? (kvs : Rw) (k : Str) : Option (Str × Int) := kvs.find? fun p => decide (p.1 = k)
def Got (kvs : Rw) (k : Str) : Option Value → Prop
  | some w => ∃ v u, w = .int v u ∧ at? kvs k = some (k, v)
  | none => at? kvs k = none
theorem Go.dictGet {d : Addr} {cls : Value} {dct : Option Addr} {sl : Array (Option Value)} {es ep} {kvs : Rw} {k : Str} {t : Tok} {Q : Option Value → Heap → Prop} (hd : h.get? d = some ⟨cls, dct, .dict es ep, sl⟩) (x : Ents es.toList kvs)
    (H : ∀ r, Got kvs k r → Q r h) : Go c A (PySem.dictGet d (.str k t)) Q h := by
  unfold PySem.dictGet
  refine Go.holding (Go.bind (Go.pyHashStr fun i => Go.bind (Go.dictFind hd x ?_)))
  cases q : kvs.findIdx? (fun p => decide (p.1 = k)) with
  | none =>
    refine Go.pure (H none ?_)
    show List.find? _ kvs = none
    rw [List.find?_eq_none]
    intro p hp
    have := List.findIdx?_eq_none_iff.mp q p hp
    simpa using this
  | some i =>
    obtain ⟨hi, hp, hb⟩ := List.findIdx?_eq_some_iff_getElem.mp q
    have hi' : i < es.size := by rw [← Array.length_toList, x.length]; exact hi
    have ge : es[i]? = some es[i] := Array.getElem?_eq_getElem hi'
    obtain ⟨kv, hkv, ⟨u, hk⟩, w, hv⟩ := x.get (i := i) (e := es[i]) (by rw [Array.getElem?_toList]; exact ge)
    refine Go.bind (Go.dictEntries hd (Go.pure ?_))
    rw [ge, Option.map_some, hv]
    refine H _ ⟨_, _, rfl, ?_⟩
    have hkv' : kvs[i] = kv := by rw [List.getElem?_eq_getElem hi] at hkv; exact Option.some.inj hkv
    have e3 : kv.1 = k := by rw [← hkv']; exact of_decide_eq_true hp
    show List.find? _ kvs = _
    rw [List.find?_eq_some_iff_getElem]
    refine ⟨by simp, i, hi, ?_, fun j hj => by simpa using hb j hj⟩
    rw [hkv', ← e3]

theorem slot_looks {T id : String} {name : Str} {a : Addr} {o : Obj} {rest : List Value} (s : Slot T name id) (ho : h.get? a = some o) (hc : o.cls = .type T) (ha : argsOk id ⟨.ref a :: rest, []⟩) : Looks (model PR c.w) h (checkBuiltinCall id ⟨.ref a :: rest, []⟩) () :=
  fun A Q E s' k q => s.check _ _ _ _ _ _ _ _ ⟨o, k _ _ ho, hc⟩ ha q
theorem Go.special {a : Addr} {o : Obj} {name : Str} {id : String} {T : String} {args : List Value} {Q : Option Value → Heap → Prop} (s : Slot T name id) (ho : h.get? a = some o) (hc : o.cls = .type T)
    (H : Go c A (PySem.call (.builtin id) (.ref a :: args)) (fun v h' => Q (some v) h') h) : Go c A (callSpecial? (.ref a) name args) Q h := by
  unfold callSpecial?
  refine Go.bind (Go.looks ((dc_type ho).andThen (b := some (.builtin id)) (by rw [hc, s.lookup]; exact Looks.now)) ?_)
  refine Go.holding ?_
  rw [s.bind]
  exact Go.bind (Go.pure (Go.bind (H.mono fun v h' q => Go.pure q)))

theorem Go.getItemD {d : Addr} {dct : Option Addr} {sl : Array (Option Value)} {es ep} {kvs : Rw} {k : Str} {t : Tok} {v : Int} {Q : Value → Heap → Prop} (hd : h.get? d = some ⟨.type "dict", dct, .dict es ep, sl⟩) (x : Ents es.toList kvs) (hv : at? kvs k = some (k, v))
    (H : ∀ u, Q (.int v u) h) : Go c A (getItem (.ref d) (.str k t)) Q h := by
  unfold getItem
  refine Go.holding (Go.bind (Go.looks (r := .str k t) ((dc_type hd).andThen ?_) ?_))
  · dsimp only
    rw [if_pos (by decide)]
    exact Looks.now
  refine Go.bind (Go.special slot_dict_getitem hd rfl ?_)
  have ha : argsOk "dict.__getitem__" ⟨[.ref d, .str k t], []⟩ := args_dict_getitem _ _
  have hs : Slot "dict" (Str.ofString "__getitem__") "dict.__getitem__" := slot_dict_getitem
  have ck := @slot_looks c h "dict" "dict.__getitem__" (Str.ofString "__getitem__") d _ [.str k t] hs hd rfl ha
  refine Go.bcall (b := Builtin.«dict.__getitem__») (by decide +kernel) entry_dict_getitem ck ?_
  unfold Builtin.«dict.__getitem__»
  refine Go.bind ?_
  unfold Builtin.Dict.keyArg
  refine Go.bind (Go.pure (Go.bind (Go.pure (Go.bind (Go.pure (Go.pure ?_))))))
  dsimp only
  refine Go.bind (Go.dictGet hd x fun r hr => ?_)
  cases r with
  | none => rw [show at? kvs k = none from hr] at hv; cases hv
  | some w =>
    obtain ⟨v', u, rfl, e⟩ := hr
    rw [hv] at e
    cases e
    exact Go.pure ⟨_, rfl, Go.pure (H u)⟩
/-- is the key there -/
theorem Go.containsD {d : Addr} {dct : Option Addr} {sl : Array (Option Value)} {es ep} {kvs : Rw} {k : Str} {t : Tok} {Q : Value → Heap → Prop} (hd : h.get? d = some ⟨.type "dict", dct, .dict es ep, sl⟩) (hS : (d == sysModules) = false) (x : Ents es.toList kvs)
    (H : Q (.bool (!(at? kvs k).isSome)) h) : Go c A (compareOp .NotIn (.str k t) (.ref d)) Q h := by
  show Go c A (contains (.ref d) (.str k t) >>= fun b => Pure.pure (.bool (!b))) Q h
  refine Go.bind ?_
  unfold contains
  have sl := slot_dict_contains
  have L : Looks (model PR c.w) h (specialOf (.ref d) "__contains__") (some (.builtin "dict.__contains__")) := (dc_type hd).andThen (b := some (Value.builtin "dict.__contains__")) (by rw [sl.lookup]; exact Looks.now)
  refine Go.holding ?_
  show Go c A (specialOf (.ref d) "__contains__" >>= _) _ h
  refine Go.bind (Go.looks L ?_)
  rw [if_neg (by simp)]
  unfold callSpecialUnlessNone?
  refine Go.bind (Go.bind (Go.looks L (Go.holding ?_)))
  rw [sl.bind]
  refine Go.bind (Go.pure ?_)
  dsimp only
  rw [if_neg (by simp)]
  have ha : argsOk "dict.__contains__" ⟨[.ref d, .str k t], []⟩ := args_dict_contains _ _
  have ck := @slot_looks c h "dict" "dict.__contains__" (Str.ofString "__contains__") d _ [.str k t] sl hd rfl ha
  refine Go.bind ?_
  show Go c A (PySem.call (.builtin "dict.__contains__") [.ref d, .str k t]) _ h
  refine Go.bcall (b := Builtin.«dict.__contains__») (by decide +kernel) entry_dict_contains ck ?_
  unfold Builtin.«dict.__contains__»
  refine Go.bind ?_
  unfold Builtin.Dict.keyArg
  refine Go.bind (Go.pure (Go.bind (Go.pure (Go.bind (Go.pure (Go.pure ?_))))))
  dsimp only
  refine Go.bind (Go.dictGet hd x fun r hr => ?_)
  cases r with
  | none =>
    rw [show at? kvs k = none from hr] at H
    rw [if_neg (by simp)]
    unfold Builtin.Dict.pendingKey?
    rw [hS]
    exact Go.bind (Go.pure (Go.pure ⟨_, rfl, Go.pure (Go.truthyBool (Go.pure H))⟩))
  | some w =>
    obtain ⟨v', u, rfl, e⟩ := hr
    rw [e] at H
    rw [if_pos (by simp)]
    exact Go.pure ⟨_, rfl, Go.pure (Go.truthyBool (Go.pure H))⟩
end
end Mine
namespace Mine
end Mine
local macro_rules | `(tactic| walk_at "e_defc") => `(tactic| (refine' Mine.GoC.defc ?X ?e1 ?e2 ?e3 ?e4 ?e5 ?e6 ?e7 ?H ?e8 ?e9 ?e10 ?e11; (case X => assumption); (case e1 => k_is); (case e2 => k_is); (case e3 => kernel_rfl); (case e4 => k_is); (case e5 => first | decide | assumption | (show _ < 1000; omega)); (case e6 => exact rfl); (case e7 => kernel_rfl); (case e8 => kernel_rfl); (case e9 => rfl); (case e10 => rfl); (case e11 => rfl)))
namespace Mine

local macro_rules | `(tactic| x_close) => `(tactic| first | exact ⟨_, _, rfl, _, rfl, Ext.refl _⟩ | exact ⟨_, _, rfl, _, rfl, mem_ext (by assumption)⟩)
theorem clen_d {c : Cx} {h : Heap} {p : Addr} {es ep} (hp : ¬ p = sysModules) (h3 : h.get? p = some ⟨.type "dict", none, .dict es ep, #[]⟩) (hs : es.size < 1000) : Go c (AA 700 700) (PySem.call (.builtin "len") [.ref p]) (IntOut h es.size) h := fun tk => by
  x_run
theorem clen_i {c : Cx} {h : Heap} {p : Addr} {es ep dct} (KX : (Mine.hd.heap_39 c.w.params).In h) (h3 : h.get? p = some ⟨.ref 194, dct, .dict es ep, #[]⟩) (hs : es.size < 1000) : Go c (AA 700 700) (PySem.call (.builtin "len") [.ref p]) (IntOut h es.size) h := fun tk => by
  x_run
theorem clen_l {c : Cx} {h : Heap} {p : Addr} {items n} (h3 : h.get? p = some ⟨.type "list", none, .seq items n, #[]⟩) (hs : items.size < 1000) : Go c (AA 700 700) (PySem.call (.builtin "len") [.ref p]) (IntOut h items.size) h := fun tk => by
  x_run
theorem clen_t {c : Cx} {h : Heap} {p : Addr} {items n} (h3 : h.get? p = some ⟨.type "tuple", none, .seq items n, #[]⟩) (hs : items.size < 1000) : Go c (AA 700 700) (PySem.call (.builtin "len") [.ref p]) (IntOut h items.size) h := fun tk => by
  x_run
local macro_rules | `(tactic| x_close) => `(tactic| first | exact ⟨_, _, rfl, rfl, Ext.refl _⟩ | exact ⟨_, _, rfl, rfl, mem_ext (by assumption)⟩)
theorem ga_data {c : Cx} {h : Heap} {x xd p : Addr} {t} (KX : (Mine.hd.heap_39 c.w.params).In h) (h1 : h.get? x = some ⟨.ref 337, some xd, .plain, #[some (.ref p)]⟩) (h2 : h.get? xd = some ⟨.type "dict", none, .dict #[] 0, #[]⟩) :
    Go c (AA 700 700) (PySem.runValue (.builtin "proto.getattr_hooked" ⟨[.ref x, .str (Str.ofString "_data") t], []⟩)) (fun v h' => v = .ref p ∧ Ext h h') h := fun tk => by
  x_run
abbrev MethOut (h : Heap) (f : Value) (x : Addr) (v : Value) (h' : Heap) : Prop := ∃ m, v = .ref m ∧ Ext h h' ∧ h'.get? m = some (methodObj f (.ref x))
theorem meth_out {h h' : Heap} {f : Value} {x m : Addr} (D : Mem h h' [] [(m, ⟨.type "method", none, .fields ⟨[f, .ref x]⟩, #[]⟩)]) : MethOut h f x (.ref m) h' := ⟨m, rfl, mem_ext D, (D.nw _ (List.Mem.head _)).1⟩
local macro_rules | `(tactic| x_close) => `(tactic| exact ⟨_, _, rfl, meth_out (by assumption)⟩)
theorem ga_keysP {c : Cx} {h : Heap} {x xd p : Addr} {t} (KX : (Mine.hd.heap_39 c.w.params).In h) (h1 : h.get? x = some ⟨.ref 337, some xd, .plain, #[some (.ref p)]⟩) (h2 : h.get? xd = some ⟨.type "dict", none, .dict #[] 0, #[]⟩) :
    Go c (AA 700 700) (PySem.runValue (.builtin "proto.getattr_hooked" ⟨[.ref x, .str (Str.ofString "keys") t], []⟩)) (MethOut h (.ref 305) x) h := fun tk => by
  x_run
theorem ga_itemsP {c : Cx} {h : Heap} {x xd p : Addr} {t} (KX : (Mine.hd.heap_39 c.w.params).In h) (h1 : h.get? x = some ⟨.ref 337, some xd, .plain, #[some (.ref p)]⟩) (h2 : h.get? xd = some ⟨.type "dict", none, .dict #[] 0, #[]⟩) :
    Go c (AA 700 700) (PySem.runValue (.builtin "proto.getattr_hooked" ⟨[.ref x, .str (Str.ofString "items") t], []⟩)) (MethOut h (.ref 319) x) h := fun tk => by
  x_run
/-- a list of keys -/
inductive Ks : List Value → Rw → Prop
  | nil : Ks [] []
  | cons {k t v vs kvs} : Ks vs kvs → Ks (.str k t :: vs) ((k, v) :: kvs)
abbrev KeysOut (h : Heap) (kvs : Rw) (v : Value) (h' : Heap) : Prop := ∃ a vs n, v = .ref a ∧ h.get? a = none ∧ Ext h h' ∧ h'.get? a = some ⟨.type "list", none, .seq ⟨vs⟩ n, #[]⟩ ∧ Ks vs kvs
theorem keys_out {h h' : Heap} {news : List (Addr × Obj)} {a : Addr} {vs : List Value} {n : Nat} {kvs : Rw} (D : Mem h h' [] news) (hm : (a, (⟨.type "list", none, .seq ⟨vs⟩ n, #[]⟩ : Obj)) ∈ news)
    (hr : Ks vs kvs) : KeysOut h kvs (.ref a) h' := ⟨a, vs, n, rfl, (D.nw _ hm).2, mem_ext D, (D.nw _ hm).1, hr⟩
local macro_rules | `(tactic| walk_at "e_mem") => `(tactic| repeat (first | exact List.Mem.head _ | apply List.Mem.tail))
local macro_rules | `(tactic| x_close) => `(tactic| exact ⟨_, _, rfl, keys_out (by assumption) (by walk_at "e_mem") (by repeat constructor)⟩)
theorem lk_0 {c : Cx} {h : Heap} {p : Addr} {ep} (hp : ¬ p = sysModules) (h3 : h.get? p = some ⟨.type "dict", none, .dict #[] ep, #[]⟩) :
    Go c (AA 700 700) (PySem.call (.type "list") [.ref p]) (KeysOut h []) h := fun tk => by
  x_run
theorem lk_1 {c : Cx} {h : Heap} {p : Addr} {ep t1 h1 u1 k1 v1} (hp : ¬ p = sysModules) (h3 : h.get? p = some ⟨.type "dict", none, .dict #[⟨h1, .str k1 t1, .int v1 u1⟩] ep, #[]⟩) :
    Go c (AA 700 700) (PySem.call (.type "list") [.ref p]) (KeysOut h [(k1, v1)]) h := fun tk => by
  x_run
theorem lk_2 {c : Cx} {h : Heap} {p : Addr} {ep t1 h1 u1 k1 v1 t2 h2 u2 k2 v2} (hp : ¬ p = sysModules) (h3 : h.get? p = some ⟨.type "dict", none, .dict #[⟨h1, .str k1 t1, .int v1 u1⟩, ⟨h2, .str k2 t2, .int v2 u2⟩] ep, #[]⟩) :
    Go c (AA 700 700) (PySem.call (.type "list") [.ref p]) (KeysOut h [(k1, v1), (k2, v2)]) h := fun tk => by
  x_run
end Mine
namespace Mine
section
variable {α β : Type} {c : Cx} {A : Around} {h : Heap} {env : Env}
theorem Go.getAttr1 {a C : Addr} {o : Obj} {name : Str} {b : Bool} {Q : Value → Heap → Prop} (X : (Mine.hd.heap_39 c.w.params).In h) (e : h.get? a = some o) (hc : o.cls = .ref C) (hga : findIn (Mine.hd.heap_39 c.w.params) (.ref C) "__getattribute__" = some (some (.builtin "object.__getattribute__")))
    (H : ∀ t, Go c A (PySem.runValue (.builtin "proto.getattr_hooked" ⟨[.ref a, .str name t], []⟩)) (fun v h' => handedIn v = true ∧ Q v h') h) : Go c A (getAttr (.ref a) name b) Q h := by
  unfold getAttr
  exact Go.bind (Go.mkText fun t => Go.getAttrInst X e hc hga H t true)
/-- o[i], o of a built-in type -/
theorem Go.sub {value slice pos} {Q : Value → Heap → Prop} (H : Go c A (eval value env) (fun o h₁ => Go c A (eval slice env) (fun i h₂ => ∃ a ob T id, o = .ref a ∧ h₂.get? a = some ob ∧ ob.cls = .type T ∧ typeLookup (.type T) "__getitem__" = Pure.pure (some (.builtin id)) ∧ Go c A (getItem o i) Q h₂) h₁) h)
    (hs : ∀ o i, subscripted slice false o i = PySem.operate [o, i] (getItem o i) := by intro _ _; with_unfolding_all rfl) : Go c A (eval (.Subscript value slice pos) env) Q h := by
  rw [arm_eval_Subscript]
  refine Go.bind (H.mono fun o h₁ q => Go.bind (Go.holding (q.mono fun i h₂ q => Go.bind (Go.standAt ?_))))
  obtain ⟨a, ob, T, id, rfl, ho, hc, hl, q⟩ := q
  refine Go.bind ?_
  rw [getitemInPython_of_ne (by simp)]
  refine Go.bind (Go.looks ((dc_type ho).andThen (b := some (Value.builtin id)) (by rw [hc, hl]; exact Looks.now)) ?_)
  refine Go.pure ?_
  show Go c A (subscripted slice false (.ref a) i >>= fun r => letTemporaryGo value (.ref a) r >>= fun _ => Pure.pure r) Q h₂
  rw [hs]
  refine Go.bind (Go.operate (q.mono fun r h₃ q => ?_))
  exact Go.bind (fun tk => wpAny_letTemporaryGo ⟨_, _, rfl, Go.pure q⟩)
/-- d[k] of an exact dict -/
theorem Go.subD {value slice pos} {Q : Value → Heap → Prop} (H : Go c A (eval value env) (fun o h₁ => Go c A (eval slice env) (fun i h₂ => ∃ a dct es ep sl kvs k t v, o = .ref a ∧ i = .str k t ∧ h₂.get? a = some ⟨.type "dict", dct, .dict es ep, sl⟩ ∧ Ents es.toList kvs ∧ at? kvs k = some (k, v) ∧ ∀ u, Q (.int v u) h₂) h₁) h)
    (hs : ∀ o i, subscripted slice false o i = PySem.operate [o, i] (getItem o i) := by intro _ _; with_unfolding_all rfl) :
    Go c A (eval (.Subscript value slice pos) env) Q h := by
  refine Go.sub (H.mono fun o h₁ q => q.mono fun i h₂ q => ?_) hs
  obtain ⟨a, dct, es, ep, sl, kvs, k, t, v, rfl, rfl, hd, x, hv, q⟩ := q
  exact ⟨a, _, "dict", _, rfl, hd, rfl, slot_dict_getitem.lookup, Go.getItemD hd x hv q⟩
/-- an item by its number -/
theorem Go.subS {value slice pos} {Q : Value → Heap → Prop} (H : Go c A (eval value env) (fun o h₁ => Go c A (eval slice env) (fun i h₂ => ∃ a items k t v, o = .ref a ∧ i = .int k t ∧ (h₂.IsTuple a items ∨ h₂.IsList a items) ∧ 0 ≤ k ∧ k < 2 ^ 62 ∧ items[k.toNat]? = some v ∧ Q v h₂) h₁) h)
    (hs : ∀ o i, subscripted slice false o i = PySem.operate [o, i] (getItem o i) := by intro _ _; with_unfolding_all rfl) :
    Go c A (eval (.Subscript value slice pos) env) Q h := by
  refine Go.sub (H.mono fun o h₁ q => q.mono fun i h₂ q => ?_) hs
  obtain ⟨a, items, k, t, v, rfl, rfl, hl, h0, h1, hx, q⟩ := q
  have hlt : k < items.size := by
    have := (Array.getElem?_eq_some_iff.mp hx).1
    omega
  rcases hl with hl | hl
  · obtain ⟨o, ho, hc, n, hd⟩ := id hl
    exact ⟨a, o, "tuple", _, rfl, ho, hc, slot_tuple_getitem.lookup, fun tk => getItem_tuple hl (by omega) (by omega) (seqIndex_of h0 hlt) hx ⟨_, _, rfl, q⟩⟩
  · obtain ⟨o, ho, hc, n, hd⟩ := id hl
    exact ⟨a, o, "list", _, rfl, ho, hc, slot_list_getitem.lookup, fun tk => wpAny_getItem_list hl h0 (by omega) hx ⟨_, _, rfl, q⟩⟩
structure PropsAt (h : Heap) (x xd p : Addr) (kvs : Rw) : Prop where
  hx : h.get? x = some ⟨.ref 337, some xd, .plain, #[some (.ref p)]⟩
  hd : h.get? xd = some ⟨.type "dict", none, .dict #[] 0, #[]⟩
  hp : ∃ es ep, h.get? p = some ⟨.type "dict", none, .dict es ep, #[]⟩ ∧ Ents es.toList kvs
  ne : ¬ p = sysModules
theorem PropsAt.keeps {h h' : Heap} {x xd p kvs} (P : PropsAt h x xd p kvs) (E : Ext h h') : PropsAt h' x xd p kvs :=
  ⟨E _ _ P.hx, E _ _ P.hd, let ⟨es, ep, a, b⟩ := P.hp; ⟨es, ep, E _ _ a, b⟩, P.ne⟩
/-- self._data -/
theorem Go.data {x xd p : Addr} {kvs : Rw} {b : Bool} {Q : Value → Heap → Prop} (X : (Mine.hd.heap_39 c.w.params).In h) (P : PropsAt h x xd p kvs) (hA : A.handled = none) (hd : A.depth ≤ 700) (hu : A.units ≤ 700) (H : ∀ h', Ext h h' → Q (.ref p) h') :
    Go c A (getAttr (.ref x) (Str.ofString "_data") b) Q h :=
  Go.getAttr1 (C := 337) X P.hx rfl (by k_is) fun t => (Go.up (ga_data X P.hx P.hd) hA hd hu).mono fun v h' ⟨e, E⟩ => by subst e; exact ⟨rfl, H h' E⟩
theorem listKeys {p : Addr} {es ep} {kvs : Rw} (hp : ¬ p = sysModules) (h3 : h.get? p = some ⟨.type "dict", none, .dict es ep, #[]⟩) (x : Ents es.toList kvs) (hl : kvs.length ≤ 2) : Go c (AA 700 700) (PySem.call (.type "list") [.ref p]) (KeysOut h kvs) h := by
  obtain ⟨l⟩ := es
  match l, kvs, x, hl, h3 with
  | [], [], .nil, _, h3 => exact lk_0 hp h3
  | [⟨_, _, _⟩], [_], .cons ⟨⟨_, rfl⟩, _, rfl⟩ .nil, _, h3 => exact lk_1 hp h3
  | [⟨_, _, _⟩, ⟨_, _, _⟩], [_, _], .cons ⟨⟨_, rfl⟩, _, rfl⟩ (.cons ⟨⟨_, rfl⟩, _, rfl⟩ .nil), _, h3 => exact lk_2 hp h3
  | _, _ :: _ :: _ :: _, _, hl, _ => simp at hl
theorem keysP {x xd p : Addr} {kvs : Rw} (X : (Mine.hd.heap_39 c.w.params).In h) (P : PropsAt h x xd p kvs) (hl : kvs.length ≤ 2) (hA : A.handled = none) (hd : A.depth ≤ 600) (hu : A.units ≤ 600) :
    GoC c A (.call (.ref 305) ⟨[.ref x], []⟩) (fun fl h' => ∃ v, fl = .ret v ∧ KeysOut h kvs v h') h := by
  walk_at "e_defc"
  intro h₁ N E F
  replace N := ns_1 N
  have X1 := X.keeps E
  refine Go.cons (Go.ret (Go.callE rfl rfl ?_))
  walk_at "e_name"
  refine Go.spc (Go.attr rfl ?_)
  walk_at "e_name"
  refine Go.data X1 (P.keeps E) hA (by show A.depth + 1 ≤ 700; omega) (by show A.units + 3 ≤ 700; omega) fun h₂ E2 => Go.spn ⟨keep_plain (fun a e => by cases e), ?_⟩
  obtain ⟨es, ep, e, y⟩ := P.hp
  refine Go.mono (Go.up (listKeys P.ne (E2 _ _ (E _ _ e)) y hl) hA (by show A.depth + 1 ≤ 700; omega) (by show A.units + 3 ≤ 700; omega)) ?_
  rintro v h' ⟨a, vs, n, rfl, fr, E3, q, r⟩
  exact ⟨a, vs, n, rfl, (E.trans E2).fresh fr, E.trans (E2.trans E3), q, r⟩

/-- x[k] -/
theorem getP {x xd p : Addr} {kvs : Rw} {k : Str} {t : Tok} {v : Int} (X : (Mine.hd.heap_39 c.w.params).In h) (P : PropsAt h x xd p kvs) (hv : at? kvs k = some (k, v)) (hA : A.handled = none) (hd : A.depth ≤ 600) (hu : A.units ≤ 600) :
    Go c A (PySem.call (.ref 248) [.ref x, .str k t]) (fun r h' => ∃ u, r = .int v u ∧ Ext h h') h := by
  walk_at "e_def"
  intro h₁ N E F
  replace N := ns_2 N
  have X1 := X.keeps E
  refine Go.cons (Go.ret ?_)
  refine Go.subD (Go.attr rfl ?_)
  walk_at "e_name"
  refine Go.data X1 (P.keeps E) hA (by show A.depth + 1 ≤ 700; omega) (by show A.units + 3 ≤ 700; omega) fun h₂ E2 => ?_
  have N2 := ns_keeps N E2
  walk_at "e_name"
  obtain ⟨es, ep, e, y⟩ := P.hp
  exact ⟨p, _, _, _, _, kvs, k, t, v, rfl, rfl, E2 _ _ (E _ _ e), y, hv, fun u => ⟨u, rfl, E.trans E2⟩⟩
theorem listItems {p v : Addr} {cls : Value} {dct : Option Addr} {es ep} {kvs : Rw} (hp : ¬ p = sysModules) (h3 : h.get? p = some ⟨cls, dct, .dict es ep, #[]⟩) (x : Ents es.toList kvs) (I : InsD h cls dct) (hl : kvs.length ≤ 6) (hd : cls = .type "dict" → kvs.length ≤ 2)
    (hv : h.get? v = some ⟨.type "dict_items", none, .fields #[.ref p], #[]⟩) : Go c (AA 700 700) (PySem.call (.type "list") [.ref v]) (ListOut h kvs) h := by
  obtain ⟨l⟩ := es
  have big : ∀ C, h.get? p = some ⟨.ref C, dct, .dict ⟨l⟩ ep, #[]⟩ → Go c (AA 700 700) (PySem.call (.type "list") [.ref v]) (ListOut h kvs) h := by
    intro C h3
    match l, kvs, x, hl, h3 with
    | [], [], .nil, _, h3 => exact li_i0 hp h3 hv
    | [⟨_, _, _⟩], [_], .cons ⟨⟨_, rfl⟩, _, rfl⟩ .nil, _, h3 => exact li_i1 hp h3 hv
    | [⟨_, _, _⟩, ⟨_, _, _⟩], [_, _], .cons ⟨⟨_, rfl⟩, _, rfl⟩ (.cons ⟨⟨_, rfl⟩, _, rfl⟩ .nil), _, h3 => exact li_i2 hp h3 hv
    | [⟨_, _, _⟩, ⟨_, _, _⟩, ⟨_, _, _⟩], [_, _, _], .cons ⟨⟨_, rfl⟩, _, rfl⟩ (.cons ⟨⟨_, rfl⟩, _, rfl⟩ (.cons ⟨⟨_, rfl⟩, _, rfl⟩ .nil)), _, h3 => exact li_i3 hp h3 hv
    | [⟨_, _, _⟩, ⟨_, _, _⟩, ⟨_, _, _⟩, ⟨_, _, _⟩], [_, _, _, _], .cons ⟨⟨_, rfl⟩, _, rfl⟩ (.cons ⟨⟨_, rfl⟩, _, rfl⟩ (.cons ⟨⟨_, rfl⟩, _, rfl⟩ (.cons ⟨⟨_, rfl⟩, _, rfl⟩ .nil))), _, h3 => exact li_i4 hp h3 hv
    | [⟨_, _, _⟩, ⟨_, _, _⟩, ⟨_, _, _⟩, ⟨_, _, _⟩, ⟨_, _, _⟩], [_, _, _, _, _], .cons ⟨⟨_, rfl⟩, _, rfl⟩ (.cons ⟨⟨_, rfl⟩, _, rfl⟩ (.cons ⟨⟨_, rfl⟩, _, rfl⟩ (.cons ⟨⟨_, rfl⟩, _, rfl⟩ (.cons ⟨⟨_, rfl⟩, _, rfl⟩ .nil)))), _, h3 => exact li_i5 hp h3 hv
    | [⟨_, _, _⟩, ⟨_, _, _⟩, ⟨_, _, _⟩, ⟨_, _, _⟩, ⟨_, _, _⟩, ⟨_, _, _⟩], [_, _, _, _, _, _], .cons ⟨⟨_, rfl⟩, _, rfl⟩ (.cons ⟨⟨_, rfl⟩, _, rfl⟩ (.cons ⟨⟨_, rfl⟩, _, rfl⟩ (.cons ⟨⟨_, rfl⟩, _, rfl⟩ (.cons ⟨⟨_, rfl⟩, _, rfl⟩ (.cons ⟨⟨_, rfl⟩, _, rfl⟩ .nil))))), _, h3 => exact li_i6 hp h3 hv
    | _, _ :: _ :: _ :: _ :: _ :: _ :: _ :: _, _, hl, _ => simp at hl
  cases I with
  | d =>
    match l, kvs, x, hd rfl, h3 with
    | [], [], .nil, _, h3 => exact li_d0 (C := 0) (dct := none) hp h3 hv
    | [⟨_, _, _⟩], [_], .cons ⟨⟨_, rfl⟩, _, rfl⟩ .nil, _, h3 => exact li_d1 (C := 0) (dct := none) hp h3 hv
    | [⟨_, _, _⟩, ⟨_, _, _⟩], [_, _], .cons ⟨⟨_, rfl⟩, _, rfl⟩ (.cons ⟨⟨_, rfl⟩, _, rfl⟩ .nil), _, h3 => exact li_d2 (C := 0) (dct := none) hp h3 hv
    | _, _ :: _ :: _ :: _, _, hl, _ => simp at hl
  | i q => exact big _ h3
  | p q => exact big _ h3
theorem canon_dict : (Manifest.canonical "dict.__getattribute__" != "object.__getattribute__") = false := by decide +kernel
theorem gm_items {a : Addr} {cls : Value} {dct : Option Addr} {es ep} {pl : Sem Bool} {Q : Value × List Value → Heap → Prop} (X : (Mine.hd.heap_39 c.w.params).In h) (ho : h.get? a = some ⟨cls, dct, .dict es ep, #[]⟩) (I : InsD h cls dct) (H : Q (.builtin "dict.items", [.ref a]) h) :
    Go c A (getMethod (.ref a) (Str.ofString "items") pl) Q h := by
  have I0 := I
  cases I with
  | d => exact Go.gm (ga := "dict.__getattribute__") ho (Looks.of_pure PySem.F.slot_dict_getattribute.lookup) canon_dict (Looks.of_pure (by rw [typeLookup_type, builtinLookup_eq_fast]; kernel_rfl)) (Looks.of_pure (by rw [typeLookup_type, builtinLookup_eq_fast]; kernel_rfl)) (Looks.of_pure (by show builtinType _ = _; rw [builtinType_eq_fast]; kernel_rfl)) (tf := "method_descriptor") (by decide) (insd_ns I0 (by decide)) H
  | i q => exact Go.gm (ga := "dict.__getattribute__") ho (looks_findIn X (by k_is)) canon_dict (looks_findIn X (by k_is)) (looks_findIn X (by k_is)) (Looks.of_pure (by show builtinType _ = _; rw [builtinType_eq_fast]; kernel_rfl)) (tf := "method_descriptor") (by decide) (insd_ns I0 (by decide)) H
  | p q => exact Go.gm (ga := "dict.__getattribute__") ho (looks_findIn X (by k_is)) canon_dict (looks_findIn X (by k_is)) (looks_findIn X (by k_is)) (Looks.of_pure (by show builtinType _ = _; rw [builtinType_eq_fast]; kernel_rfl)) (tf := "method_descriptor") (by decide) (insd_ns I0 (by decide)) H
theorem itemsP {x xd p : Addr} {kvs : Rw} (X : (Mine.hd.heap_39 c.w.params).In h) (P : PropsAt h x xd p kvs) (hl : kvs.length ≤ 2) (hA : A.handled = none) (hd : A.depth ≤ 600) (hu : A.units ≤ 600) :
    GoC c A (.call (.ref 319) ⟨[.ref x], []⟩) (fun fl h' => ∃ v, fl = .ret v ∧ ListOut h kvs v h') h := by
  walk_at "e_defc"
  intro h₁ N E F
  replace N := ns_1 N
  have X1 := X.keeps E
  refine Go.cons (Go.ret (Go.callE rfl rfl ?_))
  walk_at "e_name"
  refine Go.spc ?_
  refine Go.method rfl rfl (by decide) rfl (Go.attr rfl ?_)
  walk_at "e_name"
  refine Go.data X1 (P.keeps E) hA (by show A.depth + 1 ≤ 700; omega) (by show A.units + 3 ≤ 700; omega) fun h₂ E2 => ?_
  obtain ⟨es, ep, e, y⟩ := P.hp
  have e2 := E2 _ _ (E _ _ e)
  refine gm_items (X1.keeps E2) e2 .d ?_
  refine Go.spn ⟨keep_plain (fun a e => by cases e), ?_⟩
  refine Go.itemsView (X1.keeps E2) e2 .d (by simpa using P.ne) ?_
  refine Go.spn ⟨keep_plain (fun a e => by cases e), ?_⟩
  have E3 : Ext h₂ (h₂.push ⟨.type "dict_items", none, .fields #[.ref p], #[]⟩) := fun b o e => Heap.get?_push_of_some _ e
  refine Go.mono (Go.up (listItems P.ne (E3 _ _ e2) y .d (by omega) (fun _ => hl) (Heap.get?_push_size _ rfl)) hA (by show A.depth + 1 ≤ 700; omega) (by show A.units + 3 ≤ 700; omega)) ?_
  rintro v h' ⟨a, rfl, fr, E4, q⟩
  exact ⟨a, rfl, (E.trans (E2.trans E3)).fresh fr, E.trans (E2.trans (E3.trans E4)), fun g' N' => q g' (N'.back (E.trans (E2.trans E3)))⟩
end
end Mine
namespace Mine
theorem plain_merge_keys : plainId "proto.merge_keys" = true := by decide +kernel
theorem entry_merge_keys : entryFor table "proto.merge_keys" = some Builtin.«proto.merge_keys» := entryFor_of_tree (by kernel_rfl)
theorem Ks.get {vs kvs} (x : Ks vs kvs) {i : Nat} {v} (e : vs[i]? = some v) : ∃ kv t, kvs[i]? = some kv ∧ v = .str kv.1 t := by
  induction x generalizing i with
  | nil => simp at e
  | cons _ ih =>
    cases i with
    | zero => simp at e; subst e; exact ⟨_, _, rfl, rfl⟩
    | succ i => simpa using ih (by simpa using e)
theorem Ks.length {vs kvs} (x : Ks vs kvs) : vs.length = kvs.length := by
  induction x with
  | nil => rfl
  | cons _ ih => simp [ih]
/-- in rows of one key each, a row is found by its key -/
theorem at_of_get : ∀ {kvs : Rw} {i : Nat} {kv : Str × Int}, (kvs.map (·.1)).Nodup → kvs[i]? = some kv → at? kvs kv.1 = some (kv.1, kv.2)
  | [], _, _, _, e => by simp at e
  | p :: r, 0, kv, _, e => by
    simp at e; subst e
    simp [at?]
  | p :: r, i + 1, kv, hn, e => by
    simp only [List.map_cons, List.nodup_cons] at hn
    have e' : r[i]? = some kv := by simpa using e
    have hne : ¬ p.1 = kv.1 := fun q => hn.1 (q ▸ List.mem_map_of_mem (List.mem_of_getElem? e'))
    have ih := at_of_get hn.2 e'
    unfold at? at ih ⊢
    rw [List.find?_cons_of_neg (by simpa using hne)]
    exact ih
section
variable {α β : Type} {c : Cx} {A : Around} {h : Heap} {env : Env}
theorem Go.getItemP {x xd p : Addr} {kvs : Rw} {k : Str} {t : Tok} {v : Int} {Q : Value → Heap → Prop} (X : (Mine.hd.heap_39 c.w.params).In h) (P : PropsAt h x xd p kvs) (hv : at? kvs k = some (k, v)) (hA : A.handled = none) (hd : A.depth ≤ 600) (hu : A.units ≤ 600)
    (H : ∀ u h', Ext h h' → Q (.int v u) h') : Go c A (getItem (.ref x) (.str k t)) Q h := by
  unfold getItem
  have hs : noSeq (Mine.hd.heap_39 c.w.params) 337 = true := by k_is
  have L : Looks (model PR c.w) h (typeOf (.ref x)) (.ref 337) := dc_type P.hx
  refine Go.holding (Go.bind (Go.looks (r := .str k t) (L.andThen ?_) ?_))
  · dsimp only
    refine (anyM_none X hs).andThen ?_
    rw [if_pos (by rfl)]
    exact Looks.now
  refine Go.bind ?_
  unfold callSpecial?
  refine Go.bind (Go.looks (r := some (.ref 248)) (L.andThen (looks_findIn X (by k_is))) (Go.holding ?_))
  refine Go.bind (Go.looks (bind_fn X _ (by k_is)) (Go.bind ((getP X P hv hA hd hu).mono ?_)))
  rintro r h' ⟨u, rfl, E⟩
  exact Go.pure (Go.pure (H u h' E))
theorem propsNotDict {x xd p : Addr} {kvs : Rw} (X : (Mine.hd.heap_39 c.w.params).In h) (P : PropsAt h x xd p kvs) : Looks (model PR c.w) h (isInstance (.ref x) (.type "dict")) false :=
  (dc_type P.hx).andThen (looks_mroIn X (by k_is))

theorem GoC.mergeKeys {g : Heap} {d x xd p a : Addr} {cls : Value} {dct : Option Addr} {sl : Array (Option Value)} {es ep} {kvs more : Rw} {vs : List Value} {nn : Nat} {R : Flow → Heap → Prop} (X : (Mine.hd.heap_39 c.w.params).In g) (P : PropsAt g x xd p more) (G : Ext g h) (gd : g.get? d = none)
    (hn : (more.map (·.1)).Nodup) (hA : A.handled = none) (hdp : A.depth ≤ 600) (hu : A.units ≤ 599) (hl : h.get? a = some ⟨.type "list", none, .seq ⟨vs⟩ nn, #[]⟩) (had : a ≠ d) (ks : Ks vs more)
    (hsz : kvs.length ≤ 900) (hm : more.length ≤ 8) (hd : h.get? d = some ⟨cls, dct, .dict es ep, sl⟩) (y : Ents es.toList kvs)
    (H : ∀ h' es' ep', h'.get? d = some ⟨cls, dct, .dict es' ep', sl⟩ → Ents es'.toList (putAll kvs more) → But d h h' → R (.ret .none) h') :
    GoC c A (.builtin "proto.merge_keys" ⟨[.ref d, .ref x, .ref a, rawInt 0, .bool false], []⟩) R h := by
  have key : ∀ k i h, more.length = i + k → Ext g h → h.get? a = some ⟨.type "list", none, .seq ⟨vs⟩ nn, #[]⟩ → ∀ es ep, h.get? d = some ⟨cls, dct, .dict es ep, sl⟩ → Ents es.toList (putAll kvs (more.take i)) →
      (∀ h' es' ep', h'.get? d = some ⟨cls, dct, .dict es' ep', sl⟩ → Ents es'.toList (putAll kvs more) → But d h h' → R (.ret .none) h') →
      GoC c A (.builtin "proto.merge_keys" ⟨[.ref d, .ref x, .ref a, rawInt (i : Int), .bool false], []⟩) R h := by
    intro k
    induction k with
    | zero =>
      intro i h e G hl es ep hd y H
      refine GoC.bltin plain_merge_keys entry_merge_keys ?_
      unfold Builtin.«proto.merge_keys»
      dsimp only
      refine Go.bind (fun tk => wpAny_seqItems hl rfl ⟨_, tk, rfl, ?_⟩)
      have q : (((⟨vs⟩ : Array Value)[((i : Nat) : Int).toNat]?) : Option Value) = none := by
        rw [Int.toNat_natCast]
        have := ks.length
        simp; omega
      show Go c A.in1 (match (((⟨vs⟩ : Array Value)[((i : Nat) : Int).toNat]?) : Option Value) with | some k => _ | _ => _) _ h
      rw [q]
      refine Go.pure ?_
      rw [List.take_of_length_le (by omega)] at y
      exact H h es ep hd y fun b o _ e => e
    | succ k ih =>
      intro i h e G hl es ep hd y H
      refine GoC.bltin plain_merge_keys entry_merge_keys ?_
      unfold Builtin.«proto.merge_keys»
      dsimp only
      refine Go.bind (fun tk => wpAny_seqItems hl rfl ⟨_, tk, rfl, ?_⟩)
      have hi : i < vs.length := by have := ks.length; omega
      have q : (((⟨vs⟩ : Array Value)[((i : Nat) : Int).toNat]?) : Option Value) = some vs[i] := by
        rw [Int.toNat_natCast]
        simp [hi]
      show Go c A.in1 (match (((⟨vs⟩ : Array Value)[((i : Nat) : Int).toNat]?) : Option Value) with | some k => _ | _ => _) _ h
      rw [q]
      obtain ⟨kv, t, hkv, hk⟩ := ks.get (i := i) (v := vs[i]) (by simp [hi])
      rw [hk]
      dsimp only
      refine Go.bind (Go.holding ?_)
      simp only [Bool.false_eq_true, if_false]
      refine Go.bind (Go.getItemP (X.keeps G) (P.keeps G) (at_of_get hn hkv) hA hdp (by show A.units + 1 ≤ 600; omega) fun u h' E => ?_)
      refine Go.holding ?_
      have l1 := putAll_length kvs (more.take i)
      have l2 : (more.take i).length ≤ more.length := by rw [List.length_take]; omega
      refine Go.dictSet (E _ _ hd) y (by omega) fun h'' es'' ep'' hd'' y'' s'' => ?_
      have bt := but_of_same s''
      refine Go.pure ⟨plainId_quiet plain_merge_keys _, ?_⟩
      have e2 : ((i : Int) + 1) = ((i + 1 : Nat) : Int) := by push_cast; rfl
      rw [e2]
      refine ih (i + 1) h'' (by omega) ((G.trans E).thru bt gd) (bt _ _ had (E _ _ hl)) es'' ep'' hd'' (by rw [putAll_take kvs more i kv hkv]; exact y'') fun h3 es3 ep3 a1 a2 b3 => ?_
      exact H h3 es3 ep3 a1 a2 fun b o n e => b3 b o n (bt b o n (E _ _ e))
  exact key more.length 0 h (by omega) G hl es ep hd (by simpa [putAll] using y) H

theorem Go.updProps {g : Heap} {d x xd p : Addr} {cls : Value} {dct : Option Addr} {sl : Array (Option Value)} {es ep} {kvs more : Rw} {Q : Value → Heap → Prop} (X : (Mine.hd.heap_39 c.w.params).In g) (P : PropsAt g x xd p more) (G : Ext g h) (gd : g.get? d = none)
    (hn : (more.map (·.1)).Nodup) (hl : more.length ≤ 2) (hA : A.handled = none) (hdp : A.depth ≤ 500) (hu : A.units ≤ 500)
    (hd : h.get? d = some ⟨cls, dct, .dict es ep, sl⟩) (y : Ents es.toList kvs) (hsz : kvs.length ≤ 900) (D : DC cls)
    (H : ∀ h' es' ep', h'.get? d = some ⟨cls, dct, .dict es' ep', sl⟩ → Ents es'.toList (putAll kvs more) → But d h h' → Q .none h') :
    Go c A (PySem.call (.builtin "dict.update") [.ref d, .ref x]) Q h := by
  have X0 := X.keeps G
  have P0 := P.keeps G
  refine Go.bcall (by decide +kernel) PySem.F.entry_dict_update (upd_check X0 hd D) ?_
  unfold Builtin.«dict.update»
  refine Go.bind ?_
  unfold Builtin.Dict.selfAndRest
  refine Go.bind (Go.notOrdered X0 hd D ?_)
  show Go c A.in1 (Pure.pure (d, [Value.ref x])) _ h
  refine Go.pure ?_
  show Go c A.in1 (Builtin.Dict.updateFrom "dict.update" d (.ref x) [] .none) _ h
  unfold Builtin.Dict.updateFrom
  refine Go.bind (Go.looks (dc_type P0.hx) ?_)
  rw [if_pos (by simp)]
  refine Go.bind (Go.getAttrInst? (C := 337) X0 P0.hx rfl (by k_is) fun t => (Go.up (A := A.in1) (ga_keysP X0 P0.hx P0.hd) hA (by show A.depth ≤ 700; omega) (by show A.units + 1 ≤ 700; omega)).mono fun v h₁ ⟨m, e, E1, hm⟩ => ?_)
  subst e
  refine ⟨rfl, ?_⟩
  rw [if_neg (by simp)]
  have X1 := X0.keeps E1
  have P1 := P0.keeps E1
  refine Go.bind ?_
  unfold Builtin.Dict.merge
  refine Go.bind ?_
  unfold Builtin.Dict.readDirectly
  refine Go.bind (Go.looks (propsNotDict X1 P1) ?_)
  rw [if_pos (by rfl)]
  refine Go.pure ?_
  simp only [Bool.false_eq_true, if_false]
  unfold Builtin.Dict.dictMergeMapping
  refine Go.bind (Go.rule (Go.bind (Go.getAttr1 (C := 337) X1 P1.hx rfl (by k_is) fun t => (Go.up (A := A.in1) (ga_keysP X1 P1.hx P1.hd) hA (by show A.depth ≤ 700; omega) (by show A.units + 1 ≤ 700; omega)).mono fun v h₂ ⟨m2, e, E2, hm2⟩ => ?_)))
  subst e
  refine ⟨rfl, ?_⟩
  refine Go.bind (Go.mcall hm2 ((keysP (A := A.in1) (X1.keeps E2) (P1.keeps E2) hl hA (by show A.depth ≤ 600; omega) (by show A.units + 1 ≤ 600; omega)).mono fun fl h₃ ⟨v, e, a, vs, n, e2, fr, E3, ha, ks⟩ => ⟨v, e, ?_⟩))
  subst e2
  refine Go.bind (Go.looks (dc_type ha) ?_)
  dsimp only
  rw [if_pos (by simp)]
  have E13 : Ext h h₃ := E1.trans (E2.trans E3)
  refine Go.bind (Go.rule (Go.bind (Go.holding (Go.runValue ?_))))
  refine GoC.mergeKeys X P (G.trans E13) gd hn hA (by show A.depth ≤ 600; omega) (by show A.units + 1 ≤ 599; omega) ha ?_ ks hsz (by omega) (E13 _ _ hd) y fun h' es' ep' a1 a2 b => ⟨_, rfl, ?_⟩
  · intro q; subst q; rw [E2 _ _ (E1 _ _ hd)] at fr; cases fr
  · refine Go.pure (Go.bind (Go.pure (Go.pure ⟨_, rfl, H h' es' ep' a1 a2 fun b' o n e => b b' o n (E13 _ _ e)⟩)))
end
end Mine
namespace Mine
section
variable {α β : Type} {c : Cx} {A : Around} {h : Heap} {env : Env}
abbrev tcode (C : Addr) (rest : List Value) : Code := .builtin "type.__call__" ⟨.ref C :: rest, []⟩
theorem under_tc (C : Addr) (rest : List Value) : (A.under (tcode C rest)).handled = A.handled ∧ (A.under (tcode C rest)).depth = A.depth + 1 ∧ (A.under (tcode C rest)).units = A.units + 1 := by
  refine ⟨rfl, ?_, ?_⟩
  · kernel_rfl
  · kernel_rfl
theorem GoC.bcallAt {id : String} {b : Builtin} {pos : List Value} {R : Flow → Heap → Prop} (hq : (Code.builtin id ⟨pos, []⟩).quiet = true) (hb : entryFor table id = some b) (hc : Looks (model PR c.w) h (checkBuiltinCall id ⟨pos, []⟩) ())
    (H : Go c (A.under (.builtin id ⟨pos, []⟩)) (b ⟨pos, []⟩) (fun fin h' => match fin with | .done f => R f h' | .again k' => k'.quiet = true ∧ GoC c A k' R h') h) : GoC c A (.call (.builtin id) ⟨pos, []⟩) R h := fun tk => by
  refine codeAny_call_builtin_at hq hb (hc.here ?_)
  refine wpAny_mono (H tk) (fun fin s' ⟨h', tk', e, q⟩ => ?_) fun _ _ x => x.elim
  subst e
  cases fin with
  | done f => exact ⟨h', tk', rfl, q⟩
  | again k' => exact ⟨q.1, q.2 tk'⟩
theorem looks_check_slot {M : Model} {i owner n : String} {self : Value} {rest : List Value} (hk : builtinKind i = some .slot) (hs : splitId i = some (owner, n)) (hi : Looks M h (isInstance self (.type owner)) true) (ha : argsOk i ⟨self :: rest, []⟩) :
    Looks M h (checkBuiltinCall i ⟨self :: rest, []⟩) () := fun A Q E s k q => check_slot hk hs (hi.keeps k) ha q
/-- a class that a dict stands behind is called -/
theorem Go.make {C : Addr} {oc : Value} {od : Option Addr} {cd : ClassData} {sl : Array (Option Value)} {c0 : Value} {l0 : List Value} {nid : String} {rest : List Value} {Q : Value → Heap → Prop} (X : (Mine.hd.heap_39 c.w.params).In h)
    (hC : (Mine.hd.heap_39 c.w.params).lookup C = some ⟨oc, od, .cls cd, sl⟩) (m0 : cd.mro = c0 :: l0) (hs : sl[4]? = some (some (.builtin nid))) (hcall : specialIn (Mine.hd.heap_39 c.w.params) (.ref C) "__call__" = some (some (.builtin "type.__call__")))
    (htyp : instIn (Mine.hd.heap_39 c.w.params) (.ref C) (.type "type") = some true) (hself : mroIn (Mine.hd.heap_39 c.w.params) C (.ref C) = some true)
    (H : Go c (A.under (tcode C rest)) (PySem.call (.builtin nid) (.ref C :: rest)) (fun obj h₁ => ∃ x ob, obj = .ref x ∧ h₁.get? x = some ob ∧ ob.cls = .ref C ∧ Ext h h₁ ∧ Go c (A.under (tcode C rest)) (callSpecial? obj "__init__" rest) (fun r h₂ => r = some .none ∧ Q obj h₂) h₁) h) :
    Go c A (PySem.call (.ref C) rest) Q h := by
  have hc := X _ _ hC
  refine Go.call (GoC.tree ?_)
  show Go c _ (callAny (.ref C) ⟨rest, []⟩) _ h
  unfold callAny
  refine Go.bind (Go.load hc ?_)
  show Go c _ (callAny.viaDunder (.ref C) ⟨rest, []⟩) _ h
  unfold callAny.viaDunder
  refine Go.bind (Go.looks (looks_specialIn X hcall) ?_)
  dsimp only
  rw [tc_bind]
  refine Go.bind (Go.pure (Go.bind (Go.pure (Go.pure (⟨rfl, ?_⟩ : _ ∧ _)))))
  show GoC c A (.call (.builtin "type.__call__") ⟨.ref C :: rest, []⟩) _ h
  have ck : Looks (model PR c.w) h (checkBuiltinCall "type.__call__" ⟨.ref C :: rest, []⟩) () := @looks_check_slot _ _ _ _ _ (.ref C) rest tc_kind tc_split (looks_instIn X htyp) (tc_args _ _ _)
  refine GoC.bcallAt (b := Builtin.«type.__call__») (Code.quiet_builtin _ (by decide +kernel)) entry_typeCall ck ?_
  have hm : Looks (model PR c.w) h (mroOf (.ref C)) cd.mro := ((Looks.ld (part := none) hc).andThen .now).andThen .now
  unfold Builtin.«type.__call__»
  dsimp only
  rw [if_neg (by simp)]
  refine Go.bind (Go.looks hm ?_)
  rw [if_neg (by rw [m0]; simp)]
  have made : Looks (model PR c.w) h (Bind.madeBy (.ref C)) (some nid) := by
    intro A Q E s k q
    unfold Bind.madeBy
    refine wpAny_bind (hm A _ E s k ?_)
    rw [m0, List.forIn_cons]
    refine wpAny_bind (wpAny_bind (wpAny_bind (wpAny_bind (wpAny_loadPart (k _ _ hc) (wpAny_pure ?_)))))
    dsimp only
    rw [hs]
    exact wpAny_pure (wpAny_pure (wpAny_pure q))
  refine Go.bind (Go.looks made (Go.bind (Go.pure (Go.bind (Go.holding (H.mono fun obj h₁ q => ?_))))))
  obtain ⟨x, ob, rfl, ho, hcl, E, q⟩ := q
  refine Go.bind (Go.looks (r := true) ((dc_type ho).andThen (by rw [hcl]; exact looks_mroIn (X.keeps E) hself)) ?_)
  rw [if_neg (by simp)]
  refine Go.bind (Go.holding (Go.mono q fun r h₂ ⟨e, q⟩ => ?_))
  subst e
  dsimp only
  rw [if_neg (by simp)]
  exact Go.pure ⟨_, rfl, q⟩
end
end Mine
namespace Mine
abbrev ImmOut (h : Heap) (v : Value) (h' : Heap) : Prop := ∃ x xd ep, v = .ref x ∧ Ext h h' ∧ h.get? x = none ∧ h.get? xd = none ∧ h'.get? x = some ⟨.ref 194, some xd, .dict #[] ep, #[]⟩ ∧ h'.get? xd = some ⟨.type "dict", none, .dict #[] 0, #[]⟩
theorem imm_out {h h' : Heap} {news : List (Addr × Obj)} {x xd : Addr} {ep : Nat} (D : Mem h h' [] news) (m1 : (x, (⟨.ref 194, some xd, .dict ⟨[]⟩ ep, #[]⟩ : Obj)) ∈ news) (m2 : (xd, (⟨.type "dict", none, .dict ⟨[]⟩ 0, #[]⟩ : Obj)) ∈ news) : ImmOut h (.ref x) h' :=
  ⟨x, xd, ep, rfl, mem_ext D, (D.nw _ m1).2, (D.nw _ m2).2, (D.nw _ m1).1, (D.nw _ m2).1⟩
local macro_rules | `(tactic| walk_at "e_mem") => `(tactic| repeat (first | exact List.Mem.head _ | apply List.Mem.tail))
local macro_rules | `(tactic| x_close) => `(tactic| exact ⟨_, _, rfl, imm_out (by assumption) (by walk_at "e_mem") (by walk_at "e_mem")⟩)
theorem imm_new {c : Cx} {h : Heap} {v : Value} (KX : (Mine.hd.heap_39 c.w.params).In h) : Go c (AA 700 700) (PySem.call (.builtin "dict.__new__") [.ref 194, v]) (ImmOut h) h := fun tk => by
  x_run
theorem imm_nil {c : Cx} {h : Heap} (KX : (Mine.hd.heap_39 c.w.params).In h) : Go c (AA 600 600) (PySem.call (.ref 194) []) (ImmOut h) h := fun tk => by
  x_run
abbrev PropOut (h : Heap) (p : Addr) (v : Value) (h' : Heap) : Prop := ∃ x xd, v = .ref x ∧ Ext h h' ∧ h.get? x = none ∧ h.get? xd = none ∧ h'.get? x = some ⟨.ref 337, some xd, .plain, #[some (.ref p)]⟩ ∧ h'.get? xd = some ⟨.type "dict", none, .dict #[] 0, #[]⟩
theorem prop_out {h h' : Heap} {news : List (Addr × Obj)} {x xd p : Addr} (D : Mem h h' [] news) (m1 : (x, (⟨.ref 337, some xd, .plain, ⟨[some (.ref p)]⟩⟩ : Obj)) ∈ news) (m2 : (xd, (⟨.type "dict", none, .dict ⟨[]⟩ 0, #[]⟩ : Obj)) ∈ news) : PropOut h p (.ref x) h' :=
  ⟨x, xd, rfl, mem_ext D, (D.nw _ m1).2, (D.nw _ m2).2, (D.nw _ m1).1, (D.nw _ m2).1⟩
local macro_rules | `(tactic| x_close) => `(tactic| exact ⟨_, _, rfl, prop_out (by assumption) (by walk_at "e_mem") (by walk_at "e_mem")⟩)
theorem prop_new {c : Cx} {h : Heap} {p : Addr} (KX : (Mine.hd.heap_39 c.w.params).In h) : Go c (AA 600 600) (PySem.call (.ref 337) [.ref p]) (PropOut h p) h := fun tk => by
  x_run
abbrev PopOut (h : Heap) (v : Value) (h' : Heap) : Prop := ∃ x xd hs tc ep epx, v = .ref x ∧ Ext h h' ∧ h.get? x = none ∧ h.get? xd = none ∧ h'.get? x = some ⟨.ref 378, some xd, .dict #[] ep, #[]⟩ ∧ h'.get? xd = some ⟨.type "dict", none, .dict #[⟨hs, .str (Str.ofString "creator") tc, .ref 390⟩] epx, #[]⟩
theorem pop_out {h h' : Heap} {news : List (Addr × Obj)} {x xd : Addr} {hs tc ep epx} (D : Mem h h' [] news) (m1 : (x, (⟨.ref 378, some xd, .dict ⟨[]⟩ ep, #[]⟩ : Obj)) ∈ news) (m2 : (xd, (⟨.type "dict", none, .dict ⟨[⟨hs, .str (Str.ofString "creator") tc, .ref 390⟩]⟩ epx, #[]⟩ : Obj)) ∈ news) : PopOut h (.ref x) h' :=
  ⟨x, xd, hs, tc, ep, epx, rfl, mem_ext D, (D.nw _ m1).2, (D.nw _ m2).2, (D.nw _ m1).1, (D.nw _ m2).1⟩
local macro_rules | `(tactic| x_close) => `(tactic| exact ⟨_, _, rfl, pop_out (by assumption) (by walk_at "e_mem") (by walk_at "e_mem")⟩)
theorem pop_new {c : Cx} {h : Heap} (KX : (Mine.hd.heap_39 c.w.params).In h) : Go c (AA 600 600) (PySem.call (.ref 378) [.ref 390]) (PopOut h) h := fun tk => by
  x_run
end Mine
namespace Mine
theorem ents_nil {es : Array DictEntry} (e : es = #[]) : Ents es.toList [] := by subst e; exact .nil
section
variable {α β : Type} {c : Cx} {A : Around} {h : Heap} {env : Env}
theorem Go.initD {d o : Addr} {cls : Value} {dct dct' : Option Addr} {sl : Array (Option Value)} {es es' ep ep'} {kvs more : Rw} {Q : Value → Heap → Prop} (X : (Mine.hd.heap_39 c.w.params).In h)
    (hd : h.get? d = some ⟨cls, dct, .dict es ep, sl⟩) (x : Ents es.toList kvs) (ho : h.get? o = some ⟨.type "dict", dct', .dict es' ep', #[]⟩) (y : Ents es'.toList more) (hdo : d ≠ o) (hoS : (o == sysModules) = false)
    (hsz : kvs.length ≤ 900) (hm : more.length ≤ 8) (D : DC cls)
    (H : ∀ h' es'' ep'', h'.get? d = some ⟨cls, dct, .dict es'' ep'', sl⟩ → Ents es''.toList (putAll kvs more) → But d h h' → Q .none h') :
    Go c A (PySem.call (.builtin "dict.__init__") [.ref d, .ref o]) Q h := by
  refine Go.bcall (b := Builtin.«dict.__init__») (by decide +kernel) F.entry_dict_init (looks_check_slot (owner := "dict") (n := "__init__") (by decide +kernel) (by decide +kernel) (dc_inst X hd D) (F.args_dict_init_2 _ _)) ?_
  unfold Builtin.«dict.__init__»
  refine Go.bind ?_
  unfold Builtin.Dict.selfAndRest
  refine Go.bind (Go.notOrdered X hd D ?_)
  show Go c A.in1 (Pure.pure (d, [Value.ref o])) _ h
  refine Go.pure ?_
  show Go c A.in1 (Builtin.Dict.updateFrom "dict.__init__" d (.ref o) [] .none) _ h
  unfold Builtin.Dict.updateFrom
  refine Go.bind (Go.looks (dc_type ho) ?_)
  rw [if_neg (by simp)]
  refine Go.bind (Go.merge X hd x ho y hdo hoS hsz hm .d fun h' es'' ep'' a b s => ?_)
  exact Go.bind (Go.pure (Go.pure ⟨_, rfl, H h' es'' ep'' a b (but_of_same s)⟩))

/-- immutabledict(plain) -/
theorem Go.immOf {p : Addr} {dct : Option Addr} {es ep} {more : Rw} {Q : Value → Heap → Prop} (X : (Mine.hd.heap_39 c.w.params).In h) (ho : h.get? p = some ⟨.type "dict", dct, .dict es ep, #[]⟩) (y : Ents es.toList more) (hoS : (p == sysModules) = false) (hm : more.length ≤ 8)
    (hA : A.handled = none) (hdp : A.depth ≤ 600) (hu : A.units ≤ 600)
    (H : ∀ x xd h' es' ep', Ext h h' → h.get? x = none → h.get? xd = none → h'.get? x = some ⟨.ref 194, some xd, .dict es' ep', #[]⟩ → Ents es'.toList (putAll [] more) → h'.get? xd = some ⟨.type "dict", none, .dict #[] 0, #[]⟩ → Q (.ref x) h') :
    Go c A (PySem.call (.ref 194) [.ref p]) Q h := by
  obtain ⟨u1, u2, u3⟩ := under_tc (A := A) 194 [.ref p]
  refine' Go.make X ?hC ?m0 ?hs ?hcall ?htyp ?hself ?H
  case hC => k_is
  case m0 => rfl
  case hs => rfl
  case hcall => k_is
  case htyp => k_is
  case hself => k_is
  case H =>
    refine Go.mono (Go.up (imm_new X) (by rw [u1]; exact hA) (by omega) (by omega)) ?_
    rintro obj h₁ ⟨x, xd, ep1, rfl, E, fx, fxd, hx, hxd⟩
    refine ⟨x, _, rfl, hx, rfl, E, ?_⟩
    have X1 := X.keeps E
    unfold callSpecial?
    refine Go.bind (Go.looks (r := some (.builtin "dict.__init__")) ((dc_type hx).andThen (looks_findIn X1 (by k_is))) (Go.holding ?_))
    rw [PySem.F.slot_dict_init.bind]
    have hne : x ≠ p := fun q => by subst q; rw [ho] at fx; cases fx
    have hnd : x ≠ xd := fun q => by subst q; rw [hx] at hxd; cases hxd
    refine Go.bind (Go.pure (Go.bind (Go.initD X1 hx (ents_nil rfl) (E _ _ ho) y hne hoS (by simp) hm .i fun h' es' ep' a b k => Go.pure ⟨rfl, ?_⟩)))
    exact H x xd h' es' ep' ((fun b' o e => k b' o (fun q => by subst q; rw [fx] at e; cases e) (E b' o e))) fx fxd a b (k _ _ (Ne.symm hnd) hxd)
end
end Mine
namespace Mine
/-- a thing that is handed over: its value, its rows, whether it counts, whether it is immutable -/
structure Th where
  v : Value
  kvs : Rw
  full : Bool
  shut : Bool
/-- what is so of it: in g what stands, in h where a walk is -/
inductive Thing (g h : Heap) : Th → Prop
  | none : Thing g h ⟨.none, [], false, false⟩
  | dict {a cls dct es ep kvs} : g.get? a = some ⟨cls, dct, .dict es ep, #[]⟩ → InsD g cls dct → Ents es.toList kvs → (a == sysModules) = false → Thing g h ⟨.ref a, kvs, !kvs.isEmpty, decide (cls = .ref 194)⟩
  | list {a vs n kvs} : g.get? a = some ⟨.type "list", Option.none, .seq vs.toArray n, #[]⟩ → Rs g vs kvs → Thing g h ⟨.ref a, kvs, !kvs.isEmpty, false⟩
  | tuple {a vs n kvs} : g.get? a = some ⟨.type "tuple", Option.none, .seq vs.toArray n, #[]⟩ → Rs g vs kvs → Thing g h ⟨.ref a, kvs, !kvs.isEmpty, false⟩
  | props {x xd p kvs} : PropsAt g x xd p kvs → Thing g h ⟨.ref x, kvs, !kvs.isEmpty, false⟩
  | iter {it l vs kvs} : g.IsList l vs.toArray → Rs g vs kvs → g.get? it = Option.none → h.get? it = some (walkObj l 0) → Thing g h ⟨.ref it, kvs, true, false⟩
section
variable {α β : Type} {c : Cx} {A : Around} {h : Heap} {env : Env}
theorem Go.updWalk {g : Heap} {d o l : Addr} {cls : Value} {dct : Option Addr} {sl : Array (Option Value)} {es ep} {kvs more : Rw} {vs : List Value} {Q : Value → Heap → Prop} (X : (Mine.hd.heap_39 c.w.params).In h) (G : Ext g h) (gd : g.get? d = Option.none) (go : g.get? o = Option.none) (hdo : d ≠ o)
    (hd : h.get? d = some ⟨cls, dct, .dict es ep, sl⟩) (x : Ents es.toList kvs) (ho : h.get? o = some (walkObj l 0)) (hl : g.IsList l vs.toArray) (hR : Rs g vs more)
    (hsz : kvs.length ≤ 900) (hm : more.length ≤ 8) (D : DC cls) (hA : A.handled = Option.none)
    (H : ∀ h' es' ep', h'.get? d = some ⟨cls, dct, .dict es' ep', sl⟩ → Ents es'.toList (putAll kvs more) → (∀ b o', b ≠ d → b ≠ o → h.get? b = some o' → h'.get? b = some o') → (∃ o', h'.get? o = some o' ∧ o'.cls = .type "list_iterator") → Q .none h') :
    Go c A (PySem.call (.builtin "dict.update") [.ref d, .ref o]) Q h := by
  refine Go.updPairs X hd ho (by simp) D (fun Q k => Go.noKeys_list_iterator hA (n := 0) ho k) fun h₁ E => ?_
  have it1 : h₁.IsListIter o l 0 := ⟨_, E _ _ ho, rfl, rfl⟩
  refine (fun tk => wpAny_pyIter_listiter it1 ⟨_, _, rfl, ?_⟩)
  have G2 := G.trans E
  have W0 : Wk c A.in1 (.Name (Str.ofString "v") default) o vs.toArray.size (fun i v => vs.toArray[i]? = some v) (Ext g) (fun i h => h.IsListIter o l i) := Wk.list (fun h' b => hl.at fun o e => b _ _ e) hA
  refine GoC.updLoop (Sp := fun h' => ∃ o', h'.get? o = some o' ∧ o'.cls = .type "list_iterator") W0 (fun h Q b st k => Go.endSpent hA st (hl.at fun o e => b _ _ e) (by simp) k) hdo (fun i v h' b e => rs_item hR b e) (fun h' h'' b k => keep_g b gd go k) hsz hm (by rw [List.size_toArray, hR.length]) (E _ _ hd) x G2 it1 fun h' es' ep' a b k sp => ⟨_, rfl, H h' es' ep' a b ?_ sp⟩
  exact fun b o n1 n2 e => k b o n1 n2 (E _ _ e)
theorem Go.truthyLen {a : Addr} {o : Obj} {f : Value} {Q : Bool → Heap → Prop} (ho : h.get? a = some o) (hb : Looks (model PR c.w) h (typeLookup o.cls "__bool__") Option.none) (hl : Looks (model PR c.w) h (typeLookup o.cls "__len__") (some f))
    (H : Go c A (PySem.runValue (.builtin "len" ⟨[.ref a], []⟩)) (fun r h' => ∃ n t, r = .int n t ∧ Q (n != 0) h') h) : Go c A (truthy (.ref a)) Q h := by
  unfold truthy
  dsimp only
  refine Go.bind ?_
  unfold callSpecial?
  refine Go.bind (Go.looks ((dc_type ho).andThen hb) (Go.pure ?_))
  refine Go.bind (Go.looks ((dc_type ho).andThen hl) ?_)
  rw [if_neg (by simp)]
  refine Go.bind (H.mono ?_)
  rintro r h' ⟨n, t, rfl, q⟩
  exact Go.pure q
theorem truth_n {n : Nat} {l : Rw} (e : n = l.length) : ((n : Int) != 0) = !l.isEmpty := by
  subst e
  cases l <;> simp <;> omega
theorem lenP {x xd p : Addr} {kvs : Rw} (X : (Mine.hd.heap_39 c.w.params).In h) (P : PropsAt h x xd p kvs) (hl : kvs.length < 1000) (hA : A.handled = Option.none) (hd : A.depth ≤ 600) (hu : A.units ≤ 600) :
    Go c A (PySem.call (.ref 220) [.ref x]) (IntOut h kvs.length) h := by
  walk_at "e_def"
  intro h₁ N E F
  replace N := ns_1 N
  have X1 := X.keeps E
  refine Go.cons (Go.ret (Go.callE rfl rfl ?_))
  walk_at "e_name"
  refine Go.spc (Go.attr rfl ?_)
  walk_at "e_name"
  refine Go.data X1 (P.keeps E) hA (by show A.depth + 1 ≤ 700; omega) (by show A.units + 3 ≤ 700; omega) fun h₂ E2 => Go.spn ⟨keep_plain (fun a e => by cases e), ?_⟩
  obtain ⟨es, ep, e, y⟩ := P.hp
  have hz : es.size = kvs.length := by rw [← Array.length_toList, y.length]
  refine Go.mono (Go.up (clen_d P.ne (E2 _ _ (E _ _ e)) (by omega)) hA (by show A.depth + 1 ≤ 700; omega) (by show A.units + 3 ≤ 700; omega)) ?_
  rintro v h' ⟨t, rfl, E3⟩
  exact ⟨t, by rw [hz], E.trans (E2.trans E3)⟩
/-- the built-in len of properties -/
theorem lenBP {x xd p : Addr} {kvs : Rw} (X : (Mine.hd.heap_39 c.w.params).In h) (P : PropsAt h x xd p kvs) (hl : kvs.length < 1000) (hA : A.handled = Option.none) (hd : A.depth ≤ 600) (hu : A.units ≤ 599) :
    Go c A (PySem.runValue (.builtin "len" ⟨[.ref x], []⟩)) (IntOut h kvs.length) h := by
  refine Go.runValue (GoC.bltin (b := Builtin.«len») (by decide +kernel) entry_len ?_)
  unfold Builtin.«len»
  refine Go.bind (Go.pure (Go.bind ?_))
  unfold callSpecial?
  refine Go.bind (Go.looks (r := some (.ref 220)) ((dc_type P.hx).andThen (looks_findIn X (by k_is))) (Go.holding ?_))
  refine Go.bind (Go.looks (bind_fn X _ (by k_is)) (Go.bind ((lenP (A := A.in1) X P hl hA hd (by show A.units + 1 ≤ 600; omega)).mono ?_)))
  rintro r h' ⟨t, rfl, E⟩
  refine Go.pure ?_
  dsimp only
  refine Go.bind (Go.holding (Go.pure ?_))
  refine Go.bind (fun tk => wpAny_letGo ⟨_, tk, rfl, ?_⟩)
  rw [if_neg (by omega)]
  rw [if_neg (by omega)]
  exact Go.bind (fun tk => wpAny_mkInt' ⟨_, _, rfl, Go.pure ⟨_, rfl, _, rfl, E⟩⟩)
theorem Go.truthyThing {g : Heap} {t : Th} {Q : Bool → Heap → Prop} (X : (Mine.hd.heap_39 c.w.params).In h) (G : Ext g h) (T : Thing g h t) (hl : t.kvs.length < 900) (hA : A.handled = Option.none) (hd : A.depth ≤ 590) (hu : A.units ≤ 590) (H : ∀ h', Ext h h' → Q t.full h') : Go c A (truthy t.v) Q h := by
  cases T with
  | none => exact Go.truthyNone (H h (Ext.refl h))
  | @dict a cls dct es ep kvs ho I y hS =>
    have hz : es.size = kvs.length := by rw [← Array.length_toList, y.length]
    have ho' := G _ _ ho
    have I' := I.keeps G
    have hlt : es.size < 1000 := by rw [hz]; exact Nat.lt_trans hl (by decide)
    have back : ∀ v h', IntOut h es.size v h' → ∃ n t, v = .int n t ∧ Q (n != 0) h' := by
      rintro v h' ⟨t, rfl, E⟩
      exact ⟨_, t, rfl, by rw [truth_n hz]; exact H h' E⟩
    cases I' with
    | d => exact Go.truthyLen (f := .builtin "dict.__len__") ho' (Looks.of_pure (by rw [typeLookup_type, builtinLookup_eq_fast]; kernel_rfl)) (Looks.of_pure (by rw [typeLookup_type, builtinLookup_eq_fast]; kernel_rfl)) (Go.mono (Go.up (len_d (by simpa using hS) ho' hlt) hA (by omega) (by omega)) back)
    | i q => exact Go.truthyLen ho' (looks_findIn X (by k_is)) (looks_findIn X (by k_is)) (Go.mono (Go.up (len_i X ho' hlt) hA (by omega) (by omega)) back)
    | p q => exact Go.truthyLen ho' (looks_findIn X (by k_is)) (looks_findIn X (by k_is)) (Go.mono (Go.up (len_p X ho' hlt) hA (by omega) (by omega)) back)
  | @list a vs n kvs ho hr =>
    intro tk
    have e : (!vs.toArray.isEmpty) = !kvs.isEmpty := by
      have := hr.length
      cases vs <;> cases kvs <;> simp_all
    refine wpAny_truthy_list ⟨_, G _ _ ho, rfl, _, rfl⟩ ?_ ?_
    · rw [List.size_toArray, hr.length]; show (_ : Int) < _; have : kvs.length < 900 := hl; omega
    · rw [e]; exact ⟨h, _, rfl, H h (Ext.refl h)⟩
  | @tuple a vs n kvs ho hr =>
    have hz : vs.toArray.size = kvs.length := by rw [List.size_toArray, hr.length]
    refine Go.truthyLen (f := .builtin "tuple.__len__") (G _ _ ho) (Looks.of_pure (by rw [typeLookup_type, builtinLookup_eq_fast]; kernel_rfl)) (Looks.of_pure (by rw [typeLookup_type, builtinLookup_eq_fast]; kernel_rfl)) (Go.mono (Go.up (len_t (G _ _ ho) (by rw [hz]; exact Nat.lt_trans hl (by decide))) hA (by omega) (by omega)) ?_)
    rintro v h' ⟨t, rfl, E⟩
    exact ⟨_, t, rfl, by rw [truth_n hz]; exact H h' E⟩
  | @props x xd p kvs P =>
    have P' := P.keeps G
    refine Go.truthyLen P'.hx (looks_findIn X (by k_is)) (looks_findIn X (by k_is)) (Go.mono (lenBP X P' (Nat.lt_trans hl (by decide)) hA (by omega) (by omega)) ?_)
    rintro v h' ⟨t, rfl, E⟩
    exact ⟨_, t, rfl, by rw [truth_n rfl]; exact H h' E⟩
  | @iter it l vs kvs ho hr gi hi =>
    unfold truthy
    dsimp only
    refine Go.bind ?_
    unfold callSpecial?
    refine Go.bind (Go.looks (r := Option.none) ((dc_type hi).andThen (Looks.of_pure (by rw [typeLookup_type, builtinLookup_eq_fast]; kernel_rfl))) (Go.pure ?_))
    refine Go.bind (Go.looks (r := Option.none) ((dc_type hi).andThen (Looks.of_pure (by rw [typeLookup_type, builtinLookup_eq_fast]; kernel_rfl))) ?_)
    exact Go.pure (H h (Ext.refl h))
end
end Mine
namespace Mine
/-- a thing behind the union: a walk may have been spent -/
inductive ThingS (g h : Heap) : Th → Prop
  | none : ThingS g h ⟨.none, [], false, false⟩
  | dict {a cls dct es ep kvs} : g.get? a = some ⟨cls, dct, .dict es ep, #[]⟩ → InsD g cls dct → Ents es.toList kvs → (a == sysModules) = false → ThingS g h ⟨.ref a, kvs, !kvs.isEmpty, decide (cls = .ref 194)⟩
  | list {a vs n kvs} : g.get? a = some ⟨.type "list", Option.none, .seq vs.toArray n, #[]⟩ → Rs g vs kvs → ThingS g h ⟨.ref a, kvs, !kvs.isEmpty, false⟩
  | tuple {a vs n kvs} : g.get? a = some ⟨.type "tuple", Option.none, .seq vs.toArray n, #[]⟩ → Rs g vs kvs → ThingS g h ⟨.ref a, kvs, !kvs.isEmpty, false⟩
  | props {x xd p kvs} : PropsAt g x xd p kvs → ThingS g h ⟨.ref x, kvs, !kvs.isEmpty, false⟩
  | iter {it o kvs} : g.get? it = Option.none → h.get? it = some o → o.cls = .type "list_iterator" → ThingS g h ⟨.ref it, kvs, true, false⟩
theorem Thing.spent {g h : Heap} {t : Th} (T : Thing g h t) : ThingS g h t := by
  cases T with
  | none => exact .none
  | dict a b e d => exact .dict a b e d
  | list a b => exact .list a b
  | tuple a b => exact .tuple a b
  | props a => exact .props a
  | iter a b e d => exact .iter e d rfl
theorem Thing.after {g h h' : Heap} {t : Th} (T : Thing g h t) (k : ∀ b o, .ref b = t.v → g.get? b = Option.none → o.cls = .type "list_iterator" → h.get? b = some o → h'.get? b = some o) : Thing g h' t := by
  cases T with
  | none => exact .none
  | dict a b e d => exact .dict a b e d
  | list a b => exact .list a b
  | tuple a b => exact .tuple a b
  | props a => exact .props a
  | iter a b e d => exact .iter a b e (k _ _ rfl e rfl d)
theorem ThingS.after {g h h' : Heap} {t : Th} (T : ThingS g h t) (k : ∀ b o, .ref b = t.v → g.get? b = Option.none → o.cls = .type "list_iterator" → h.get? b = some o → h'.get? b = some o) : ThingS g h' t := by
  cases T with
  | none => exact .none
  | dict a b e d => exact .dict a b e d
  | list a b => exact .list a b
  | tuple a b => exact .tuple a b
  | props a => exact .props a
  | iter a b e => exact .iter a (k _ _ rfl a e b) e
section
variable {α β : Type} {c : Cx} {A : Around} {h : Heap} {env : Env}
theorem Go.updThing {g : Heap} {d : Addr} {t : Th} {cls : Value} {dct : Option Addr} {sl : Array (Option Value)} {es ep} {kvs : Rw} {Q : Value → Heap → Prop} (X : (Mine.hd.heap_39 c.w.params).In g) (G : Ext g h) (gd : g.get? d = none) (T : Thing g h t) (hf : t.full = true)
    (hn : (t.kvs.map (·.1)).Nodup) (hl : t.kvs.length ≤ 2) (hA : A.handled = none) (hdp : A.depth ≤ 490) (hu : A.units ≤ 490)
    (hd : h.get? d = some ⟨cls, dct, .dict es ep, sl⟩) (y : Ents es.toList kvs) (hsz : kvs.length ≤ 900) (D : DC cls)
    (H : ∀ h' es' ep', h'.get? d = some ⟨cls, dct, .dict es' ep', sl⟩ → Ents es'.toList (putAll kvs t.kvs) → Ext g h' → (∀ b o, b ≠ d → .ref b ≠ t.v → h.get? b = some o → h'.get? b = some o) → ThingS g h' t → Q .none h') :
    Go c A (PySem.call (.builtin "dict.update") [.ref d, t.v]) Q h := by
  have X0 := X.keeps G
  have T0 := T.spent
  have fin : ∀ h' es' ep', (∀ b, .ref b = t.v → g.get? b ≠ none) → h'.get? d = some ⟨cls, dct, .dict es' ep', sl⟩ → Ents es'.toList (putAll kvs t.kvs) → But d h h' → Q .none h' := fun h' es' ep' ng a b k => by
    refine H h' es' ep' a b (fun b' o e => k b' o (fun q => by subst q; rw [gd] at e; cases e) (G b' o e)) (fun b' o n _ e => k b' o n e) (T0.after fun b' o e n _ _ => absurd n (ng b' e))
  cases T with
  | none => cases hf
  | @dict a cls' dct' es' ep' kvs' ho I y' hS =>
    refine Go.updD X0 hd y (G _ _ ho) y' (fun q => by subst q; rw [ho] at gd; cases gd) hS hsz (Nat.le_trans hl (by decide)) D (I.keeps G) hA (by omega) (by omega) fun h' es' ep' a1 a2 k => fin h' es' ep' ?_ a1 a2 k
    intro b e q; cases e; rw [ho] at q; cases q
  | @list a vs n kvs' ho hr =>
    refine Go.updList X0 G gd hd y ho hr hsz (Nat.le_trans hl (by decide)) D hA fun h' es' ep' a1 a2 k => fin h' es' ep' ?_ a1 a2 k
    intro b e q; cases e; rw [ho] at q; cases q
  | @tuple a vs n kvs' ho hr =>
    refine Go.updTuple X0 G gd hd y ho hr hsz (Nat.le_trans hl (by decide)) D hA fun h' es' ep' a1 a2 k => fin h' es' ep' ?_ a1 a2 k
    intro b e q; cases e; rw [ho] at q; cases q
  | @props x xd p kvs' P =>
    refine Go.updProps X P G gd hn hl hA (by omega) (by omega) hd y hsz D fun h' es' ep' a1 a2 k => fin h' es' ep' ?_ a1 a2 k
    intro b e q; cases e; rw [P.hx] at q; cases q
  | @iter it l vs kvs' ho hr gi hi =>
    refine Go.updWalk X0 G gd gi (fun q => by subst q; rw [hd] at hi; cases hi) hd y hi ho hr hsz (Nat.le_trans hl (by decide)) D hA fun h' es' ep' a1 a2 k ⟨o', q1, q2⟩ => ?_
    exact H h' es' ep' a1 a2 (keep_g G gd gi k) (fun b o n1 n2 e => k b o n1 (fun q => n2 (by subst q; rfl)) e) (.iter gi q1 q2)
end
end Mine
namespace Mine
abbrev BoolOut (h : Heap) (b : Bool) (v : Value) (h' : Heap) : Prop := v = .bool b ∧ Ext h h'
local macro_rules | `(tactic| x_close) => `(tactic| first | exact ⟨_, _, rfl, rfl, Ext.refl _⟩ | exact ⟨_, _, rfl, rfl, mem_ext (by assumption)⟩)
theorem isi_ad {c : Cx} {h : Heap} {x : Addr} {es : Array DictEntry} {ep : Nat} (KX : (Mine.hd.heap_39 c.w.params).In h) (hx : h.get? x = some ⟨.type "dict", none, .dict es ep, #[]⟩) : Go c (AA 700 700) (PySem.call (.builtin "isinstance") [.ref x, .ref 194]) (BoolOut h false) h := fun tk => by
  x_run
theorem isi_ai {c : Cx} {h : Heap} {x : Addr} {es : Array DictEntry} {ep : Nat} {dct : Option Addr} (KX : (Mine.hd.heap_39 c.w.params).In h) (hx : h.get? x = some ⟨.ref 194, dct, .dict es ep, #[]⟩) : Go c (AA 700 700) (PySem.call (.builtin "isinstance") [.ref x, .ref 194]) (BoolOut h true) h := fun tk => by
  x_run
theorem isi_ap {c : Cx} {h : Heap} {x : Addr} {es : Array DictEntry} {ep : Nat} {dct : Option Addr} (KX : (Mine.hd.heap_39 c.w.params).In h) (hx : h.get? x = some ⟨.ref 378, dct, .dict es ep, #[]⟩) : Go c (AA 700 700) (PySem.call (.builtin "isinstance") [.ref x, .ref 194]) (BoolOut h false) h := fun tk => by
  x_run
theorem isi_al {c : Cx} {h : Heap} {x : Addr} {items : Array Value} {n : Nat} (KX : (Mine.hd.heap_39 c.w.params).In h) (hx : h.get? x = some ⟨.type "list", none, .seq items n, #[]⟩) : Go c (AA 700 700) (PySem.call (.builtin "isinstance") [.ref x, .ref 194]) (BoolOut h false) h := fun tk => by
  x_run
theorem isi_at {c : Cx} {h : Heap} {x : Addr} {items : Array Value} {n : Nat} (KX : (Mine.hd.heap_39 c.w.params).In h) (hx : h.get? x = some ⟨.type "tuple", none, .seq items n, #[]⟩) : Go c (AA 700 700) (PySem.call (.builtin "isinstance") [.ref x, .ref 194]) (BoolOut h false) h := fun tk => by
  x_run
theorem isi_aq {c : Cx} {h : Heap} {x : Addr} {xd : Addr} {p : Addr} (KX : (Mine.hd.heap_39 c.w.params).In h) (hx : h.get? x = some ⟨.ref 337, some xd, .plain, #[some (.ref p)]⟩) : Go c (AA 700 700) (PySem.call (.builtin "isinstance") [.ref x, .ref 194]) (BoolOut h false) h := fun tk => by
  x_run
theorem isi_aw {c : Cx} {h : Heap} {x : Addr} {od : Option Addr} {dat : Data} {osl : Array (Option Value)} (KX : (Mine.hd.heap_39 c.w.params).In h) (hx : h.get? x = some ⟨.type "list_iterator", od, dat, osl⟩) : Go c (AA 700 700) (PySem.call (.builtin "isinstance") [.ref x, .ref 194]) (BoolOut h false) h := fun tk => by
  x_run
theorem isi_an {c : Cx} {h : Heap} (KX : (Mine.hd.heap_39 c.w.params).In h) : Go c (AA 700 700) (PySem.call (.builtin "isinstance") [.none, .ref 194]) (BoolOut h false) h := fun tk => by
  x_run
theorem isi_bd {c : Cx} {h : Heap} {x : Addr} {es : Array DictEntry} {ep : Nat} (KX : (Mine.hd.heap_39 c.w.params).In h) (hx : h.get? x = some ⟨.type "dict", none, .dict es ep, #[]⟩) : Go c (AA 700 700) (PySem.call (.builtin "isinstance") [.ref x, .type "dict"]) (BoolOut h true) h := fun tk => by
  x_run
theorem isi_bi {c : Cx} {h : Heap} {x : Addr} {es : Array DictEntry} {ep : Nat} {dct : Option Addr} (KX : (Mine.hd.heap_39 c.w.params).In h) (hx : h.get? x = some ⟨.ref 194, dct, .dict es ep, #[]⟩) : Go c (AA 700 700) (PySem.call (.builtin "isinstance") [.ref x, .type "dict"]) (BoolOut h true) h := fun tk => by
  x_run
theorem isi_bp {c : Cx} {h : Heap} {x : Addr} {es : Array DictEntry} {ep : Nat} {dct : Option Addr} (KX : (Mine.hd.heap_39 c.w.params).In h) (hx : h.get? x = some ⟨.ref 378, dct, .dict es ep, #[]⟩) : Go c (AA 700 700) (PySem.call (.builtin "isinstance") [.ref x, .type "dict"]) (BoolOut h true) h := fun tk => by
  x_run
theorem isi_bl {c : Cx} {h : Heap} {x : Addr} {items : Array Value} {n : Nat} (KX : (Mine.hd.heap_39 c.w.params).In h) (hx : h.get? x = some ⟨.type "list", none, .seq items n, #[]⟩) : Go c (AA 700 700) (PySem.call (.builtin "isinstance") [.ref x, .type "dict"]) (BoolOut h false) h := fun tk => by
  x_run
theorem isi_bt {c : Cx} {h : Heap} {x : Addr} {items : Array Value} {n : Nat} (KX : (Mine.hd.heap_39 c.w.params).In h) (hx : h.get? x = some ⟨.type "tuple", none, .seq items n, #[]⟩) : Go c (AA 700 700) (PySem.call (.builtin "isinstance") [.ref x, .type "dict"]) (BoolOut h false) h := fun tk => by
  x_run
theorem isi_bq {c : Cx} {h : Heap} {x : Addr} {xd : Addr} {p : Addr} (KX : (Mine.hd.heap_39 c.w.params).In h) (hx : h.get? x = some ⟨.ref 337, some xd, .plain, #[some (.ref p)]⟩) : Go c (AA 700 700) (PySem.call (.builtin "isinstance") [.ref x, .type "dict"]) (BoolOut h false) h := fun tk => by
  x_run
theorem isi_bw {c : Cx} {h : Heap} {x : Addr} {od : Option Addr} {dat : Data} {osl : Array (Option Value)} (KX : (Mine.hd.heap_39 c.w.params).In h) (hx : h.get? x = some ⟨.type "list_iterator", od, dat, osl⟩) : Go c (AA 700 700) (PySem.call (.builtin "isinstance") [.ref x, .type "dict"]) (BoolOut h false) h := fun tk => by
  x_run
theorem isi_bn {c : Cx} {h : Heap} (KX : (Mine.hd.heap_39 c.w.params).In h) : Go c (AA 700 700) (PySem.call (.builtin "isinstance") [.none, .type "dict"]) (BoolOut h false) h := fun tk => by
  x_run
theorem isi_cd {c : Cx} {h : Heap} {x : Addr} {es : Array DictEntry} {ep : Nat} (KX : (Mine.hd.heap_39 c.w.params).In h) (hx : h.get? x = some ⟨.type "dict", none, .dict es ep, #[]⟩) {q : Addr} {nq : Nat} (hq : h.get? q = some ⟨.type "tuple", none, .seq #[.type "list", .type "tuple"] nq, #[]⟩) : Go c (AA 700 700) (PySem.call (.builtin "isinstance") [.ref x, .ref q]) (BoolOut h false) h := fun tk => by
  x_run
theorem isi_ci {c : Cx} {h : Heap} {x : Addr} {es : Array DictEntry} {ep : Nat} {dct : Option Addr} (KX : (Mine.hd.heap_39 c.w.params).In h) (hx : h.get? x = some ⟨.ref 194, dct, .dict es ep, #[]⟩) {q : Addr} {nq : Nat} (hq : h.get? q = some ⟨.type "tuple", none, .seq #[.type "list", .type "tuple"] nq, #[]⟩) : Go c (AA 700 700) (PySem.call (.builtin "isinstance") [.ref x, .ref q]) (BoolOut h false) h := fun tk => by
  x_run
theorem isi_cp {c : Cx} {h : Heap} {x : Addr} {es : Array DictEntry} {ep : Nat} {dct : Option Addr} (KX : (Mine.hd.heap_39 c.w.params).In h) (hx : h.get? x = some ⟨.ref 378, dct, .dict es ep, #[]⟩) {q : Addr} {nq : Nat} (hq : h.get? q = some ⟨.type "tuple", none, .seq #[.type "list", .type "tuple"] nq, #[]⟩) : Go c (AA 700 700) (PySem.call (.builtin "isinstance") [.ref x, .ref q]) (BoolOut h false) h := fun tk => by
  x_run
theorem isi_cl {c : Cx} {h : Heap} {x : Addr} {items : Array Value} {n : Nat} (KX : (Mine.hd.heap_39 c.w.params).In h) (hx : h.get? x = some ⟨.type "list", none, .seq items n, #[]⟩) {q : Addr} {nq : Nat} (hq : h.get? q = some ⟨.type "tuple", none, .seq #[.type "list", .type "tuple"] nq, #[]⟩) : Go c (AA 700 700) (PySem.call (.builtin "isinstance") [.ref x, .ref q]) (BoolOut h true) h := fun tk => by
  x_run
theorem isi_ct {c : Cx} {h : Heap} {x : Addr} {items : Array Value} {n : Nat} (KX : (Mine.hd.heap_39 c.w.params).In h) (hx : h.get? x = some ⟨.type "tuple", none, .seq items n, #[]⟩) {q : Addr} {nq : Nat} (hq : h.get? q = some ⟨.type "tuple", none, .seq #[.type "list", .type "tuple"] nq, #[]⟩) : Go c (AA 700 700) (PySem.call (.builtin "isinstance") [.ref x, .ref q]) (BoolOut h true) h := fun tk => by
  x_run
theorem isi_cq {c : Cx} {h : Heap} {x : Addr} {xd : Addr} {p : Addr} (KX : (Mine.hd.heap_39 c.w.params).In h) (hx : h.get? x = some ⟨.ref 337, some xd, .plain, #[some (.ref p)]⟩) {q : Addr} {nq : Nat} (hq : h.get? q = some ⟨.type "tuple", none, .seq #[.type "list", .type "tuple"] nq, #[]⟩) : Go c (AA 700 700) (PySem.call (.builtin "isinstance") [.ref x, .ref q]) (BoolOut h false) h := fun tk => by
  x_run
theorem isi_cw {c : Cx} {h : Heap} {x : Addr} {od : Option Addr} {dat : Data} {osl : Array (Option Value)} (KX : (Mine.hd.heap_39 c.w.params).In h) (hx : h.get? x = some ⟨.type "list_iterator", od, dat, osl⟩) {q : Addr} {nq : Nat} (hq : h.get? q = some ⟨.type "tuple", none, .seq #[.type "list", .type "tuple"] nq, #[]⟩) : Go c (AA 700 700) (PySem.call (.builtin "isinstance") [.ref x, .ref q]) (BoolOut h false) h := fun tk => by
  x_run
theorem isi_cn {c : Cx} {h : Heap} (KX : (Mine.hd.heap_39 c.w.params).In h) {q : Addr} {nq : Nat} (hq : h.get? q = some ⟨.type "tuple", none, .seq #[.type "list", .type "tuple"] nq, #[]⟩) : Go c (AA 700 700) (PySem.call (.builtin "isinstance") [.none, .ref q]) (BoolOut h false) h := fun tk => by
  x_run
theorem isi_ed {c : Cx} {h : Heap} {x : Addr} {es : Array DictEntry} {ep : Nat} (KX : (Mine.hd.heap_39 c.w.params).In h) (hx : h.get? x = some ⟨.type "dict", none, .dict es ep, #[]⟩) {q : Addr} {nq : Nat} (hq : h.get? q = some ⟨.type "tuple", none, .seq #[.type "dict", .ref 337] nq, #[]⟩) : Go c (AA 700 700) (PySem.call (.builtin "isinstance") [.ref x, .ref q]) (BoolOut h true) h := fun tk => by
  x_run
theorem isi_ei {c : Cx} {h : Heap} {x : Addr} {es : Array DictEntry} {ep : Nat} {dct : Option Addr} (KX : (Mine.hd.heap_39 c.w.params).In h) (hx : h.get? x = some ⟨.ref 194, dct, .dict es ep, #[]⟩) {q : Addr} {nq : Nat} (hq : h.get? q = some ⟨.type "tuple", none, .seq #[.type "dict", .ref 337] nq, #[]⟩) : Go c (AA 700 700) (PySem.call (.builtin "isinstance") [.ref x, .ref q]) (BoolOut h true) h := fun tk => by
  x_run
theorem isi_ep {c : Cx} {h : Heap} {x : Addr} {es : Array DictEntry} {ep : Nat} {dct : Option Addr} (KX : (Mine.hd.heap_39 c.w.params).In h) (hx : h.get? x = some ⟨.ref 378, dct, .dict es ep, #[]⟩) {q : Addr} {nq : Nat} (hq : h.get? q = some ⟨.type "tuple", none, .seq #[.type "dict", .ref 337] nq, #[]⟩) : Go c (AA 700 700) (PySem.call (.builtin "isinstance") [.ref x, .ref q]) (BoolOut h true) h := fun tk => by
  x_run
theorem isi_el {c : Cx} {h : Heap} {x : Addr} {items : Array Value} {n : Nat} (KX : (Mine.hd.heap_39 c.w.params).In h) (hx : h.get? x = some ⟨.type "list", none, .seq items n, #[]⟩) {q : Addr} {nq : Nat} (hq : h.get? q = some ⟨.type "tuple", none, .seq #[.type "dict", .ref 337] nq, #[]⟩) : Go c (AA 700 700) (PySem.call (.builtin "isinstance") [.ref x, .ref q]) (BoolOut h false) h := fun tk => by
  x_run
theorem isi_et {c : Cx} {h : Heap} {x : Addr} {items : Array Value} {n : Nat} (KX : (Mine.hd.heap_39 c.w.params).In h) (hx : h.get? x = some ⟨.type "tuple", none, .seq items n, #[]⟩) {q : Addr} {nq : Nat} (hq : h.get? q = some ⟨.type "tuple", none, .seq #[.type "dict", .ref 337] nq, #[]⟩) : Go c (AA 700 700) (PySem.call (.builtin "isinstance") [.ref x, .ref q]) (BoolOut h false) h := fun tk => by
  x_run
theorem isi_eq {c : Cx} {h : Heap} {x : Addr} {xd : Addr} {p : Addr} (KX : (Mine.hd.heap_39 c.w.params).In h) (hx : h.get? x = some ⟨.ref 337, some xd, .plain, #[some (.ref p)]⟩) {q : Addr} {nq : Nat} (hq : h.get? q = some ⟨.type "tuple", none, .seq #[.type "dict", .ref 337] nq, #[]⟩) : Go c (AA 700 700) (PySem.call (.builtin "isinstance") [.ref x, .ref q]) (BoolOut h true) h := fun tk => by
  x_run
theorem isi_ew {c : Cx} {h : Heap} {x : Addr} {od : Option Addr} {dat : Data} {osl : Array (Option Value)} (KX : (Mine.hd.heap_39 c.w.params).In h) (hx : h.get? x = some ⟨.type "list_iterator", od, dat, osl⟩) {q : Addr} {nq : Nat} (hq : h.get? q = some ⟨.type "tuple", none, .seq #[.type "dict", .ref 337] nq, #[]⟩) : Go c (AA 700 700) (PySem.call (.builtin "isinstance") [.ref x, .ref q]) (BoolOut h false) h := fun tk => by
  x_run
theorem isi_en {c : Cx} {h : Heap} (KX : (Mine.hd.heap_39 c.w.params).In h) {q : Addr} {nq : Nat} (hq : h.get? q = some ⟨.type "tuple", none, .seq #[.type "dict", .ref 337] nq, #[]⟩) : Go c (AA 700 700) (PySem.call (.builtin "isinstance") [.none, .ref q]) (BoolOut h false) h := fun tk => by
  x_run
end Mine
namespace Mine
section
variable {c : Cx} {A : Around} {h g : Heap}
theorem isImm {t : Th} (X : (Mine.hd.heap_39 c.w.params).In h) (G : Ext g h) (T : ThingS g h t) : Go c (AA 700 700) (PySem.call (.builtin "isinstance") [t.v, .ref 194]) (BoolOut h t.shut) h := by
  cases T with
  | none => exact isi_an X
  | dict ho I y hS =>
    cases I with
    | d => simpa using isi_ad X (G _ _ ho)
    | i q => simpa using isi_ai X (G _ _ ho)
    | p q => simpa using isi_ap X (G _ _ ho)
  | list ho hr => exact isi_al X (G _ _ ho)
  | tuple ho hr => exact isi_at X (G _ _ ho)
  | props P => exact isi_aq X (G _ _ P.hx)
  | @iter it o kvs gi hi hc =>
    obtain ⟨oc, od, dat, osl⟩ := o
    cases hc
    exact isi_aw X hi
def dictish {g h : Heap} {t : Th} : ThingS g h t → Bool := fun _ => true
theorem isDict {t : Th} (X : (Mine.hd.heap_39 c.w.params).In h) (G : Ext g h) (T : ThingS g h t) : ∃ b, Go c (AA 700 700) (PySem.call (.builtin "isinstance") [t.v, .type "dict"]) (BoolOut h b) h := by
  cases T with
  | none => exact ⟨_, isi_bn X⟩
  | dict ho I y hS =>
    cases I with
    | d => exact ⟨_, isi_bd X (G _ _ ho)⟩
    | i q => exact ⟨_, isi_bi X (G _ _ ho)⟩
    | p q => exact ⟨_, isi_bp X (G _ _ ho)⟩
  | list ho hr => exact ⟨_, isi_bl X (G _ _ ho)⟩
  | tuple ho hr => exact ⟨_, isi_bt X (G _ _ ho)⟩
  | props P => exact ⟨_, isi_bq X (G _ _ P.hx)⟩
  | @iter it o kvs gi hi hc =>
    obtain ⟨oc, od, dat, osl⟩ := o
    cases hc
    exact ⟨_, isi_bw X hi⟩
end
end Mine
namespace Mine
section
variable {α β : Type} {c : Cx} {A : Around} {h : Heap} {env : Env}
/-- a call for its own sake that gives None back -/
theorem Go.exprNone {value : Expr} {pos : Pos} {Q : Flow → Heap → Prop} (H : Go c A (eval value env) (fun v h' => v = .none ∧ Q .next h') h) (hi : interactive env = false := by rfl) (hs : swapsWith value none pos.line env = Pure.pure false := by rfl) :
    Go c A (exec (.Expr value pos) env) Q h := by
  rw [arm_exec_Expr, hi]
  refine Go.bind (Go.standAt ?_)
  simp only [Bool.false_eq_true, if_false]
  rw [hs]
  refine Go.bind (Go.pure ?_)
  simp only [Bool.false_eq_true, if_false]
  refine Go.bind (H.mono fun v h' ⟨e, q⟩ => ?_)
  subst e
  unfold dropValue
  split <;> first | exact Go.pure q | contradiction
theorem gm_dictUpdate {h0 : Heap} {m : VMap} {pl : Sem Bool} {Q : Value × List Value → Heap → Prop} (X : (Mine.hd.heap_39 c.w.params).In h0) (E : Ext h0 h) {L : Addr} (N : h.Ns L m) (hL : h0.objs.size ≤ L) (H : Q (.builtin "dict.update", []) h) : Go c A (getMethod (.type "dict") (Str.ofString "update") pl) Q h := fun tk => by
  have e : findCls (Mine.hd.heap_39 c.w.params) (.type "dict") (.type "type") (Str.ofString "update") = some (.val (.builtin "dict.update")) := by k_is
  have ht : typeOf (.type "dict") = Pure.pure (.type "type") := by kernel_rfl
  have hs : Manifest.isStub "dict" = false := by decide +kernel
  have hh : handedIn (.builtin "dict.update") = true := rfl
  have F : Fr h0 L (⟨h, c.g, c.d, tk, c.os⟩ : Shared).heap m := ⟨N, E, hL⟩
  have q : (fun (v : Value × List Value) (s' : Shared) => ∃ h' tk', s' = ⟨h', c.g, c.d, tk', c.os⟩ ∧ Q v h') (.builtin "dict.update", []) ⟨h, c.g, c.d, tk + 1, c.os⟩ := ⟨_, _, rfl, H⟩
  exact @method_type PR c.w A (fun _ _ => False) ⟨h, c.g, c.d, tk, c.os⟩ _ L h0 m (Str.ofString "update") (.builtin "dict.update") "dict" pl (fun v s' => ∃ h' tk', s' = ⟨h', c.g, c.d, tk', c.os⟩ ∧ Q v h') F X ht hs e hh q
end
end Mine
namespace Mine
section
variable {α β : Type} {c : Cx} {A : Around} {h : Heap} {env : Env}
/-- one that was made immutable -/
def ImmAt (h : Heap) (a : Addr) (kvs : Rw) : Prop := ∃ xd es ep, h.get? a = some ⟨.ref 194, some xd, .dict es ep, #[]⟩ ∧ h.get? xd = some ⟨.type "dict", none, .dict #[] 0, #[]⟩ ∧ Ents es.toList kvs
theorem ImmAt.thing {g h : Heap} {a : Addr} {kvs : Rw} (x : ImmAt g a kvs) (hs : (a == sysModules) = false) : Thing g h ⟨.ref a, kvs, !kvs.isEmpty, true⟩ := by
  obtain ⟨xd, es, ep, e, q, y⟩ := x
  have := Thing.dict (h := h) e (.i q) y hs
  simpa using this
def OthersAt (g : Heap) (o : Addr) (vs : List Value) : Prop := ∃ T n sl, g.get? o = some ⟨.type T, none, .seq vs.toArray n, sl⟩ ∧ ((T = "tuple" ∧ sl = #[]) ∨ T = "list")

theorem Go.iterRange {r : Addr} {n : Nat} {t u v : Tok} {Q : Value → Heap → Prop} (hr : IsRange h r 0 n 1 t u v) (hsz : n ≤ 1000) (H : ∀ h' it, h.get? it = none → IsRangeIter h' it ((0 : Nat) : Int) ((n : Int) - ((0 : Nat) : Int)) 1 → Ext h h' → Q (.ref it) h') : Go c A (pyIter (.ref r)) Q h := fun tk => by
  have hsm : Builtin.Range.small 0 n 1 = true := small_one (by decide) (by decide) (by omega) (by omega)
  have hrs : Builtin.Range.rangeSize 0 n 1 = (n : Int) := by rw [rangeSize_one]; split <;> omega
  refine wpAny_pyIter_range hr hsm ⟨_, tk, rfl, H _ _ (fresh_at h) ?_ fun b o e => Heap.get?_push_of_some _ e⟩
  have e0 : ((n : Int) - ((0 : Nat) : Int)) = (n : Int) := by simp
  rw [hrs, e0]
  exact Heap.get?_push_size _ rfl
theorem lenSeq {o : Addr} {vs : List Value} (O : OthersAt h o vs) (hl : vs.length < 1000) (hA : A.handled = none) (hd : A.depth ≤ 700) (hu : A.units ≤ 700) : Go c A (PySem.call (.builtin "len") [.ref o]) (IntOut h vs.length) h := by
  obtain ⟨T, n, sl, ho, hT⟩ := O
  have hz : vs.toArray.size = vs.length := by simp
  rcases hT with ⟨rfl, rfl⟩ | rfl
  · exact hz ▸ Go.up (clen_t ho (by rw [hz]; exact hl)) hA hd hu
  · intro tk
    refine Calls.call_len_list (items := vs.toArray) ⟨_, ho, rfl, _, rfl⟩ (by rw [hz]; omega) ⟨_, _, rfl, tk + 1, by rw [hz], Ext.refl _⟩
theorem OthersAt.keeps {h' : Heap} {o : Addr} {vs : List Value} (O : OthersAt h o vs) (E : Ext h h') : OthersAt h' o vs := let ⟨T, n, sl, a, b⟩ := O; ⟨T, n, sl, E _ _ a, b⟩
theorem OthersAt.item {o : Addr} {vs : List Value} (O : OthersAt h o vs) : h.IsTuple o vs.toArray ∨ h.IsList o vs.toArray := by
  obtain ⟨T, n, sl, ho, hT⟩ := O
  rcases hT with ⟨rfl, rfl⟩ | rfl
  · exact .inl ⟨_, ho, rfl, _, rfl⟩
  · exact .inr ⟨_, ho, rfl, _, rfl⟩

theorem rIter_keeps {hh h' : Heap} {it : Addr} {x l s : Int} (R : IsRangeIter hh it x l s) (E : Ext hh h') : IsRangeIter h' it x l s := E _ _ R
theorem rIter_but {hh h' : Heap} {it b : Addr} {x l s : Int} (R : IsRangeIter hh it x l s) (E : But b hh h') (n : it ≠ b) : IsRangeIter h' it x l s := E _ _ n R
theorem filter_take {ts : List Th} {i : Nat} {t : Th} (e : ts[i]? = some t) : (ts.take (i + 1)).filter (·.full) = (ts.take i).filter (·.full) ++ (if t.full then [t] else []) := by
  rw [List.take_add_one, e, List.filter_append]
  cases hf : t.full <;> simp [hf]
/-- the names of the union's frame -/
structure UN (h : Heap) (L a o : Addr) (n : Nat) (w : Value) (b : Bool) : Prop where
  m : ∃ m : VMap, h.Ns L m ∧ m (Str.ofString "self") = some (.ref a) ∧ m (Str.ofString "others") = some (.ref o) ∧ (∃ t, m (Str.ofString "size") = some (.int n t)) ∧ m (Str.ofString "only_one") = some w ∧ m (Str.ofString "self_is_empty") = some (.bool b)
/-- the first walk's word: no thing yet (False), the one (a value), more than one (None) -/
def word (self : Value) (mine : Bool) (l : List Th) : Value := match mine, l.filter (·.full) with
  | true, [] => self
  | true, _ :: _ => .none
  | false, [] => .bool false
  | false, [t] => if t.shut then t.v else .none
  | false, _ :: _ :: _ => .none

theorem UN.keeps {hh h' : Heap} {L a o n w b} (U : UN hh L a o n w b) (E : Ext hh h') : UN h' L a o n w b := let ⟨m, N, r⟩ := U.m; ⟨m, ns_keeps N E, r⟩
theorem UN.but {hh h' : Heap} {L a o n w b x} (U : UN hh L a o n w b) (E : But x hh h') (ne : L ≠ x) : UN h' L a o n w b := let ⟨m, N, r⟩ := U.m; ⟨m, ns_but N E ne, r⟩
def joined (kvs : Rw) (ts : List Th) : Rw := ts.foldl (fun acc t => putAll acc t.kvs) kvs
theorem joined_take {kvs : Rw} {ts : List Th} {i : Nat} {t : Th} (e : ts[i]? = some t) : joined kvs (ts.take (i + 1)) = putAll (joined kvs (ts.take i)) t.kvs := by
  simp [joined, List.take_add_one, e, List.foldl_append]
theorem joined_length {kvs : Rw} {ts : List Th} (hl : ∀ t ∈ ts, t.kvs.length ≤ 2) : (joined kvs ts).length ≤ kvs.length + 2 * ts.length := by
  induction ts generalizing kvs with
  | nil => simp [joined]
  | cons t r ih =>
    have e1 := ih (kvs := putAll kvs t.kvs) fun x hx => hl x (List.mem_cons_of_mem _ hx)
    have e2 := putAll_length kvs t.kvs
    have e3 := hl t List.mem_cons_self
    simp only [joined, List.foldl_cons, List.length_cons] at e1 ⊢
    omega
theorem notFull {g h : Heap} {t : Th} (T : Thing g h t) (hf : t.full = false) : t.kvs = [] := by
  cases T with
  | none => rfl
  | dict => simpa using hf
  | list => simpa using hf
  | tuple => simpa using hf
  | props => simpa using hf
  | iter => cases hf
theorem put_new : ∀ {a : Rw} {k : Str} {v : Int}, k ∉ a.map (·.1) → put a k v = a ++ [(k, v)]
  | [], k, v, _ => rfl
  | (x, y) :: r, k, v, hn => by
    simp only [List.map_cons, List.mem_cons, not_or] at hn
    simp only [put, if_neg (Ne.symm hn.1), put_new hn.2, List.cons_append]
theorem putAll_new {a b : Rw} (hn : ((a ++ b).map (·.1)).Nodup) : putAll a b = a ++ b := by
  induction b generalizing a with
  | nil => simp [putAll]
  | cons p r ih =>
    have e : p.1 ∉ a.map (·.1) := by
      rw [List.map_append, List.map_cons, List.nodup_append] at hn
      intro q
      exact hn.2.2 _ q _ List.mem_cons_self rfl
    show putAll (put a p.1 p.2) r = _
    rw [put_new e, ih (by simpa using hn)]
    simp
theorem putAll_nil {b : Rw} (hn : (b.map (·.1)).Nodup) : putAll [] b = b := by simpa using putAll_new (a := []) (by simpa using hn)
/-- the names of the second walk -/
structure UN2 (h : Heap) (L o r : Addr) (n : Nat) : Prop where
  m : ∃ m : VMap, h.Ns L m ∧ m (Str.ofString "others") = some (.ref o) ∧ (∃ t, m (Str.ofString "size") = some (.int n t)) ∧ m (Str.ofString "result") = some (.ref r)
theorem UN2.keeps {hh h' : Heap} {L o r n} (U : UN2 hh L o r n) (E : Ext hh h') : UN2 h' L o r n := let ⟨m, N, q⟩ := U.m; ⟨m, ns_keeps N E, q⟩
theorem UN2.but {hh h' : Heap} {L o r n x} (U : UN2 hh L o r n) (E : But x hh h') (ne : L ≠ x) : UN2 h' L o r n := let ⟨m, N, q⟩ := U.m; ⟨m, ns_but N E ne, q⟩
theorem word_cases {a : Addr} {mine : Bool} {ts : List Th} {i : Nat} {t : Th} (e : ts[i]? = some t) (hf : t.full = true) (hr : ∀ s ∈ ts, s.full = true → ∃ x, s.v = .ref x) (wn : word (.ref a) mine (ts.take i) ≠ .none) :
    (word (.ref a) mine (ts.take i) = .bool false ∧ (t.shut = true → word (.ref a) mine (ts.take (i + 1)) = t.v ∧ t.v ≠ .none) ∧ (t.shut = false → word (.ref a) mine ts = .none)) ∨
    (∃ x, word (.ref a) mine (ts.take i) = .ref x ∧ word (.ref a) mine ts = .none) := by
  have f1 := filter_take e
  rw [hf, if_pos rfl] at f1
  have f2 : ts.filter (·.full) = (ts.take i).filter (·.full) ++ [t] ++ (ts.drop (i + 1)).filter (·.full) := by
    rw [← f1, ← List.filter_append, List.take_append_drop]
  have tr := hr t (List.mem_of_getElem? e) hf
  cases q : (ts.take i).filter (·.full) with
  | nil =>
    rw [q] at f1 f2
    cases mine with
    | true => exact .inr ⟨a, by unfold word; rw [q], by unfold word; rw [f2]; rfl⟩
    | false =>
      refine .inl ⟨by unfold word; rw [q], fun sh => ⟨by unfold word; rw [f1]; simp [sh], ?_⟩, fun sh => ?_⟩
      · obtain ⟨x, hx⟩ := tr; rw [hx]; simp
      · unfold word; rw [f2]
        cases (ts.drop (i + 1)).filter (·.full) <;> simp [sh]
  | cons s r =>
    rw [q] at f1 f2
    have hs : s ∈ ts ∧ s.full = true := by
      have : s ∈ (ts.take i).filter (·.full) := by rw [q]; exact List.mem_cons_self
      have := List.mem_filter.mp this
      exact ⟨List.mem_of_mem_take this.1, this.2⟩
    obtain ⟨x, hx⟩ := hr s hs.1 hs.2
    cases mine with
    | true => exact absurd (by unfold word; rw [q]) wn
    | false =>
      cases r with
      | nil =>
        cases sh : s.shut with
        | false => exact absurd (by unfold word; rw [q]; simp [sh]) wn
        | true => exact .inr ⟨x, by unfold word; rw [q]; simp [sh, hx], by unfold word; rw [f2]; simp⟩
      | cons s2 r2 => exact absurd (by unfold word; rw [q]) wn
theorem full_ref {g h : Heap} {t : Th} (T : Thing g h t) (hf : t.full = true) : ∃ x, t.v = .ref x := by
  cases T with
  | none => cases hf
  | dict => exact ⟨_, rfl⟩
  | list => exact ⟨_, rfl⟩
  | tuple => exact ⟨_, rfl⟩
  | props => exact ⟨_, rfl⟩
  | iter => exact ⟨_, rfl⟩

theorem thing_old {g h : Heap} {t : Th} {b : Addr} (G : Ext g h) (T : Thing g h t) (e : .ref b = t.v) : ∃ o, h.get? b = some o := by
  cases T with
  | none => cases e
  | dict a => cases e; exact ⟨_, G _ _ a⟩
  | list a => cases e; exact ⟨_, G _ _ a⟩
  | tuple a => cases e; exact ⟨_, G _ _ a⟩
  | props a => cases e; exact ⟨_, G _ _ a.hx⟩
  | iter _ _ _ a => cases e; exact ⟨_, a⟩

theorem union_spec {g : Heap} {a o : Addr} {kvs : Rw} {ts : List Th} {Q : Value → Heap → Prop} (X : (Mine.hd.heap_39 c.w.params).In g) (G : Ext g h) (I : ImmAt g a kvs) (haS : (a == sysModules) = false) (O : OthersAt g o (ts.map (·.v))) (hts : ∀ t ∈ ts, Thing g h t)
    (hkl : kvs.length ≤ 8) (htl : ∀ t ∈ ts, t.kvs.length ≤ 2) (hn : ts.length ≤ 100) (hkn : (kvs.map (·.1)).Nodup) (htn : ∀ t ∈ ts, (t.kvs.map (·.1)).Nodup)
    (hdist : ∀ (i j : Nat) (s t : Th), ts[i]? = some s → ts[j]? = some t → i ≠ j → s.v = t.v → s.v = .none)
    (Hself : (ts.filter (·.full)) = [] → ∀ h', Ext h h' → Q (.ref a) h')
    (Hone : ∀ t, kvs = [] → ts.filter (·.full) = [t] → t.shut = true → ∀ h', Ext h h' → Q t.v h')
    (Hnew : word (.ref a) (!kvs.isEmpty) ts = .none → ∀ r h', h.get? r = none → Ext g h' → (∀ b o, (∀ t ∈ ts, .ref b ≠ t.v) → h.get? b = some o → h'.get? b = some o) → (∀ g', Ext g g' → New h h' g' → ImmAt g' r (joined kvs ts)) → (∀ t ∈ ts, ThingS g h' t) → Q (.ref r) h')
    (hA : A.handled = none) (hd : A.depth ≤ 400) (hu : A.units ≤ 400) : Go c A (PySem.call (.ref 163) [.ref a, .ref o]) Q h := by
  have X0 := X.keeps G
  walk_at "e_def"
  intro h₁ N E F
  replace N := ns_2 N
  have X1 := X0.keeps E
  have G1 := G.trans E
  have dA : A.depth + 1 ≤ 500 := by omega
  have uA : A.units + 3 ≤ 500 := by omega
  refine Go.cons (Go.asg ?_)
  refine Go.callE rfl rfl ?_
  walk_at "e_name"
  refine Go.spc ?_
  walk_at "e_name"
  refine Go.spn ⟨keep_plain (fun a e => by cases e), ?_⟩
  refine Go.mono (lenSeq (O.keeps G1) (by simp; omega) hA (by show A.depth + 1 ≤ 700; omega) (by show A.units + 3 ≤ 700; omega)) ?_
  rintro v h₂ ⟨t, rfl, E2⟩
  have N2 := ns_keeps N E2
  refine Go.stl rfl (by kernel_rfl) N2 fun h₃ N3 s3 => ?_
  dsimp only
  have E3 : Ext h h₃ := (E.trans E2).thru (but_of_same s3) F
  have X3 := X0.keeps E3
  refine Go.cons (Go.iff (Go.tcmp ?_))
  walk_at "e_name"
  refine Go.constInt fun t1 => Go.eqInt (Go.truthyBool ?_)
  have hlen : (ts.map (·.v)).length = ts.length := by simp
  rw [hlen] at N3 ⊢
  by_cases hz : ts.length = 0
  · have e : (((ts.length : Nat) : Int) == 0) = true := by rw [hz]; rfl
    rw [if_pos e]
    refine Go.cons (Go.ret ?_)
    walk_at "e_name"
    exact Hself (by rw [List.length_eq_zero_iff.mp hz]; rfl) h₃ E3
  · have e : ¬ (((ts.length : Nat) : Int) == 0) = true := by
      intro q
      have := beq_iff_eq.mp q
      omega
    rw [if_neg e]
    refine Go.nil ?_
    dsimp only
    have TI := I.thing (h := h) haS
    -- if self: ...
    refine Go.cons (Go.mono (Q := fun f h' => f = .next ∧ Ext h h' ∧ UN h' h.objs.size a o ts.length (if kvs.isEmpty then .bool false else .ref a) kvs.isEmpty) ?first ?cont)
    case first =>
      refine Go.iff (Go.tval ?_)
      walk_at "e_name"
      refine Go.truthyThing X3 (G.trans E3) (TI.after fun b o e n hc q => E3 _ _ q) (by show kvs.length < 900; omega) hA (by show A.depth + 1 ≤ 590; omega) (by show A.units + 3 ≤ 590; omega) fun h₄ E4 => ?_
      have E4' := E3.trans E4
      have N4 := ns_keeps N3 E4
      cases hk : kvs.isEmpty with
      | true =>
        rw [if_neg (by simp [hk])]
        refine Go.cons (Go.asg (Go.constBool (Go.stl rfl (by kernel_rfl) N4 fun h₅ N5 s5 => ?_)))
        refine Go.cons (Go.asg (Go.constBool (Go.stl rfl (by kernel_rfl) N5 fun h₆ N6 s6 => ?_)))
        refine Go.nil ⟨rfl, (E4'.thru (but_of_same s5) F).thru (but_of_same s6) F, ⟨_, N6, ?_, ?_, ⟨t, ?_⟩, ?_, ?_⟩⟩
        all_goals walk_at "e_mv"
      | false =>
        rw [if_pos (by simp [hk])]
        refine Go.cons (Go.asg (Go.constBool (Go.stl rfl (by kernel_rfl) N4 fun h₅ N5 s5 => ?_)))
        refine Go.cons (Go.asg ?_)
        walk_at "e_name"
        refine Go.stl rfl (by kernel_rfl) N5 fun h₆ N6 s6 => ?_
        refine Go.nil ⟨rfl, (E4'.thru (but_of_same s5) F).thru (but_of_same s6) F, ⟨_, N6, ?_, ?_, ⟨t, ?_⟩, ?_, ?_⟩⟩
        all_goals walk_at "e_mv"
    case cont =>
      rintro f h₄ ⟨rfl, E4, U4⟩
      dsimp only
      -- the first walk
      refine Go.cons (Go.mono (Q := fun f h' => f = .next ∧ Ext h h' ∧ UN h' h.objs.size a o ts.length (word (.ref a) (!kvs.isEmpty) ts) kvs.isEmpty) ?loop ?cont2)
      case loop =>
        refine Go.forS ?_ (hA := hA)
        refine Go.callE rfl rfl ?_
        have X4 := X0.keeps E4
        walk_at "e_name"
        obtain ⟨m4, N4, v1, v2, ⟨tz, v3⟩, v4, v5⟩ := U4
        refine Go.spc ?_
        walk_at "e_name"
        refine Go.spn ⟨keep_plain (fun a e => by cases e), ?_⟩
        refine Go.callRange fun r h₅ tu tv tw R5 E5 fr5 => ?_
        refine Go.iterRange R5 (by omega) fun h₆ it f6 R6 E6 => ?_
        have E46 := E5.trans E6
        have itL : it ≠ h.objs.size := by
          intro q; subst q
          obtain ⟨_, _, _, z, _⟩ := ns_keeps N4 E5
          rw [z] at f6; cases f6
        refine GoC.forLoop (fun i hh => Ext h hh ∧ IsRangeIter hh it ((i : Nat) : Int) ((ts.length : Int) - ((i : Nat) : Int)) 1 ∧ UN hh h.objs.size a o ts.length (word (.ref a) (!kvs.isEmpty) (ts.take i)) kvs.isEmpty ∧ word (.ref a) (!kvs.isEmpty) (ts.take i) ≠ .none) ts.length ?j0 ?jstep ?jend
        case j0 =>
          refine ⟨E4.trans E46, R6, ?_, ?_⟩
          · refine ⟨m4, ns_keeps N4 E46, v1, v2, ⟨tz, v3⟩, ?_, v5⟩
            cases hk : kvs.isEmpty <;> simpa [word, hk] using v4
          · cases hk : kvs.isEmpty <;> simp [word]
        case jend =>
          rintro hh ⟨Eh, Rh, Uh, wn⟩
          rw [List.take_length] at Uh
          refine Go.endRange Rh (by omega) (fun h' b => ⟨rfl, rfl, ?_, Uh.but b (Ne.symm itL)⟩) hA
          exact Eh.thru b (E4.trans E5 |>.fresh f6)
        case jstep =>
          rintro i hh hi ⟨Eh, Rh, Uh, wn⟩
          refine Go.nextRange Rh (by omega) fun ti h' R' s' => ⟨_, rfl, Go.letGoName ?_⟩
          have fit : h.get? it = none := (E4.trans E5).fresh f6
          have Eh' : Ext h h' := Eh.thru (but_of_same s') fit
          have Uh' := Uh.but (but_of_same s') (Ne.symm itL)
          obtain ⟨m5, N5, w1, w2, ⟨tz', w3⟩, w4, w5⟩ := Uh'.m
          refine Go.asgName (Go.stl rfl (by kernel_rfl) N5 fun h₆ N6 s6 => ?_)
          have E6' : Ext h h₆ := Eh'.thru (but_of_same s6) F
          have ti? : ts[i]? = some ts[i] := by simp [hi]
          have tv? : (ts.map (·.v)).toArray[i]? = some ts[i].v := by simp [hi]
          have T := (hts ts[i] (List.getElem_mem hi)).after (h' := h₆) fun b o e n hc q => E6' _ _ q
          refine Go.cons (Go.asg (Go.subS ?_))
          walk_at "e_name"
          walk_at "e_name"
          refine ⟨o, _, _, _, _, rfl, rfl, (O.keeps (G.trans E6')).item, by omega, by omega, by simpa using tv?, ?_⟩
          refine Go.stl rfl (by kernel_rfl) N6 fun h₇ N7 s7 => ?_
          have E7 : Ext h h₇ := E6'.thru (but_of_same s7) F
          have T7 := (hts ts[i] (List.getElem_mem hi)).after (h' := h₇) fun b o e n hc q => E7 _ _ q
          dsimp only
          refine Go.cons (Go.iff (Go.tnot (Go.tval ?_)))
          walk_at "e_name"
          refine Go.truthyThing (X0.keeps E7) (G.trans E7) T7 (Nat.lt_of_le_of_lt (htl _ (List.getElem_mem hi)) (by decide)) hA (by show A.depth + 1 ≤ 590; omega) (by show A.units + 3 ≤ 590; omega) fun h₈ E8 => ?_
          have R8 : IsRangeIter h₈ it (((i : Nat) : Int) + 1) ((ts.length : Int) - ((i : Nat) : Int) - 1) 1 := rIter_keeps (rIter_but (rIter_but R' (but_of_same s6) itL) (but_of_same s7) itL) E8
          have e1 : ((i : Nat) : Int) + 1 = ((i + 1 : Nat) : Int) := by push_cast; rfl
          have e2 : (ts.length : Int) - ((i : Nat) : Int) - 1 = (ts.length : Int) - ((i + 1 : Nat) : Int) := by push_cast; omega
          rw [e1, e2] at R8
          have N8 := ns_keeps N7 E8
          have wt : (ts.take (i + 1)).filter (·.full) = (ts.take i).filter (·.full) ++ (if ts[i].full then [ts[i]] else []) := filter_take ti?
          cases hf : ts[i].full with
          | false =>
            rw [if_pos (by simp [hf])]
            refine Go.cons (Go.cont ?_)
            rw [hf] at wt
            have wq : word (.ref a) (!kvs.isEmpty) (ts.take (i + 1)) = word (.ref a) (!kvs.isEmpty) (ts.take i) := by
              unfold word; rw [wt]; simp
            refine ⟨E7.trans E8, R8, ⟨_, N8, ?_, ?_, ⟨tz', ?_⟩, ?_, ?_⟩, by rw [wq]; exact wn⟩
            · walk_at "e_mv"
            · walk_at "e_mv"
            · walk_at "e_mv"
            · rw [wq]; walk_at "e_mv"
            · walk_at "e_mv"
          | true =>
            rw [if_neg (by simp [hf])]
            refine Go.nil ?_
            dsimp only
            refine Go.cons (Go.iff (Go.tand (Go.andcons (Go.tcmp ?_))))
            walk_at "e_name"
            refine Go.constBool ?_
            have X8 := X0.keeps (E7.trans E8)
            have T8 := (hts ts[i] (List.getElem_mem hi)).after (h' := h₈) fun b o e n hc q => E8 _ _ (E7 _ _ q)
            have stop : word (.ref a) (!kvs.isEmpty) ts = .none → ∀ hh m', Ext h₈ hh → hh.Ns h.objs.size m' → m' (Str.ofString "self") = some (.ref a) → m' (Str.ofString "others") = some (.ref o) → m' (Str.ofString "size") = some (.int ts.length tz') → m' (Str.ofString "self_is_empty") = some (.bool kvs.isEmpty) →
                ∀ h9, h9.Ns h.objs.size (upd m' (Str.ofString "only_one") .none) → Heap.SameBut h.objs.size hh h9 → Ext h h9 ∧ UN h9 h.objs.size a o ts.length (word (.ref a) (!kvs.isEmpty) ts) kvs.isEmpty := by
              intro wz hh m' Eh Nh a1 a2 a3 a4 h9 N9 s9
              refine ⟨((E7.trans E8).trans Eh).thru (but_of_same s9) F, ⟨_, N9, ?_, ?_, ⟨tz', ?_⟩, by rw [wz]; exact upd_same, ?_⟩⟩
              all_goals walk_at "e_mv"
            rcases word_cases ti? hf (fun s hs hfs => full_ref (hts s hs) hfs) wn with ⟨wf, wsh, wns⟩ | ⟨x, wx, wz⟩
            · rw [wf]
              refine Go.isPlain rfl (Go.truthyBool ?_)
              rw [if_pos (by simp)]
              refine Go.andcons (Go.tval (Go.callE rfl rfl ?_))
              walk_at "e_name"
              refine Go.spc ?_
              walk_at "e_name"
              refine Go.spc ?_
              walk_at "e_name"
              refine Go.spn ⟨keep_plain (fun a e => by cases e), ?_⟩
              refine Go.mono (Go.up (isImm X8 (G.trans (E7.trans E8)) T8.spent) hA (by show A.depth + 1 ≤ 700; omega) (by show A.units + 3 ≤ 700; omega)) ?_
              rintro v h₉ ⟨rfl, E9⟩
              have N9 := ns_keeps N8 E9
              refine Go.truthyBool ?_
              cases sh : ts[i].shut with
              | true =>
                rw [if_pos rfl]
                refine Go.andnil ?_
                rw [if_pos rfl]
                obtain ⟨wv, wvn⟩ := wsh sh
                refine Go.cons (Go.asg ?_)
                walk_at "e_name"
                refine Go.stl rfl (by kernel_rfl) N9 fun h10 N10 s10 => ?_
                refine Go.nil ?_
                refine Go.nil ⟨((E7.trans E8).trans E9).thru (but_of_same s10) F, rIter_but (rIter_keeps R8 E9) (but_of_same s10) itL, ⟨_, N10, ?_, ?_, ⟨tz', ?_⟩, ?_, ?_⟩, by rw [wv]; exact wvn⟩
                · walk_at "e_mv"
                · walk_at "e_mv"
                · walk_at "e_mv"
                · rw [wv]; walk_at "e_mv"
                · walk_at "e_mv"
              | false =>
                rw [if_neg (by simp)]
                rw [if_neg (by simp)]
                refine Go.cons (Go.asg (Go.constNone ?_))
                refine Go.stl rfl (by kernel_rfl) N9 fun h10 N10 s10 => ?_
                obtain ⟨q1, q2⟩ := stop (wns sh) h₉ _ E9 N9 (by walk_at "e_mv") (by walk_at "e_mv") (by walk_at "e_mv") (by walk_at "e_mv") h10 N10 s10
                exact Go.cons (Go.brk ⟨rfl, q1, q2⟩)
            · rw [wx]
              refine Go.isPlain rfl (Go.truthyBool ?_)
              rw [if_neg (by simp)]
              rw [if_neg (by simp)]
              refine Go.cons (Go.asg (Go.constNone ?_))
              refine Go.stl rfl (by kernel_rfl) N8 fun h10 N10 s10 => ?_
              obtain ⟨q1, q2⟩ := stop wz h₈ _ (Ext.refl _) N8 (by walk_at "e_mv") (by walk_at "e_mv") (by walk_at "e_mv") (by walk_at "e_mv") h10 N10 s10
              exact Go.cons (Go.brk ⟨rfl, q1, q2⟩)
      case cont2 =>
        rintro f h₅ ⟨rfl, E5, U5⟩
        dsimp only
        obtain ⟨m5, N5, v1, v2, ⟨tz, v3⟩, v4, v5⟩ := U5.m
        have X5 := X0.keeps E5
        have wc : (word (.ref a) (!kvs.isEmpty) ts = .bool false ∧ ts.filter (·.full) = []) ∨ (∃ x, word (.ref a) (!kvs.isEmpty) ts = .ref x ∧ ∀ h', Ext h h' → Q (.ref x) h') ∨ word (.ref a) (!kvs.isEmpty) ts = .none := by
          unfold word
          cases hk : kvs.isEmpty with
          | false =>
            cases q : ts.filter (·.full) with
            | nil => exact .inr (.inl ⟨a, rfl, Hself q⟩)
            | cons => exact .inr (.inr rfl)
          | true =>
            cases q : ts.filter (·.full) with
            | nil => exact .inl ⟨rfl, rfl⟩
            | cons s r =>
              cases r with
              | cons => exact .inr (.inr rfl)
              | nil =>
                cases sh : s.shut with
                | false => exact .inr (.inr (by simp [sh]))
                | true =>
                  have hs : s ∈ ts ∧ s.full = true := by
                    have : s ∈ ts.filter (·.full) := by rw [q]; exact List.mem_cons_self
                    exact List.mem_filter.mp this
                  obtain ⟨x, hx⟩ := full_ref (hts s hs.1) hs.2
                  exact .inr (.inl ⟨x, by simp [sh, hx], by rw [← hx]; exact Hone s (List.isEmpty_iff.mp hk) q sh⟩)
        refine Go.cons (Go.mono (Q := fun f h' => (∃ v, f = .ret v ∧ Q v h') ∨ (f = .next ∧ h' = h₅ ∧ word (.ref a) (!kvs.isEmpty) ts = .none)) ?ifs ?cont3)
        case ifs =>
          refine Go.iff (Go.tcmp ?_)
          walk_at "e_name"
          refine Go.constBool ?_
          rcases wc with ⟨w, q⟩ | ⟨x, w, q⟩ | w
          · rw [w]
            refine Go.isPlain rfl (Go.truthyBool ?_)
            rw [if_pos (by simp)]
            refine Go.cons (Go.ret ?_)
            walk_at "e_name"
            exact .inl ⟨_, rfl, Hself q h₅ E5⟩
          · rw [w]
            refine Go.isPlain rfl (Go.truthyBool ?_)
            rw [if_neg (by simp)]
            rw [w] at v4
            refine Go.cons (Go.iff (Go.tcmp ?_))
            walk_at "e_name"
            refine Go.constNone (Go.isNotPlain rfl (Go.truthyBool ?_))
            rw [if_pos (by simp)]
            refine Go.cons (Go.ret ?_)
            walk_at "e_name"
            exact .inl ⟨_, rfl, q h₅ E5⟩
          · rw [w]
            refine Go.isPlain rfl (Go.truthyBool ?_)
            rw [if_neg (by simp)]
            rw [w] at v4
            refine Go.cons (Go.iff (Go.tcmp ?_))
            walk_at "e_name"
            refine Go.constNone (Go.isNotPlain rfl (Go.truthyBool ?_))
            rw [if_neg (by simp)]
            refine Go.nil ?_
            exact Go.nil (.inr ⟨rfl, rfl, rfl⟩)
        case cont3 =>
          rintro f h6 (⟨v, rfl, q⟩ | ⟨rfl, rfl, wz⟩)
          · exact q
          dsimp only
          refine Go.cons (Go.asg ?_)
          refine Go.callE rfl rfl ?_
          walk_at "e_name"
          refine Go.spn ⟨keep_K X5 (by k_is), ?_⟩
          refine Go.mono (Go.up (imm_nil X5) hA (by show A.depth + 1 ≤ 600; omega) (by show A.units + 3 ≤ 600; omega)) ?_
          rintro v h₇ ⟨r, xd, ep, rfl, E7, fr, fxd, hr, hxd⟩
          refine Go.stl rfl (by kernel_rfl) (ns_keeps N5 E7) fun h₈ N8 s8 => ?_
          dsimp only
          have frh : h.get? r = none := by
            cases q : h.get? r with
            | none => rfl
            | some o' => rw [E5 _ _ q] at fr; cases fr
          have frxd : h.get? xd = none := by
            cases q : h.get? xd with
            | none => rfl
            | some o' => rw [E5 _ _ q] at fxd; cases fxd
          have gr : g.get? r = none := G.fresh frh
          have hrL : r ≠ h.objs.size := by
            intro q; subst q
            obtain ⟨_, _, _, z, _⟩ := N5
            rw [z] at fr; cases fr
          have hxL : xd ≠ h.objs.size := by
            intro q; subst q
            obtain ⟨_, _, _, z, _⟩ := N5
            rw [z] at fxd; cases fxd
          have hxr : r ≠ xd := by intro q; subst q; rw [hr] at hxd; cases hxd
          have E8 : Ext h h₈ := (E5.trans E7).thru (but_of_same s8) F
          have hr8 := (but_of_same s8) _ _ hrL hr
          have hxd8 := (but_of_same s8) _ _ hxL hxd
          refine Go.cons (Go.mono (Q := fun f h' => f = .next ∧ Ext h h' ∧ (∃ es ep, h'.get? r = some ⟨.ref 194, some xd, .dict es ep, #[]⟩ ∧ Ents es.toList kvs) ∧ h'.get? xd = some ⟨.type "dict", none, .dict #[] 0, #[]⟩ ∧ UN2 h' h.objs.size o r ts.length) ?upd0 ?cont4)
          case upd0 =>
            refine Go.iff (Go.tnot (Go.tval ?_))
            walk_at "e_name"
            refine Go.truthyBool ?_
            have un8 : UN2 h₈ h.objs.size o r ts.length := ⟨_, N8, by walk_at "e_mv", ⟨tz, by walk_at "e_mv"⟩, by walk_at "e_mv"⟩
            cases hk : kvs.isEmpty with
            | true =>
              rw [if_neg (by simp)]
              have e0 : kvs = [] := List.isEmpty_iff.mp hk
              exact Go.nil ⟨rfl, E8, ⟨_, _, hr8, by rw [e0]; exact .nil⟩, hxd8, un8⟩
            | false =>
              rw [if_pos (by simp)]
              refine Go.cons (Go.exprNone (Go.method rfl rfl (by decide) rfl ?_))
              have X8 := X0.keeps E8
              walk_at "e_name"
              refine gm_dictUpdate X0 E8 N8 (Nat.le_refl _) ?_
              refine Go.spc ?_
              walk_at "e_name"
              refine Go.spc ?_
              walk_at "e_name"
              refine Go.spn ⟨keep_plain (fun a e => by cases e), ?_⟩
              obtain ⟨xda, esa, epa, ha, hxa, ya⟩ := I
              refine Go.updD X8 hr8 .nil ((G.trans E8) _ _ ha) ya (fun q => by subst q; rw [ha] at gr; cases gr) haS (by simp) hkl .i (.i ((G.trans E8) _ _ hxa)) hA (by show A.depth + 1 ≤ 700; omega) (by show A.units + 3 ≤ 699; omega) fun h9 es9 ep9 a1 a2 b9 => ⟨rfl, Go.nil ⟨rfl, E8.thru b9 frh, ⟨_, _, a1, ?_⟩, b9 _ _ (Ne.symm hxr) hxd8, un8.but b9 (Ne.symm hrL)⟩⟩
              rw [putAll_nil hkn] at a2; exact a2
          case cont4 =>
            rintro f h9 ⟨rfl, E9, ⟨es9, ep9, hr9, y9⟩, hxd9, U9⟩
            dsimp only
            -- the second walk
            refine Go.cons (Go.mono (Q := fun f h' => f = .next ∧ Ext g h' ∧ (∀ b o, (∀ t ∈ ts, .ref b ≠ t.v) → h.get? b = some o → h'.get? b = some o) ∧ (∃ es ep, h'.get? r = some ⟨.ref 194, some xd, .dict es ep, #[]⟩ ∧ Ents es.toList (joined kvs ts)) ∧ h'.get? xd = some ⟨.type "dict", none, .dict #[] 0, #[]⟩ ∧ UN2 h' h.objs.size o r ts.length ∧ ∀ t ∈ ts, ThingS g h' t) ?loop2 ?cont5)
            case loop2 =>
              refine Go.forS ?_ (hA := hA)
              refine Go.callE rfl rfl ?_
              have X9 := X0.keeps E9
              walk_at "e_name"
              obtain ⟨m9, N9, u1, ⟨tz9, u2⟩, u3⟩ := U9.m
              refine Go.spc ?_
              walk_at "e_name"
              refine Go.spn ⟨keep_plain (fun a e => by cases e), ?_⟩
              refine Go.callRange fun rr h10 tu tv tw R10 E10 fr10 => ?_
              refine Go.iterRange R10 (by omega) fun h11 it f11 R11 E11 => ?_
              have E911 := E10.trans E11
              have fit : h.get? it = none := (E9.trans E10).fresh f11
              have itL : it ≠ h.objs.size := by
                intro q; subst q
                obtain ⟨_, _, _, z, _⟩ := ns_keeps N9 E10
                rw [z] at f11; cases f11
              have itr : it ≠ r := by intro q; subst q; rw [E10 _ _ hr9] at f11; cases f11
              have itx : it ≠ xd := by intro q; subst q; rw [E10 _ _ hxd9] at f11; cases f11
              have old : ∀ t ∈ ts, ∀ b, .ref b = t.v → ∃ o, h.get? b = some o := fun t ht b e => thing_old G (hts t ht) e
              -- the heap without the walks
              let l : List Addr := ts.filterMap fun t => match t.v with | .ref b => if (g.get? b).isNone then some b else none | _ => none
              have hl0 : ∀ b o, (hideAll h l).get? b = some o → h.get? b = some o ∧ b ∉ l := fun b o e => ⟨of_hideAll l e, fun q => by rw [hideAll_none l q] at e; cases e⟩
              have X00 : (Mine.hd.heap_39 c.w.params).In (hideAll h l) := by
                intro b o e
                refine hideAll_get l (X0 _ _ e) fun q => ?_
                obtain ⟨t, ht, q⟩ := List.mem_filterMap.mp q
                have gb := X _ _ e
                split at q
                · rename_i b' hb'
                  split at q
                  · rename_i hb
                    cases q
                    rw [gb] at hb; cases hb
                  · cases q
                · cases q
              have Eh0 : ∀ (i : Nat) hh, Ext g hh → (∀ b o, (∀ t ∈ ts.take i, .ref b ≠ t.v) → h.get? b = some o → hh.get? b = some o) → Ext (hideAll h l) hh := by
                intro i hh Gh Kh b o e
                obtain ⟨e1, e2⟩ := hl0 b o e
                by_cases hb : ∀ t ∈ ts.take i, .ref b ≠ t.v
                · exact Kh b o hb e1
                · have hb2 : ∃ t, t ∈ ts ∧ .ref b = t.v := by
                    apply Classical.byContradiction
                    intro z
                    exact hb fun t ht q => z ⟨t, List.mem_of_mem_take ht, q⟩
                  obtain ⟨t, ht, q⟩ := hb2
                  cases gb : g.get? b with
                  | some o' =>
                    have := G _ _ gb
                    rw [e1] at this; cases this
                    exact Gh _ _ gb
                  | none =>
                    refine absurd (List.mem_filterMap.mpr ⟨t, ht, ?_⟩) e2
                    rw [← q]
                    simp [gb]
              refine GoC.forLoop (fun i hh => Ext g hh ∧ (∀ b o, (∀ t ∈ ts.take i, .ref b ≠ t.v) → h.get? b = some o → hh.get? b = some o) ∧ IsRangeIter hh it ((i : Nat) : Int) ((ts.length : Int) - ((i : Nat) : Int)) 1 ∧ (∃ es ep, hh.get? r = some ⟨.ref 194, some xd, .dict es ep, #[]⟩ ∧ Ents es.toList (joined kvs (ts.take i))) ∧
                hh.get? xd = some ⟨.type "dict", none, .dict #[] 0, #[]⟩ ∧ UN2 hh h.objs.size o r ts.length ∧ ∀ t ∈ ts.take i, ThingS g hh t) ts.length ?k0 ?kstep ?kend
              case k0 =>
                exact ⟨G.trans (E9.trans E911), fun b o _ e => E911 _ _ (E9 _ _ e), R11, ⟨_, _, E911 _ _ hr9, y9⟩, E911 _ _ hxd9, U9.keeps E911, fun t ht => by simp at ht⟩
              case kend =>
                rintro hh ⟨Gh, Kh, Rh, ⟨es, ep, hrh, yh⟩, hxh, Uh, Th⟩
                rw [List.take_length] at Kh yh Th
                refine Go.endRange Rh (by omega) (fun h' bb => ⟨rfl, rfl, Gh.thru bb (G.fresh fit), fun b o q e => bb b o (fun z => by subst z; rw [fit] at e; cases e) (Kh b o q e), ⟨_, _, bb _ _ (Ne.symm itr) hrh, yh⟩, bb _ _ (Ne.symm itx) hxh, Uh.but bb (Ne.symm itL), fun t ht => (Th t ht).after fun b o e n hc q => ?_⟩) hA
                obtain ⟨o', z⟩ := old t ht b e
                exact bb b o (fun y => by subst y; rw [fit] at z; cases z) q
              case kstep =>
                rintro i hh hi ⟨Gh, Kh, Rh, ⟨es, ep, hrh, yh⟩, hxh, Uh, Th⟩
                refine Go.nextRange Rh (by omega) fun ti h' R' s' => ⟨_, rfl, Go.letGoName ?_⟩
                obtain ⟨m5, N5', w1, ⟨tz', w2⟩, w3⟩ := (Uh.but (but_of_same s') (Ne.symm itL)).m
                refine Go.asgName (Go.stl rfl (by kernel_rfl) N5' fun hB NB sB => ?_)
                -- what stands behind a change of the frame's own
                have G1' : Ext g hB := (Gh.thru (but_of_same s') (G.fresh fit)).thru (but_of_same sB) (G.fresh F)
                have tk : ∀ b o, b ≠ it → b ≠ h.objs.size → hh.get? b = some o → hB.get? b = some o := fun b o n1 n2 e => but_of_same sB b o n2 (but_of_same s' b o n1 e)
                have ti? : ts[i]? = some ts[i] := by simp [hi]
                have tv? : (ts.map (·.v)).toArray[i]? = some ts[i].v := by simp [hi]
                refine Go.cons (Go.asg (Go.subS ?_))
                walk_at "e_name"
                walk_at "e_name"
                refine ⟨o, _, _, _, _, rfl, rfl, (O.keeps G1').item, by omega, by omega, by simpa using tv?, ?_⟩
                refine Go.stl rfl (by kernel_rfl) NB fun hC NC sC => ?_
                have GC : Ext g hC := G1'.thru (but_of_same sC) (G.fresh F)
                have tkC : ∀ b o, b ≠ it → b ≠ h.objs.size → hh.get? b = some o → hC.get? b = some o := fun b o n1 n2 e => but_of_same sC b o n2 (tk b o n1 n2 e)
                have inh : ∀ {b o}, h.get? b = some o → b ≠ it ∧ b ≠ h.objs.size := fun {b o} e => ⟨(fun q => by subst q; rw [fit] at e; cases e), (fun q => by subst q; rw [F] at e; cases e)⟩
                have ne_i : ∀ t ∈ ts.take i, ∀ b, .ref b = ts[i].v → .ref b ≠ t.v := by
                  intro t ht b e q
                  obtain ⟨j, hj, ej⟩ := List.mem_take_iff_getElem.mp ht
                  have hj' : ts[j]? = some t := by rw [List.getElem?_eq_getElem (by omega)]; exact congrArg some ej
                  have := hdist j i t ts[i] hj' ti? (by omega) (q.symm.trans e)
                  rw [← q] at this; cases this
                have TC : Thing g hC ts[i] := (hts ts[i] (List.getElem_mem hi)).after fun b o e n hc q => by
                  obtain ⟨n1, n2⟩ := inh q
                  exact tkC b o n1 n2 (Kh b o (fun t ht z => ne_i t ht b e z) q)
                dsimp only
                refine Go.cons (Go.iff (Go.tnot (Go.tval ?_)))
                walk_at "e_name"
                have XC := X.keeps GC
                refine Go.truthyThing XC GC TC (Nat.lt_of_le_of_lt (htl _ (List.getElem_mem hi)) (by decide)) hA (by show A.depth + 1 ≤ 590; omega) (by show A.units + 3 ≤ 590; omega) fun hD ED => ?_
                have RD : IsRangeIter hD it (((i : Nat) : Int) + 1) ((ts.length : Int) - ((i : Nat) : Int) - 1) 1 := rIter_keeps (rIter_but (rIter_but R' (but_of_same sB) itL) (but_of_same sC) itL) ED
                have e1 : ((i : Nat) : Int) + 1 = ((i + 1 : Nat) : Int) := by push_cast; rfl
                have e2 : (ts.length : Int) - ((i : Nat) : Int) - 1 = (ts.length : Int) - ((i + 1 : Nat) : Int) := by push_cast; omega
                rw [e1, e2] at RD
                have ND := ns_keeps NC ED
                have GD := GC.trans ED
                have TD : Thing g hD ts[i] := TC.after fun b o e n hc q => ED _ _ q
                have tkD : ∀ b o, b ≠ it → b ≠ h.objs.size → hh.get? b = some o → hD.get? b = some o := fun b o n1 n2 e => ED _ _ (tkC b o n1 n2 e)
                have hrD := tkD _ _ (Ne.symm itr) hrL hrh
                have hxD := tkD _ _ (Ne.symm itx) hxL hxh
                have jt := joined_take (kvs := kvs) ti?
                have KD : ∀ b o, (∀ t ∈ ts.take i, .ref b ≠ t.v) → h.get? b = some o → hD.get? b = some o := fun b o q e => by
                  obtain ⟨n1, n2⟩ := inh e
                  exact tkD b o n1 n2 (Kh b o q e)
                have ThD : ∀ t ∈ ts.take i, ThingS g hD t := fun t ht => (Th t ht).after fun b o e n hc q => by
                  obtain ⟨o', z⟩ := old t (List.mem_of_mem_take ht) b e
                  obtain ⟨n1, n2⟩ := inh z
                  exact tkD b o n1 n2 q
                have mem_succ : ∀ t, t ∈ ts.take (i + 1) → t ∈ ts.take i ∨ t = ts[i] := by
                  intro t ht
                  rw [List.take_add_one, ti?] at ht
                  rcases List.mem_append.mp ht with q | q
                  · exact .inl q
                  · exact .inr (by simpa using q)
                cases hf : ts[i].full with
                | false =>
                  rw [if_pos (by simp)]
                  refine Go.cons (Go.cont ?_)
                  have e0 := notFull TD hf
                  refine ⟨GD, fun b o q e => KD b o (fun t ht => q t (by rw [List.take_add_one]; exact List.mem_append_left _ ht)) e, RD, ⟨_, _, hrD, by rw [jt, e0]; exact yh⟩, hxD, ⟨_, ND, by walk_at "e_mv", ⟨tz', by walk_at "e_mv"⟩, by walk_at "e_mv"⟩, fun t ht => ?_⟩
                  rcases mem_succ t ht with ht | rfl
                  · exact ThD t ht
                  · exact TD.spent
                | true =>
                  rw [if_neg (by simp)]
                  refine Go.nil ?_
                  dsimp only
                  have XD := X.keeps GD
                  obtain ⟨bd, HD⟩ := isDict (c := c) XD GD TD.spent
                  have doU : ∀ (B : Around) hE, B.handled = none → B.depth ≤ 490 → B.units ≤ 490 → Ext hD hE → Go c B (PySem.call (.builtin "dict.update") [.ref r, ts[i].v])
                      (fun v h' => v = .none ∧ Ext g h' ∧ (∀ b o, (∀ t ∈ ts.take (i + 1), .ref b ≠ t.v) → h.get? b = some o → h'.get? b = some o) ∧ IsRangeIter h' it ((i + 1 : Nat) : Int) ((ts.length : Int) - ((i + 1 : Nat) : Int)) 1 ∧ (∃ es ep, h'.get? r = some ⟨.ref 194, some xd, .dict es ep, #[]⟩ ∧ Ents es.toList (joined kvs (ts.take (i + 1)))) ∧
                        h'.get? xd = some ⟨.type "dict", none, .dict #[] 0, #[]⟩ ∧ UN2 h' h.objs.size o r ts.length ∧ ∀ t ∈ ts.take (i + 1), ThingS g h' t) hE := by
                    intro B hE b1 b2 b3 EE
                    have TE : Thing g hE ts[i] := TD.after fun b o e n hc q => EE _ _ q
                    have jl := joined_length (kvs := kvs) (ts := ts.take i) fun t ht => htl t (List.mem_of_mem_take ht)
                    have jl2 : (ts.take i).length ≤ 100 := by rw [List.length_take]; omega
                    refine Go.updThing X (GD.trans EE) gr TE hf (htn _ (List.getElem_mem hi)) (htl _ (List.getElem_mem hi)) b1 b2 b3 (EE _ _ hrD) yh (by omega) .i fun hF esF epF a1 a2 GF kF TF => ?_
                    have kF2 : ∀ b o, b ≠ r → .ref b ≠ ts[i].v → hD.get? b = some o → hF.get? b = some o := fun b o n1 n2 e => kF b o n1 n2 (EE _ _ e)
                    have fresh_ne : ∀ b, h.get? b = none → .ref b ≠ ts[i].v := fun b e q => by
                      obtain ⟨o', z⟩ := old _ (List.getElem_mem hi) b q
                      rw [e] at z; cases z
                    refine ⟨rfl, GF, fun b o q e => ?_, kF2 _ _ itr (fresh_ne _ fit) RD, ⟨esF, epF, a1, by rw [jt]; exact a2⟩, kF2 _ _ (Ne.symm hxr) (fresh_ne _ frxd) hxD, ?_, fun t ht => ?_⟩
                    · exact kF2 b o (fun z => by subst z; rw [frh] at e; cases e) (q _ (by rw [List.take_add_one, ti?]; exact List.mem_append_right _ (by simp))) (KD b o (fun t ht => q t (by rw [List.take_add_one]; exact List.mem_append_left _ ht)) e)
                    · obtain ⟨oL, es', ep', eL, rL⟩ := ND
                      exact ⟨_, ⟨oL, es', ep', kF2 _ _ (Ne.symm hrL) (fresh_ne _ F) eL, rL⟩, by walk_at "e_mv", ⟨tz', by walk_at "e_mv"⟩, by walk_at "e_mv"⟩
                    · rcases mem_succ t ht with ht | rfl
                      · refine (ThD t ht).after fun b o e n hc q => ?_
                        obtain ⟨o', z⟩ := old t (List.mem_of_mem_take ht) b e
                        refine kF2 b o (fun y => by subst y; rw [frh] at z; cases z) (fun y => ne_i t ht b y e) q
                      · exact TF
                  refine Go.cons (Go.iff (Go.tval (Go.callE rfl rfl ?_)))
                  walk_at "e_name"
                  refine Go.spc ?_
                  walk_at "e_name"
                  refine Go.spc ?_
                  walk_at "e_name"
                  refine Go.spn ⟨keep_plain (fun a e => by cases e), ?_⟩
                  refine Go.mono (Go.up HD hA (by show A.depth + 1 ≤ 700; omega) (by show A.units + 3 ≤ 700; omega)) ?_
                  rintro v hE ⟨rfl, EE⟩
                  have XE := XD.keeps EE
                  have NE := ns_keeps ND EE
                  refine Go.truthyBool ?_
                  cases bd with
                  | true =>
                    rw [if_pos rfl]
                    refine Go.cons (Go.exprNone (Go.method rfl rfl (by decide) rfl ?_))
                    walk_at "e_name"
                    refine gm_dictUpdate X00 ((Eh0 i hD GD KD).trans EE) NE (Nat.le_of_eq (hideAll_size _ _)) ?_
                    refine Go.spc ?_
                    walk_at "e_name"
                    refine Go.spc ?_
                    walk_at "e_name"
                    refine Go.spn ⟨keep_plain (fun a e => by cases e), ?_⟩
                    refine Go.mono (doU _ hE hA (by show A.depth + 1 ≤ 490; omega) (by show A.units + 3 ≤ 490; omega) EE) ?_
                    rintro v hF ⟨rfl, z⟩
                    exact ⟨rfl, Go.nil (Go.nil z)⟩
                  | false =>
                    rw [if_neg (by simp)]
                    refine Go.cons (Go.exprNone (Go.method rfl rfl (by decide) rfl ?_))
                    walk_at "e_name"
                    refine gm_dictUpdate X00 ((Eh0 i hD GD KD).trans EE) NE (Nat.le_of_eq (hideAll_size _ _)) ?_
                    refine Go.spc ?_
                    walk_at "e_name"
                    refine Go.spc ?_
                    walk_at "e_name"
                    refine Go.spn ⟨keep_plain (fun a e => by cases e), ?_⟩
                    refine Go.mono (doU _ hE hA (by show A.depth + 1 ≤ 490; omega) (by show A.units + 3 ≤ 490; omega) EE) ?_
                    rintro v hF ⟨rfl, z⟩
                    exact ⟨rfl, Go.nil (Go.nil z)⟩
            case cont5 =>
              rintro f h' ⟨rfl, Gz, Kz, ⟨esz, epz, hrz, yz⟩, hxdz, Uz, Tz⟩
              dsimp only
              obtain ⟨mz, Nz, _, _, z3⟩ := Uz.m
              refine Go.cons (Go.ret ?_)
              walk_at "e_name"
              refine Hnew wz r h' frh Gz Kz (fun g' a1 a2 => ⟨xd, _, _, a2 _ _ frh hrz, a2 _ _ frxd hxdz, yz⟩) Tz
end
end Mine
namespace Mine
/-- one that was handed: the thing, its rows, whether it counts, whether it is immutable -/
def HdAt (h : Heap) (v : Value) (t : Th) : Prop := ∃ a ra, v = .ref a ∧ h.IsTuple a #[t.v, .ref ra, .bool t.full, .bool t.shut] ∧ RowsAt h ra t.kvs
theorem HdAt.keeps {h h' : Heap} {v t} (x : HdAt h v t) (e : Ext h h') : HdAt h' v t := let ⟨a, ra, q, r, s⟩ := x; ⟨a, ra, q, r.at fun o z => e _ _ z, s.keeps e⟩
inductive Hds (h : Heap) : List Value → List Th → Prop
  | nil : Hds h [] []
  | cons {v t vs ts} : HdAt h v t → Hds h vs ts → Hds h (v :: vs) (t :: ts)
theorem Hds.keeps {h h' : Heap} {vs ts} (x : Hds h vs ts) (e : Ext h h') : Hds h' vs ts := by
  induction x with
  | nil => exact .nil
  | cons a _ ih => exact .cons (a.keeps e) ih
theorem Hds.append {h : Heap} {vs ts vs' ts'} (x : Hds h vs ts) (y : Hds h vs' ts') : Hds h (vs ++ vs') (ts ++ ts') := by
  induction x with
  | nil => exact y
  | cons a _ ih => exact .cons a ih
theorem Hds.length {h : Heap} {vs ts} (x : Hds h vs ts) : vs.length = ts.length := by
  induction x with
  | nil => rfl
  | cons _ _ ih => simp [ih]
theorem Hds.get {h : Heap} {vs ts} (x : Hds h vs ts) {i : Nat} {v} (e : vs[i]? = some v) : ∃ t, ts[i]? = some t ∧ HdAt h v t := by
  induction x generalizing i with
  | nil => simp at e
  | cons a _ ih =>
    cases i with
    | zero => simp at e; subst e; exact ⟨_, rfl, a⟩
    | succ i => simpa using ih (by simpa using e)
theorem ns_unique {h : Heap} {a : Addr} {m m' : VMap} (x : h.Ns a m) (y : h.Ns a m') : m = m' := by
  obtain ⟨o, es, ep, e, d, _, f⟩ := x
  obtain ⟨o', es', ep', e', d', _, f'⟩ := y
  rw [e] at e'; cases e'
  rw [d] at d'; cases d'
  funext x
  rw [← f, ← f']
def sameOf (self : Value) (kvs : Rw) (ts : List Th) : Value := match ts.filter (·.full) with
  | [] => self
  | [t] => if (kvs.isEmpty && t.shut) = true then t.v else .none
  | _ => .none
section
variable {α β : Type} {c : Cx} {A : Around} {h : Heap} {env : Env}
theorem Go.lenList {l : Addr} {items : Array Value} {Q : Value → Heap → Prop} (hl : h.IsList l items) (hs : items.size ≤ 1000) (H : ∀ t, Q (.int items.size t) h) : Go c A (PySem.call (.builtin "len") [.ref l]) Q h := fun tk =>
  Calls.call_len_list hl (by omega) ⟨_, _, rfl, H _⟩
theorem same_spec {a hl : Addr} {kvs : Rw} {ts : List Th} {vs : List Value} (X : (Mine.hd.heap_39 c.w.params).In h) (I : ImmAt h a kvs) (hls : h.IsList hl vs.toArray) (hds : Hds h vs ts) (hkl : kvs.length ≤ 8) (hn : ts.length ≤ 100)
    (hA : A.handled = none) (hd : A.depth ≤ 400) (hu : A.units ≤ 400) : Go c A (PySem.call (.ref 412) [.ref a, .ref hl]) (fun v h' => v = sameOf (.ref a) kvs ts ∧ Ext h h') h := by
  walk_at "e_def"
  intro h₁ N E F
  replace N := ns_2 N
  have X1 := X.keeps E
  have hls1 : h₁.IsList hl vs.toArray := hls.at fun o e => E _ _ e
  have hds1 := hds.keeps E
  refine Go.cons ?_
  refine Go.asgComp (cl := []) ?sw ?clos ?cell ?kind ?names ?k ?y ?H (hA := hA)
  case sw => rfl
  case clos => rfl
  case cell => kernel_rfl
  case kind => rfl
  case names => decide
  case k => rfl
  case y => kernel_rfl
  case H =>
    walk_at "e_name"
    refine ⟨⟨_, N⟩, CompAt.list h (fun i g' ys => Hds g' ys ((ts.take i).filter (·.full))) hls1 (by rw [List.size_toArray, hds.length]; omega) ?ho E (fun _ _ => .nil) ?step ?fin hA⟩
    case ho => obtain ⟨o, _, _, e, _⟩ := N; exact ⟨o, e⟩
    case step =>
      intro C i v h₂ m ys fC hi hv E2 hJ N2
      have hv' : vs[i]? = some v := by simpa using hv
      obtain ⟨t, ht, hd1⟩ := hds.get hv'
      refine Go.asgName (Go.stl rfl (by kernel_rfl) N2 fun h₃ N3 s3 => ?_)
      have E3 : Ext h₁ h₃ := E2.thru (but_of_same s3) fC
      obtain ⟨ta, ra, rfl, ht1, hr1⟩ := hd1
      have f1 := filter_take ht
      refine Go.testsOne (Go.tval (Go.subS ?_))
      walk_at "e_name"
      refine Go.constInt fun t1 => ?_
      refine ⟨ta, _, _, _, _, rfl, rfl, .inl (ht1.at fun o e => E3 _ _ (E _ _ e)), by decide, by decide, rfl, Go.truthyBool ?_⟩
      cases hf : t.full with
      | true =>
        rw [hf, if_pos rfl] at f1
        rw [if_pos rfl]
        walk_at "e_name"
        refine ⟨fun b o n e => but_of_same s3 b o n e, ⟨_, N3⟩, fun g' e1 _ J => ?_⟩
        rw [f1]
        exact J.append (.cons (HdAt.keeps ⟨ta, ra, rfl, ht1, hr1⟩ e1) .nil)
      | false =>
        rw [hf, if_neg (by simp)] at f1
        rw [if_neg (by simp)]
        refine ⟨fun b o n e => but_of_same s3 b o n e, ⟨_, N3⟩, fun g' e1 _ J => ?_⟩
        rw [f1]; simpa using J
    case fin =>
      intro D h₂ ys fD E2 ly hJ lD h₃ m N2 N3 s3
      have Nm := ns_keeps N E2
      have hsz : vs.toArray.size = ts.length := by rw [List.size_toArray, hds.length]
      rw [hsz] at hJ ly
      simp only [List.take_length] at hJ
      have E3 : Ext h h₃ := (E.trans E2).thru (but_of_same s3) F
      have hDL : D ≠ h.objs.size := by
        intro q; subst q
        obtain ⟨_, _, _, z, _⟩ := N
        rw [z] at fD; cases fD
      have em := ns_unique N2 Nm
      subst em
      have E23 := but_of_same s3
      have lD3 : h₃.IsList D ys.toArray := lD.isList.at fun o e => E23 _ _ hDL e
      have J3 : Hds h₃ ys (ts.filter (·.full)) := hJ h₃ E3 fun b o n e => E23 b o (fun q => by subst q; obtain ⟨_, _, _, z, _⟩ := N; exact absurd (z.symm.trans n) (by simp)) e
      have X3 := X.keeps E3
      have zl := J3.length
      have zf : (ts.filter (·.full)).length ≤ ts.length := List.length_filter_le _ _
      dsimp only
      refine Go.cons (Go.iff (Go.tnot (Go.tval ?_)))
      walk_at "e_name"
      refine (fun tk => wpAny_truthy_list lD3 (by rw [List.size_toArray]; omega) ⟨_, _, rfl, ?_⟩)
      cases q : ts.filter (·.full) with
      | nil =>
        rw [q] at zl
        have y0 : ys = [] := List.length_eq_zero_iff.mp zl
        subst y0
        rw [if_pos (by simp)]
        refine Go.cons (Go.ret ?_)
        walk_at "e_name"
        exact ⟨by unfold sameOf; rw [q], E3⟩
      | cons t r =>
        rw [q] at zl
        have y0 : ys.toArray.isEmpty = false := by cases ys <;> simp_all
        rw [if_neg (by rw [y0]; simp)]
        refine Go.nil ?_
        dsimp only
        refine Go.cons (Go.iff (Go.tand (Go.andcons (Go.tcmp (Go.callE rfl rfl ?_)))))
        walk_at "e_name"
        refine Go.spc ?_
        walk_at "e_name"
        refine Go.spn ⟨keep_plain (fun a e => by cases e), ?_⟩
        obtain ⟨xda, esa, epa, ha, hxa, ya⟩ := I
        have za : esa.size = kvs.length := by rw [← Array.length_toList, ya.length]
        refine Go.mono (Go.up (clen_i X3 (E3 _ _ ha) (by omega)) hA (by show A.depth + 1 ≤ 700; omega) (by show A.units + 3 ≤ 700; omega)) ?_
        rintro v h₄ ⟨tl, rfl, E4⟩
        have N4 := ns_keeps N3 E4
        have lD4 : h₄.IsList D ys.toArray := lD3.at fun o e => E4 _ _ e
        have J4 := J3.keeps E4
        have X4 := X3.keeps E4
        have E04 := E3.trans E4
        refine Go.constInt fun t0 => Go.eqInt (Go.truthyBool ?_)
        have ek : (((esa.size : Nat) : Int) == 0) = kvs.isEmpty := by
          rw [za]
          cases kvs <;> simp <;> omega
        rw [ek]
        cases hk : kvs.isEmpty with
        | false =>
          rw [if_neg (by simp)]
          rw [if_neg (by simp)]
          refine Go.nil ?_
          dsimp only
          refine Go.cons (Go.ret (Go.constNone ⟨?_, E04⟩))
          unfold sameOf; rw [q]
          cases r <;> simp [hk]
        | true =>
          rw [if_pos (by simp)]
          refine Go.andcons (Go.tcmp (Go.callE rfl rfl ?_))
          walk_at "e_name"
          refine Go.spc ?_
          walk_at "e_name"
          refine Go.spn ⟨keep_plain (fun a e => by cases e), ?_⟩
          refine Go.lenList lD4 (by rw [List.size_toArray]; omega) fun t2 => ?_
          refine Go.constInt fun t3 => Go.eqInt (Go.truthyBool ?_)
          cases r with
          | cons t' r' =>
            have e1 : (((ys.toArray.size : Nat) : Int) == 1) = false := by
              rw [List.size_toArray, zl]
              rw [beq_eq_false_iff_ne]
              simp; omega
            rw [if_neg (by rw [e1]; simp)]
            rw [if_neg (by simp)]
            refine Go.nil ?_
            dsimp only
            refine Go.cons (Go.ret (Go.constNone ⟨?_, E04⟩))
            unfold sameOf; rw [q]
          | nil =>
            have e1 : (((ys.toArray.size : Nat) : Int) == 1) = true := by
              rw [List.size_toArray, zl]; rfl
            rw [if_pos (by rw [e1])]
            obtain ⟨y, rfl⟩ : ∃ y, ys = [y] := by
              cases ys with
              | nil => simp at zl
              | cons y r => cases r with
                | nil => exact ⟨y, rfl⟩
                | cons => simp at zl
            rw [q] at J4
            have hy : HdAt h₄ y t := by cases J4 with | cons a _ => exact a
            obtain ⟨ta, ra, rfl, ht1, hr1⟩ := hy
            refine Go.andcons (Go.tval (Go.subS (Go.subS ?_)))
            walk_at "e_name"
            refine Go.constInt fun t4 => ?_
            refine ⟨D, _, _, _, _, rfl, rfl, .inr lD4, by decide, by decide, rfl, ?_⟩
            refine Go.constInt fun t5 => ?_
            refine ⟨ta, _, _, _, _, rfl, rfl, .inl ht1, by decide, by decide, rfl, ?_⟩
            refine Go.truthyBool ?_
            cases sh : t.shut with
            | false =>
              rw [if_neg (by simp)]
              rw [if_neg (by simp)]
              refine Go.nil ?_
              dsimp only
              refine Go.cons (Go.ret (Go.constNone ⟨?_, E04⟩))
              unfold sameOf; rw [q]; simp [sh]
            | true =>
              rw [if_pos rfl]
              refine Go.andnil ?_
              rw [if_pos rfl]
              refine Go.cons (Go.ret (Go.subS (Go.subS ?_)))
              walk_at "e_name"
              refine Go.constInt fun t4 => ?_
              refine ⟨D, _, _, _, _, rfl, rfl, .inr lD4, by decide, by decide, rfl, ?_⟩
              refine Go.constInt fun t5 => ?_
              refine ⟨ta, _, _, _, _, rfl, rfl, .inl ht1, by decide, by decide, rfl, ?_, E04⟩
              unfold sameOf; rw [q]; simp [sh, hk]
end
end Mine
namespace Mine
def rowData (p : Str × Int) : PyData := .tuple [.str p.1, .int p.2]
def rowsData (kvs : Rw) : PyData := .list (kvs.map rowData)
def KOk (kvs : Rw) : Prop := ∀ p ∈ kvs, PyData.strOk p.1 = true
theorem reads_rs {h : Heap} {vs kvs} (x : Rs h vs kvs) : ∃ as, ReadsAll h vs (kvs.map rowData) as := by
  induction x with
  | nil => exact ⟨_, .nil⟩
  | @cons v kv vs kvs a _ ih =>
    obtain ⟨as, r⟩ := ih
    obtain ⟨ad, t, u, rfl, o, ho, hc, n, hd⟩ := a
    exact ⟨_, .cons (.tuple ho hc hd (.cons (.str _ _) (.cons (.int _ _) .nil))) r⟩
theorem reads_rows {h : Heap} {a kvs} (x : RowsAt h a kvs) : ∃ as, Reads h (.ref a) (rowsData kvs) as := by
  obtain ⟨vs, ⟨o, ho, hc, n, hd⟩, r⟩ := x
  obtain ⟨as, q⟩ := reads_rs r
  exact ⟨_, .list ho hc hd (by simpa using q)⟩
theorem lay_rows {kvs : Rw} (k : KOk kvs) : (rowsData kvs).canLay0 = true := by
  show PyData.canLayAll0 (kvs.map rowData) = true
  induction kvs with
  | nil => rfl
  | cons p r ih =>
    rw [List.map_cons, PyData.canLayAll0, ih fun q hq => k q (List.mem_cons_of_mem _ hq), Bool.and_true]
    have := k p List.mem_cons_self
    simp [rowData, PyData.canLay0, PyData.canLayAll0, this]
theorem depth_rows (kvs : Rw) : (rowsData kvs).depth ≤ 2 := by
  show PyData.depthAll (kvs.map rowData) + 1 ≤ 2
  induction kvs with
  | nil => simp [PyData.depthAll]
  | cons p r ih =>
    rw [List.map_cons, PyData.depthAll]
    have : (rowData p).depth = 1 := by simp [rowData, PyData.depth, PyData.depthAll]
    omega
section
variable {α β : Type} {c : Cx} {A : Around} {h : Heap} {env : Env}
theorem Go.neRows {a b : Addr} {kvs : Rw} {Q : Value → Heap → Prop} (ra : RowsAt h a kvs) (rb : RowsAt h b kvs) (k : KOk kvs) (hu : A.units ≤ 1000) (H : Q (.bool false) h) : Go c A (compareOp .NotEq (.ref a) (.ref b)) Q h := fun tk => by
  obtain ⟨as, r1⟩ := reads_rows ra
  obtain ⟨bs, r2⟩ := reads_rows rb
  have dp := depth_rows kvs
  refine SeqAt.compareNe_reads r1 r2 (lay_rows k) (lay_rows k) (by show _ < 9900; omega) ?_
  rw [SeqAt.eqv_refl _ (lay_rows k)]
  exact ⟨_, _, rfl, H⟩
theorem Go.eqRows {a b : Addr} {kvs : Rw} {Q : Value → Heap → Prop} (ra : RowsAt h a kvs) (rb : RowsAt h b kvs) (k : KOk kvs) (hu : A.units ≤ 1000) (H : Q (.bool true) h) : Go c A (compareOp .Eq (.ref a) (.ref b)) Q h := fun tk => by
  obtain ⟨as, r1⟩ := reads_rows ra
  obtain ⟨bs, r2⟩ := reads_rows rb
  have dp := depth_rows kvs
  refine SeqAt.compareEq_reads r1 r2 (lay_rows k) (lay_rows k) (by show _ < 9900; omega) ?_
  rw [SeqAt.eqv_refl _ (lay_rows k)]
  exact ⟨_, _, rfl, H⟩
/-- list(x) of a list or a tuple of rows -/
theorem Go.listSeq {o : Addr} {T : String} {vs : List Value} {n : Nat} {Q : Value → Heap → Prop} (hT : T = "list" ∨ T = "tuple") (ho : h.get? o = some ⟨.type T, none, .seq vs.toArray n, #[]⟩) (hs : vs.length ≤ 1000)
    (H : ∀ l h', h.get? l = none → Ext h h' → (∃ nn, h'.get? l = some ⟨.type "list", none, .seq vs.toArray nn, #[]⟩) → Q (.ref l) h') : Go c A (PySem.call (.type "list") [.ref o]) Q h := fun tk =>
  call_list_seq o hT ho rfl rfl (fun h' c' k e => ⟨h', tk, rfl, H _ h' (fresh_at h) k ⟨c', e⟩⟩) (by rw [List.size_toArray, sizeLine_eq]; omega)
end
end Mine
namespace Mine
section
variable {α β : Type} {c : Cx} {A : Around} {h : Heap} {env : Env}
/-- isinstance(thing, (list, tuple)): if so, list(thing) has the rows -/
theorem isSeqT {g : Heap} {t : Th} {q : Addr} {nq : Nat} (X : (Mine.hd.heap_39 c.w.params).In h) (G : Ext g h) (T : ThingS g h t) (hq : h.get? q = some ⟨.type "tuple", none, .seq #[.type "list", .type "tuple"] nq, #[]⟩) :
    ∃ b, Go c (AA 700 700) (PySem.call (.builtin "isinstance") [t.v, .ref q]) (BoolOut h b) h ∧ (b = true → ∃ a T vs n, t.v = .ref a ∧ (T = "list" ∨ T = "tuple") ∧ g.get? a = some ⟨.type T, none, .seq vs.toArray n, #[]⟩ ∧ Rs g vs t.kvs) := by
  cases T with
  | none => exact ⟨_, isi_cn X hq, by simp⟩
  | dict ho I y hS =>
    cases I with
    | d => exact ⟨_, isi_cd X (G _ _ ho) hq, by simp⟩
    | i z => exact ⟨_, isi_ci X (G _ _ ho) hq, by simp⟩
    | p z => exact ⟨_, isi_cp X (G _ _ ho) hq, by simp⟩
  | list ho hr => exact ⟨_, isi_cl X (G _ _ ho) hq, fun _ => ⟨_, _, _, _, rfl, .inl rfl, ho, hr⟩⟩
  | tuple ho hr => exact ⟨_, isi_ct X (G _ _ ho) hq, fun _ => ⟨_, _, _, _, rfl, .inr rfl, ho, hr⟩⟩
  | props P => exact ⟨_, isi_cq X (G _ _ P.hx) hq, by simp⟩
  | @iter it o kvs gi hi hc =>
    obtain ⟨oc, od, dat, osl⟩ := o
    cases hc
    exact ⟨_, isi_cw X hi hq, by simp⟩
theorem isMapT {g : Heap} {t : Th} {q : Addr} {nq : Nat} (X : (Mine.hd.heap_39 c.w.params).In h) (G : Ext g h) (T : ThingS g h t) (hq : h.get? q = some ⟨.type "tuple", none, .seq #[.type "dict", .ref 337] nq, #[]⟩) :
    ∃ b, Go c (AA 700 700) (PySem.call (.builtin "isinstance") [t.v, .ref q]) (BoolOut h b) h ∧ (b = true → (∃ a cls dct es ep, t.v = .ref a ∧ g.get? a = some ⟨cls, dct, .dict es ep, #[]⟩ ∧ InsD g cls dct ∧ Ents es.toList t.kvs ∧ (a == sysModules) = false) ∨ ∃ x xd p, t.v = .ref x ∧ PropsAt g x xd p t.kvs) := by
  cases T with
  | none => exact ⟨_, isi_en X hq, by simp⟩
  | dict ho I y hS =>
    have I0 := I
    cases I with
    | d => exact ⟨_, isi_ed X (G _ _ ho) hq, fun _ => .inl ⟨_, _, _, _, _, rfl, ho, I0, y, hS⟩⟩
    | i z => exact ⟨_, isi_ei X (G _ _ ho) hq, fun _ => .inl ⟨_, _, _, _, _, rfl, ho, I0, y, hS⟩⟩
    | p z => exact ⟨_, isi_ep X (G _ _ ho) hq, fun _ => .inl ⟨_, _, _, _, _, rfl, ho, I0, y, hS⟩⟩
  | list ho hr => exact ⟨_, isi_el X (G _ _ ho) hq, by simp⟩
  | tuple ho hr => exact ⟨_, isi_et X (G _ _ ho) hq, by simp⟩
  | props P => exact ⟨_, isi_eq X (G _ _ P.hx) hq, fun _ => .inr ⟨_, _, _, rfl, P⟩⟩
  | @iter it o kvs gi hi hc =>
    obtain ⟨oc, od, dat, osl⟩ := o
    cases hc
    exact ⟨_, isi_ew X hi hq, by simp⟩
theorem Go.listSeq' {o : Addr} {ob : Obj} {T : String} {items : Array Value} {n : Nat} {Q : Value → Heap → Prop} (hT : T = "list" ∨ T = "tuple") (ho : h.get? o = some ob) (hc : ob.cls = .type T) (hd : ob.data = .seq items n) (hs : items.size ≤ 1000)
    (H : ∀ l h', h.get? l = none → Ext h h' → (∃ nn, h'.get? l = some ⟨.type "list", none, .seq items nn, #[]⟩) → Q (.ref l) h') : Go c A (PySem.call (.type "list") [.ref o]) Q h := fun tk =>
  call_list_seq o hT ho hc hd (fun h' c' k e => ⟨h', tk, rfl, H _ h' (fresh_at h) k ⟨c', e⟩⟩) (by rw [sizeLine_eq]; omega)
theorem keep_meth {m f : Addr} {self : Value} {oc : Value} {od : Option Addr} {fd : FuncData} {osl : Array (Option Value)} (X : (Mine.hd.heap_39 c.w.params).In h) (hm : h.get? m = some (methodObj (.ref f) self)) (e : (Mine.hd.heap_39 c.w.params).lookup f = some ⟨oc, od, .func fd, osl⟩) : KeepOk c h (.ref m) := by
  refine ⟨.boundFrame, by decide, ?_⟩
  unfold keeperOf
  refine (Looks.ld (part := none) hm).andThen ?_
  dsimp only
  rw [if_neg (by simp)]
  exact (Looks.ld (part := none) (X _ _ e)).andThen Looks.now
theorem gm_itemsP {x xd p : Addr} {kvs : Rw} {pl : Sem Bool} {Q : Value × List Value → Heap → Prop} (X : (Mine.hd.heap_39 c.w.params).In h) (P : PropsAt h x xd p kvs) (hA : A.handled = none) (hd : A.depth ≤ 700) (hu : A.units ≤ 700)
    (H : ∀ m h', Ext h h' → h'.get? m = some (methodObj (.ref 319) (.ref x)) → Q (.ref m, []) h') : Go c A (getMethod (.ref x) (Str.ofString "items") pl) Q h := by
  unfold getMethod
  refine Go.bind (Go.looks (r := some (.builtin "object.__getattribute__")) ((dc_type P.hx).andThen (looks_findIn X (by k_is))) ?_)
  dsimp only
  rw [if_neg (by decide +kernel)]
  refine Go.bind (Go.looks (r := some (.ref 269)) ((dc_type P.hx).andThen (looks_findIn X (by k_is))) ?_)
  rw [if_pos (by rfl)]
  refine Go.bind (Go.getAttr1 (C := 337) X P.hx rfl (by k_is) fun t => (Go.up (A := A) (ga_itemsP X P.hx P.hd) hA hd hu).mono fun v h₁ ⟨m, e, E1, hm⟩ => ?_)
  subst e
  exact ⟨rfl, Go.pure (H m h₁ E1 hm)⟩
theorem stands_spec {g : Heap} {hl : Addr} {ts : List Th} {vs : List Value} (X : (Mine.hd.heap_39 c.w.params).In g) (G : Ext g h) (hls : h.IsList hl vs.toArray) (hds : Hds h vs ts) (hts : ∀ t ∈ ts, ThingS g h t) (htl : ∀ t ∈ ts, t.kvs.length ≤ 2) (hko : ∀ t ∈ ts, KOk t.kvs)
    (hA : A.handled = none) (hd : A.depth ≤ 400) (hu : A.units ≤ 400) : Go c A (PySem.call (.ref 419) [.ref hl]) (fun v h' => v = .bool true ∧ Ext h h') h := by
  have X0 := X.keeps G
  walk_at "e_def"
  intro h₁ N E F
  replace N := ns_1 N
  refine Go.cons (Go.mono (Q := fun f h' => f = .next ∧ Ext h h') ?loop ?cont)
  case loop =>
    refine Go.forS ?_ (hA := hA)
    walk_at "e_name"
    refine Go.iterList (hls.at fun o e => E _ _ e) fun h₂ it E2 => ?_
    have fit : h.get? h₁.objs.size = none := E.fresh (fresh_at h₁)
    have itL : h₁.objs.size ≠ h.objs.size := by
      intro q
      obtain ⟨_, _, _, z, _⟩ := N
      rw [← q] at z; rw [fresh_at h₁] at z; cases z
    generalize hit0 : h₁.objs.size = itx at it fit itL
    refine GoC.forLoop (fun i hh => Ext h hh ∧ hh.IsListIter itx hl i ∧ ∃ m, hh.Ns h.objs.size m) vs.toArray.size ⟨E.trans E2, it, _, ns_keeps N E2⟩ ?step ?fin
    case fin =>
      rintro hh ⟨Eh, ih, _⟩
      exact Go.endList ih (hls.at fun o e => Eh _ _ e) (by simp) (fun h' b => ⟨rfl, rfl, Eh.thru b fit⟩) hA
    case step =>
      rintro i hh hi ⟨Eh, ih, m, Nh⟩
      have hi' : i < vs.length := by simpa using hi
      refine Go.nextList ih (hls.at fun o e => Eh _ _ e) (v := vs[i]) (by simp [hi']) fun h' ih' s' => ⟨_, rfl, Go.letGoList ih' ?_⟩
      obtain ⟨t, ht, ta, ra, hv, hta, hra⟩ := hds.get (i := i) (v := vs[i]) (by simp [hi'])
      have Eh' : Ext h h' := Eh.thru (but_of_same s') fit
      rw [hv]
      refine Go.asgTup (hta.at fun o e => Eh' _ _ e) rfl rfl (fun h₃ E3 => ?_) hA
      have N3 := ns_keeps (ns_but Nh (but_of_same s') (Ne.symm itL)) E3
      refine Go.aiocons ?_
      refine Go.asgName (Go.stl rfl (by kernel_rfl) N3 fun h₄ N4 s4 => ?_)
      refine Go.aiocons ?_
      refine Go.asgName (Go.stl rfl (by kernel_rfl) N4 fun h₅ N5 s5 => ?_)
      refine Go.aiocons ?_
      refine Go.asgName (Go.stl rfl (by kernel_rfl) N5 fun h₆ N6 s6 => ?_)
      refine Go.aiocons ?_
      refine Go.asgName (Go.stl rfl (by kernel_rfl) N6 fun h₇ N7 s7 => ?_)
      refine Go.aionil ?_
      have E07 : Ext h h₇ := ((((Eh'.trans E3).thru (but_of_same s4) F).thru (but_of_same s5) F).thru (but_of_same s6) F).thru (but_of_same s7) F
      have ih7 : h₇.IsListIter itx hl (i + 1) := by
        obtain ⟨o', e', r'⟩ := ih'
        exact ⟨o', but_of_same s7 _ _ itL (but_of_same s6 _ _ itL (but_of_same s5 _ _ itL (but_of_same s4 _ _ itL (E3 _ _ e')))), r'⟩
      have htm : t ∈ ts := List.mem_of_getElem? ht
      have T7 : ThingS g h₇ t := (hts t htm).after fun b o e n hc q => E07 _ _ q
      have G7 := G.trans E07
      have X7 := X.keeps G7
      refine Go.cons (Go.mono (Q := fun f h' => f = .next ∧ Ext h₇ h') ?first ?second)
      case first =>
        refine Go.iff (Go.tand (Go.andcons (Go.tval (Go.callE rfl rfl ?_))))
        walk_at "e_name"
        refine Go.spc ?_
        walk_at "e_name"
        refine Go.spc (Go.tuple (Go.spc ?_))
        walk_at "e_name"
        refine Go.spc ?_
        walk_at "e_name"
        refine Go.spn ⟨Nat.le_of_ble_eq_true rfl, ?_⟩
        have E8 : Ext h₇ (h₇.push ⟨.type "tuple", none, .seq #[.type "list", .type "tuple"], #[]⟩) := fun b o e => Heap.get?_push_of_some _ e
        refine Go.spn ⟨keep_plain (fun a e => by cases e), ?_⟩
        obtain ⟨b, HB, back⟩ := isSeqT (c := c) (X7.keeps E8) (G7.trans E8) (T7.after fun b o e n hc q => E8 _ _ q) (Heap.get?_push_size _ rfl)
        refine Go.mono (Go.up HB hA (by show A.depth + 1 ≤ 700; omega) (by show A.units + 3 ≤ 700; omega)) ?_
        rintro v h9 ⟨rfl, E9⟩
        refine Go.truthyBool ?_
        cases b with
        | false =>
          rw [if_neg (by simp)]
          rw [if_neg (by simp)]
          exact Go.nil ⟨rfl, E8.trans E9⟩
        | true =>
          rw [if_pos rfl]
          obtain ⟨aa, T, vs', n', ev, hT, hg, hr⟩ := back rfl
          have N9 := ns_keeps N7 (E8.trans E9)
          have X9 := X7.keeps (E8.trans E9)
          have G9 := G7.trans (E8.trans E9)
          refine Go.andcons (Go.tcmp (Go.callE rfl rfl ?_))
          walk_at "e_name"
          refine Go.spc ?_
          walk_at "e_name"
          refine Go.spn ⟨keep_plain (fun a e => by cases e), ?_⟩
          rw [ev]
          have hvl := hr.length
          have hkl := htl t htm
          refine Go.listSeq hT (G9 _ _ hg) (by omega) fun l h10 fl E10 ⟨nn, hl10⟩ => ?_
          have N10 := ns_keeps N9 E10
          walk_at "e_name"
          refine Go.neRows (kvs := t.kvs) ⟨vs', ⟨_, hl10, rfl, _, rfl⟩, hr.keeps (G9.trans E10)⟩ (hra.keeps (E07.trans (E8.trans (E9.trans E10)))) (hko t htm) (by show A.units + 3 ≤ 1000; omega) (Go.truthyBool ?_)
          rw [if_neg (by simp)]
          rw [if_neg (by simp)]
          exact Go.nil ⟨rfl, E8.trans (E9.trans E10)⟩
      case second =>
        rintro f h₈ ⟨rfl, E8⟩
        dsimp only
        have N8 := ns_keeps N7 E8
        have X8 := X7.keeps E8
        have G8 := G7.trans E8
        have T8 : ThingS g h₈ t := T7.after fun b o e n hc q => E8 _ _ q
        have done : ∀ h', Ext h₈ h' → Ext h h' ∧ h'.IsListIter itx hl (i + 1) ∧ ∃ m, h'.Ns h.objs.size m := fun h' e =>
          ⟨E07.trans (E8.trans e), (let ⟨o', a, r⟩ := ih7; ⟨o', e _ _ (E8 _ _ a), r⟩), ⟨_, ns_keeps N8 e⟩⟩
        refine Go.cons (Go.iff (Go.tand (Go.andcons (Go.tval (Go.callE rfl rfl ?_)))))
        walk_at "e_name"
        refine Go.spc ?_
        walk_at "e_name"
        refine Go.spc (Go.tuple (Go.spc ?_))
        walk_at "e_name"
        refine Go.spc ?_
        walk_at "e_name"
        refine Go.spn ⟨Nat.le_of_ble_eq_true rfl, ?_⟩
        have E9 : Ext h₈ (h₈.push ⟨.type "tuple", none, .seq #[.type "dict", .ref 337], #[]⟩) := fun b o e => Heap.get?_push_of_some _ e
        refine Go.spn ⟨keep_plain (fun a e => by cases e), ?_⟩
        obtain ⟨b, HB, back⟩ := isMapT (c := c) (X8.keeps E9) (G8.trans E9) (T8.after fun b o e n hc q => E9 _ _ q) (Heap.get?_push_size _ rfl)
        refine Go.mono (Go.up HB hA (by show A.depth + 1 ≤ 700; omega) (by show A.units + 3 ≤ 700; omega)) ?_
        rintro v h10 ⟨rfl, E10⟩
        refine Go.truthyBool ?_
        have E910 := E9.trans E10
        cases b with
        | false =>
          rw [if_neg (by simp)]
          rw [if_neg (by simp)]
          exact Go.nil (Go.nil (done _ E910))
        | true =>
          rw [if_pos rfl]
          have N10 := ns_keeps N8 E910
          have X10 := X8.keeps E910
          have G10 := G8.trans E910
          have hkl := htl t htm
          refine Go.andcons (Go.tcmp (Go.callE rfl rfl ?_))
          walk_at "e_name"
          refine Go.spc (Go.method rfl rfl (by decide) rfl ?_)
          walk_at "e_name"
          rcases back rfl with ⟨aa, cls, dct, es, ep, ev, hg, I, y, hS⟩ | ⟨x, xd, p, ev, P⟩
          · rw [ev]
            refine gm_items X10 (G10 _ _ hg) (I.keeps G10) ?_
            refine Go.spn ⟨keep_plain (fun a e => by cases e), ?_⟩
            refine Go.itemsView X10 (G10 _ _ hg) I.dc hS ?_
            refine Go.spn ⟨keep_plain (fun a e => by cases e), ?_⟩
            have E11 : Ext h10 (h10.push ⟨.type "dict_items", none, .fields #[.ref aa], #[]⟩) := fun b o e => Heap.get?_push_of_some _ e
            refine Go.mono (Go.up (listItems (by simpa using hS) (E11 _ _ (G10 _ _ hg)) y (I.keeps (G10.trans E11)) (by omega) (fun _ => hkl) (Heap.get?_push_size _ rfl)) hA (by show A.depth + 1 ≤ 700; omega) (by show A.units + 3 ≤ 700; omega)) ?_
            rintro v h12 ⟨l, rfl, fl, E12, hl12⟩
            have N12 := ns_keeps N10 (E11.trans E12)
            walk_at "e_name"
            refine Go.neRows (kvs := t.kvs) (hl12 h12 (New.self _ _)).rows (hra.keeps (E07.trans (E8.trans (E910.trans (E11.trans E12))))) (hko t htm) (by show A.units + 3 ≤ 1000; omega) (Go.truthyBool ?_)
            rw [if_neg (by simp)]
            rw [if_neg (by simp)]
            exact Go.nil (Go.nil (done _ (E910.trans (E11.trans E12))))
          · rw [ev]
            refine gm_itemsP X10 (P.keeps G10) hA (by show A.depth + 1 ≤ 700; omega) (by show A.units + 3 ≤ 700; omega) fun mm h11 E11 hm => ?_
            have X11 := X10.keeps E11
            refine Go.spn ⟨?keep, ?_⟩
            case keep =>
              refine' keep_meth X11 hm ?e
              case e => k_is
            refine Go.mcall hm (GoC.mono (itemsP X11 (P.keeps (G10.trans E11)) hkl hA (by show A.depth + 1 ≤ 600; omega) (by show A.units + 3 ≤ 600; omega)) ?_)
            rintro fl h12 ⟨v, rfl, l, rfl, fl, E12, hl12⟩
            refine ⟨_, rfl, ?_⟩
            refine Go.spn ⟨keep_plain (fun a e => by cases e), ?_⟩
            obtain ⟨vs', ⟨ol, hol, hcl, nl, hdl⟩, hr⟩ := (hl12 h12 (New.self _ _)).rows
            have hvl := hr.length
            refine Go.listSeq' (.inl rfl) hol hcl hdl (by rw [List.size_toArray]; omega) fun l2 h13 fl2 E13 ⟨nn, hl13⟩ => ?_
            have N13 := ns_keeps N10 (E11.trans (E12.trans E13))
            walk_at "e_name"
            have EE := E910.trans (E11.trans (E12.trans E13))
            refine Go.neRows (kvs := t.kvs) ⟨vs', ⟨_, hl13, rfl, _, rfl⟩, hr.keeps E13⟩ (hra.keeps (E07.trans (E8.trans EE))) (hko t htm) (by show A.units + 3 ≤ 1000; omega) (Go.truthyBool ?_)
            rw [if_neg (by simp)]
            rw [if_neg (by simp)]
            exact Go.nil (Go.nil (done _ EE))
  case cont =>
    rintro f h' ⟨rfl, Eh⟩
    dsimp only
    exact Go.cons (Go.ret (Go.constBool ⟨rfl, Eh⟩))
end
end Mine
namespace Mine
section
variable {α β : Type} {c : Cx} {A : Around} {h : Heap} {env : Env}
/-- a, b = x, y: the stores run backwards -/
theorem Go.swap {targets : List Expr} {value : Expr} {pos : Pos} {names : List Str} {Q : Flow → Heap → Prop} (hs : swapsWithSole targets value pos.line env = Pure.pure false) (hw : swappedStores targets value env = Pure.pure (some names)) (hA : A.handled = none)
    (H : Go c A (eval value env) (fun v h₁ => ∃ a items, v = .ref a ∧ h₁.IsTuple a items ∧ names.length = items.size ∧ ∀ h₂, Ext h₁ h₂ → Go c A (assignInOrder (names.reverse.map fun n => PySem.bindName env n) items.toList.reverse) (fun _ => Q .next) h₂) h) : Go c A (exec (.Assign targets value pos) env) Q h := by
  rw [arm_exec_Assign, hs]
  refine Go.bind (Go.standAt (Go.bind (Go.pure ?_)))
  rw [if_neg (by decide)]
  refine Go.bind (H.mono fun v h₁ q => ?_)
  obtain ⟨a, items, rfl, ht, hn, q⟩ := q
  rw [hw]
  refine Go.bind (Go.pure ?_)
  unfold assignStores
  refine Go.bind (Go.rule (Go.bind ?_))
  rw [hn]
  intro tk
  refine wpAny_unpackItems_tuple hA ht fun h' e => ⟨h', tk, rfl, ?_⟩
  exact Go.bind ((q h' (ext_of_extBut e)).mono fun _ _ z => Go.pure z)
theorem Go.dict0 {pos : Pos} {Q : Value → Heap → Prop} (H : Q (.ref h.objs.size) (h.push ⟨.type "dict", none, .dict #[] 0, #[]⟩)) : Go c A (eval (.Dict [] [] pos) env) Q h := by
  rw [arm_eval_Dict]
  refine Go.bind (Go.standAt ?_)
  intro tk
  show wpAny _ _ (newObj (.type "dict") (.dict #[])) _ _ _
  exact wpAny_newObj_type ⟨_, tk, rfl, H⟩ (by size_fits)
theorem Go.releaseGo {keep : List Value} {Q : Unit → Heap → Prop} (H : Q () h) : ∀ vs, Go c A (PySem.release.go keep vs) Q h
  | [] => Go.pure H
  | [_] => Go.pure H
  | _ :: y :: r => by
    show Go c A (PySem.holding (y :: r ++ keep) PySem.point >>= fun _ => PySem.release.go keep (y :: r)) Q h
    exact Go.bind (Go.holding (Go.point (Go.releaseGo H (y :: r))))
/-- o[i] = value -/
theorem Go.asgSub {o i value : Expr} {p pos : Pos} {Q : Flow → Heap → Prop} (hs : swapsWithSole [.Subscript o i p] value pos.line env = Pure.pure false) (hw : swappedStores [.Subscript o i p] value env = Pure.pure none)
    (H : Go c A (eval value env) (fun v h₁ => Go c A (eval o env) (fun ov h₂ => Go c A (eval i env) (fun iv h₃ => Go c A (setItem ov iv v) (fun _ h₄ => Q .next h₄) h₃) h₂) h₁) h) : Go c A (exec (.Assign [.Subscript o i p] value pos) env) Q h := by
  rw [arm_exec_Assign, hs]
  refine Go.bind (Go.standAt (Go.bind (Go.pure ?_)))
  rw [if_neg (by decide)]
  refine Go.bind (H.mono fun v h₁ q => ?_)
  rw [hw]
  refine Go.bind (Go.pure ?_)
  show Go c A (assignAll v ((assignEach [.Subscript o i p] env).map (·.2)) >>= fun _ => Pure.pure .next) Q h₁
  refine Go.bind ?_
  show Go c A (assign (.Subscript o i p) env v) _ h₁
  rw [arm_assign_Subscript]
  refine Go.bind (Go.holding (Go.mono q fun ov h₂ q => Go.bind (Go.holding (Go.mono q fun iv h₃ q => Go.bind (Go.standAt (Go.bind (Go.holding (Go.mono q fun _ h₄ q => ?_))))))))
  unfold PySem.release
  exact Go.releaseGo (Go.pure q) _
theorem Go.setItemD {d : Addr} {cls : Value} {dct : Option Addr} {es ep} {kvs : Rw} {k : Str} {t : Tok} {v : Int} {u : Tok} {Q : Unit → Heap → Prop} (X : (Mine.hd.heap_39 c.w.params).In h) (hd : h.get? d = some ⟨cls, dct, .dict es ep, #[]⟩) (x : Ents es.toList kvs) (hz : kvs.length ≤ 1000) (hcl : cls = .type "dict" ∨ cls = .ref 378)
    (H : ∀ h' es' ep', h'.get? d = some ⟨cls, dct, .dict es' ep', #[]⟩ → Ents es'.toList (put kvs k v) → Heap.SameBut d h h' → Q () h') : Go c A (setItem (.ref d) (.str k t) (.int v u)) Q h := by
  have D : DC cls := by rcases hcl with rfl | rfl <;> constructor
  have L : Looks (model PR c.w) h (typeOf (.ref d)) cls := dc_type hd
  have LS : Looks (model PR c.w) h (specialOf (.ref d) "__setitem__") (some (.builtin "dict.__setitem__")) := by
    refine L.andThen ?_
    rcases hcl with rfl | rfl
    · exact Looks.of_pure slot_dict_setitem.lookup
    · exact looks_findIn X (by k_is)
  unfold setItem
  refine Go.holding (Go.bind (Go.looks (r := .str k t) (L.andThen ?_) ?_))
  · rcases hcl with rfl | rfl
    · dsimp only
      rw [if_pos (by decide)]
      exact Looks.now
    · have hs : noSeq (Mine.hd.heap_39 c.w.params) 378 = true := by k_is
      dsimp only
      refine (anyM_none X hs).andThen ?_
      rw [if_pos (by rfl)]
      exact Looks.now
  refine Go.bind ?_
  unfold callSpecial?
  refine Go.bind (Go.looks LS (Go.holding ?_))
  rw [slot_dict_setitem.bind]
  have ha : argsOk "dict.__setitem__" ⟨[.ref d, .str k t, .int v u], []⟩ := args_dict_setitem _ _ _
  have hk0 : builtinKind "dict.__setitem__" = some .slot := by decide +kernel
  have hk1 : splitId "dict.__setitem__" = some ("dict", "__setitem__") := by decide +kernel
  have ck := @looks_check_slot h (model PR c.w) "dict.__setitem__" "dict" "__setitem__" (.ref d) [.str k t, .int v u] hk0 hk1 (dc_inst X hd D) ha
  refine Go.bind (Go.pure (Go.bind ?_))
  show Go c A (PySem.call (.builtin "dict.__setitem__") [.ref d, .str k t, .int v u]) _ h
  refine Go.bcall (b := Builtin.«dict.__setitem__») (by decide +kernel) entry_dict_setitem ck ?_
  unfold Builtin.«dict.__setitem__»
  refine Go.bind (Go.notOrdered X hd D ?_)
  rw [if_neg (by simp)]
  refine Go.bind (Go.pure ?_)
  refine Go.bind (Go.pure (Go.bind ?_))
  refine Go.dictSet hd x hz fun h' es' ep' a b s => ?_
  exact Go.pure ⟨_, rfl, Go.pure (Go.pure (H h' es' ep' a b s))⟩
end
end Mine
namespace Mine
section
variable {α β : Type} {c : Cx} {A : Around} {h : Heap} {env : Env}
/-- what is no dict stands -/
theorem Rs.under {g : Heap} {vs kvs} (x : Rs h vs kvs) (hg : ∀ a o, h.get? a = some o → (∀ es ep, o.data ≠ .dict es ep) → g.get? a = some o) : Rs g vs kvs := by
  induction x with
  | nil => exact .nil
  | cons a _ ih =>
    obtain ⟨a, t, u, q, o, ho, hc, n, hd⟩ := a
    exact .cons ⟨a, t, u, q, o, hg a o ho (by intro es ep q; rw [hd] at q; cases q), hc, n, hd⟩ ih
theorem list_under {g : Heap} {a : Addr} {items} (x : h.IsList a items) (hg : ∀ a o, h.get? a = some o → (∀ es ep, o.data ≠ .dict es ep) → g.get? a = some o) : g.IsList a items := by
  obtain ⟨o, ho, hc, n, hd⟩ := x
  exact ⟨o, hg a o ho (by intro es ep q; rw [hd] at q; cases q), hc, n, hd⟩
/-- for k, v in rows: d[k] = v -/
theorem Go.forFill {kx vx dx : Str} {pk pv pt pd pk2 ps pv2 pa pos : Pos} {kt : Nat} {iter : Expr} {Q : Flow → Heap → Prop} {g : Heap} {d : Addr} {cls : Value} {dct : Option Addr}
    (hcl : cls = .type "dict" ∨ cls = .ref 378) (X : (Mine.hd.heap_39 c.w.params).In g) (gd : g.get? d = none) (gL : g.get? env.locals = none) (hdL : d ≠ env.locals)
    (hk : env.scope.kind = .function) (lk : env.kindOf kx = some .local) (lv : env.kindOf vx = some .local) (ld : env.kindOf dx = some .local)
    (hvk : kx ≠ vx) (hdk : dx ≠ kx) (hdv : dx ≠ vx) (bk : (kx == ("__debug__" : Str)) = false) (bv : (vx == ("__debug__" : Str)) = false) (bd : (dx == ("__debug__" : Str)) = false) (hA : A.handled = none)
    (H : Go c A (eval iter env) (fun x h₁ => ∃ ra vs rows m es ep, x = .ref ra ∧ Ext g h₁ ∧ h₁.IsList ra vs.toArray ∧ Rs h₁ vs rows ∧ rows.length ≤ 100 ∧ h₁.Ns env.locals m ∧ m dx = some (.ref d) ∧ h₁.get? d = some ⟨cls, dct, .dict es ep, #[]⟩ ∧ es.toList = [] ∧
      ∀ h' es' ep' m', (∀ b o, b ≠ d → b ≠ env.locals → h₁.get? b = some o → h'.get? b = some o) → h'.get? d = some ⟨cls, dct, .dict es' ep', #[]⟩ → Ents es'.toList (putAll [] rows) → h'.Ns env.locals m' → (∀ y, y ≠ kx → y ≠ vx → m' y = m y) → Q .next h') h)
    (hs : ∀ x, foldedSetIterable iter env x = Pure.pure x := by intro _; rfl) :
    Go c A (exec (.For (.Tuple [.Name kx pk, .Name vx pv] kt pt) iter [.Assign [.Subscript (.Name dx pd) (.Name kx pk2) ps] (.Name vx pv2) pa] [] pos) env) Q h := by
  refine Go.forS (H.mono ?_) hs hA
  rintro x h₁ ⟨ra, vs, rows, m, es, ep, rfl, G, hl, hr, hz, N, hm, hd, he, fin⟩
  refine Go.iterList hl fun h₂ it E2 => ?_
  have fit := fresh_at h₁
  generalize h₁.objs.size = itx at it fit
  have itd : itx ≠ d := by intro q; subst q; rw [hd] at fit; cases fit
  have itL : itx ≠ env.locals := by intro q; subst q; obtain ⟨_, _, _, z, _⟩ := N; rw [z] at fit; cases fit
  have hvl := hr.length
  have keepD : ∀ hh : Heap, (∀ b o, b ≠ d → b ≠ env.locals → h₁.get? b = some o → hh.get? b = some o) → ∀ a o, h₁.get? a = some o → (∀ es ep, o.data ≠ .dict es ep) → hh.get? a = some o := by
    intro hh K a o e nd
    refine K a o ?_ ?_ e
    · rintro rfl; rw [hd] at e; cases e; exact nd _ _ rfl
    · rintro rfl
      obtain ⟨o', es', ep', z, z2, _⟩ := N
      rw [z] at e; cases e
      exact nd _ _ z2
  have GE : ∀ hh : Heap, (∀ b o, b ≠ d → b ≠ env.locals → h₁.get? b = some o → hh.get? b = some o) → Ext g hh := fun hh K b o e =>
    K b o (fun q => by subst q; rw [gd] at e; cases e) (fun q => by subst q; rw [gL] at e; cases e) (G b o e)
  refine GoC.forLoop (fun i hh => (∀ b o, b ≠ d → b ≠ env.locals → h₁.get? b = some o → hh.get? b = some o) ∧ hh.IsListIter itx ra i ∧ (∃ m', hh.Ns env.locals m' ∧ ∀ y, y ≠ kx → y ≠ vx → m' y = m y) ∧ ∃ es ep, hh.get? d = some ⟨cls, dct, .dict es ep, #[]⟩ ∧ Ents es.toList (putAll [] (rows.take i))) vs.toArray.size ?j0 ?step ?fin
  case j0 => exact ⟨fun b o _ _ e => E2 _ _ e, it, ⟨m, ns_keeps N E2, fun _ _ _ => rfl⟩, es, ep, E2 _ _ hd, by rw [he]; exact .nil⟩
  case fin =>
    rintro hh ⟨K, ih, ⟨m', N', hm'⟩, es', ep', hd', y'⟩
    refine Go.endList ih (list_under hl (keepD hh K)) (by simp) (fun h' b => ⟨rfl, ?_⟩) hA
    refine fin h' es' ep' m' (fun b' o n1 n2 e => b b' o (fun q => by subst q; rw [fit] at e; cases e) (K b' o n1 n2 e)) (b _ _ (Ne.symm itd) hd') ?_ (ns_but N' b (Ne.symm itL)) hm'
    rw [List.take_of_length_le (by simp; omega)] at y'
    exact y'
  case step =>
    rintro i hh hi ⟨K, ih, ⟨m', N', hm'⟩, es', ep', hd', y'⟩
    have hi' : i < vs.length := by simpa using hi
    refine Go.nextList ih (list_under hl (keepD hh K)) (v := vs[i]) (by simp [hi']) fun h' ih' s' => ⟨_, rfl, Go.letGoList ih' ?_⟩
    obtain ⟨kv, hkv, ta, t, u, hv, hta⟩ := (hr.under (keepD hh K)).get (i := i) (v := vs[i]) (by simp [hi'])
    have b1 := but_of_same s'
    rw [hv]
    have hta' : h'.IsTuple ta #[.str kv.1 t, .int kv.2 u] := by
      refine hta.at fun o e => b1 _ _ ?_ e
      rintro rfl
      obtain ⟨o1, z1, z2, _⟩ := ih
      obtain ⟨o2, w1, w2, _⟩ := hta
      rw [z1] at w1; cases w1
      exact absurd (z2.symm.trans w2) (by simp)
    refine Go.asgTup hta' rfl rfl (fun h₃ E3 => ?_) hA
    have N3 := ns_keeps (ns_but N' b1 (Ne.symm itL)) E3
    refine Go.aiocons ?_
    refine Go.asgName (Go.stl hk lk N3 fun h₄ N4 s4 => ?_)
    refine Go.aiocons ?_
    refine Go.asgName (Go.stl hk lv N4 fun h₅ N5 s5 => ?_)
    refine Go.aionil ?_
    have b4 := but_of_same s4
    have b5 := but_of_same s5
    have K5 : ∀ b o, b ≠ d → b ≠ env.locals → h₁.get? b = some o → h₅.get? b = some o := fun b o n1 n2 e => b5 b o n2 (b4 b o n2 (E3 _ _ (b1 b o (fun q => by subst q; rw [fit] at e; cases e) (K b o n1 n2 e))))
    have hd5 := b5 _ _ hdL (b4 _ _ hdL (E3 _ _ (b1 _ _ (Ne.symm itd) hd')))
    have G5 := GE h₅ K5
    have X5 := X.keeps G5
    refine Go.cons (Go.asgSub rfl rfl ?_)
    refine Go.ldl hk lv N5 upd_same ?_ bv
    refine Go.ldl hk ld N5 ((upd_ne hdv).trans ((upd_ne hdk).trans ((hm' _ hdk hdv).trans hm))) ?_ bd
    refine Go.ldl hk lk N5 ((upd_ne hvk).trans upd_same) ?_ bk
    have l1 := putAll_length [] (rows.take i)
    have l2 : (rows.take i).length ≤ rows.length := by rw [List.length_take]; omega
    refine Go.setItemD X5 hd5 y' (by simp at l1; omega) hcl fun h₆ es6 ep6 hd6 y6 s6 => ?_
    have b6 := but_of_same s6
    refine Go.nil ⟨fun b o n1 n2 e => b6 b o n1 (K5 b o n1 n2 e), ?_, ⟨_, ns_but N5 b6 (Ne.symm hdL), fun y n1 n2 => ?_⟩, es6, ep6, hd6, ?_⟩
    · obtain ⟨o', a1, a2⟩ := ih'
      exact ⟨o', b6 _ _ itd (b5 _ _ itL (b4 _ _ itL (E3 _ _ a1))), a2⟩
    · rw [upd_ne n2, upd_ne n1]; exact hm' y n1 n2
    · rw [putAll_take [] rows i kv hkv]; exact y6
end
end Mine
namespace Mine
theorem nameAt_inj : ∀ a < 5, ∀ b < 5, nameAt a = nameAt b → a = b := by decide +kernel
theorem nameAt_ok : ∀ k, PyData.strOk (nameAt k) = true
  | 0 => by decide +kernel
  | 1 => by decide +kernel
  | 2 => by decide +kernel
  | 3 => by decide +kernel
  | _ + 4 => (by decide +kernel : PyData.strOk (nameAt 4) = true)
abbrev five : List Str := [nameAt 0, nameAt 1, nameAt 2, nameAt 3, nameAt 4]
theorem nameAt_five : ∀ k, nameAt k ∈ five
  | 0 => by simp
  | 1 => by simp
  | 2 => by simp
  | 3 => by simp
  | _ + 4 => by simp [nameAt]
theorem rowsN_lt (x : Int) : rowsN x < 3 := by
  have := Int.fmod_lt_of_pos (x.fdiv 10) (b := 3) (by decide)
  have := Int.fmod_nonneg_of_pos (x.fdiv 10) (b := 3) (by decide)
  simp only [rowsN]; omega
theorem rows_len (x : Int) : (rowsOf x).length ≤ 2 := by
  have := rowsN_lt x
  simp [rowsOf]; omega
theorem rows_nodup (x : Int) : ((rowsOf x).map (·.1)).Nodup := by
  have := rowsN_lt x
  have hn : rowsN x = 0 ∨ rowsN x = 1 ∨ rowsN x = 2 := by omega
  rcases hn with h | h | h
  · simp [rowsOf, h]
  · simp [rowsOf, h]
  · have e : rowsOf x = [rowAt x 0, rowAt x 1] := by simp [rowsOf, h, List.range_succ]
    rw [e]
    simp only [List.map_cons, List.map_nil, List.nodup_cons, List.mem_singleton, List.not_mem_nil, not_false_eq_true, List.nodup_nil, and_true]
    intro q
    have a0 := Int.fmod_nonneg_of_pos (x.fdiv 30 + 2 * ((0 : Nat) : Int)) (b := 5) (by decide)
    have a1 := Int.fmod_lt_of_pos (x.fdiv 30 + 2 * ((0 : Nat) : Int)) (b := 5) (by decide)
    have b0 := Int.fmod_nonneg_of_pos (x.fdiv 30 + 2 * ((1 : Nat) : Int)) (b := 5) (by decide)
    have b1 := Int.fmod_lt_of_pos (x.fdiv 30 + 2 * ((1 : Nat) : Int)) (b := 5) (by decide)
    have e2 := nameAt_inj _ (by omega) _ (by omega) q
    rw [Int.fmod_eq_emod_of_nonneg _ (by decide)] at a0 a1 e2
    rw [Int.fmod_eq_emod_of_nonneg _ (by decide)] at b0 b1
    rw [Int.fmod_eq_emod_of_nonneg _ (by decide)] at e2
    omega
theorem rows_ok (x : Int) : ∀ p ∈ rowsOf x, PyData.strOk p.1 = true := by
  intro p hp
  obtain ⟨i, _, rfl⟩ := List.mem_map.mp hp
  exact nameAt_ok _
theorem rows_five (x : Int) : ∀ p ∈ rowsOf x, p.1 ∈ five := by
  intro p hp
  obtain ⟨i, _, rfl⟩ := List.mem_map.mp hp
  exact nameAt_five _
end Mine
namespace Mine
section
variable {α β : Type} {c : Cx} {A : Around} {h : Heap} {env : Env}
theorem ns_ne {L a : Addr} {m : VMap} (N : h.Ns L m) (f : h.get? a = none) : a ≠ L := by
  rintro rfl; obtain ⟨_, _, _, z, _⟩ := N; rw [z] at f; cases f
theorem ns_nd {L a : Addr} {m : VMap} {o : Obj} (N : h.Ns L m) (e : h.get? a = some o) (nd : ∀ es ep, o.data ≠ .dict es ep) : a ≠ L := by
  rintro rfl
  obtain ⟨o', es', ep', z, z2, _⟩ := N
  rw [z] at e; cases e
  exact nd _ _ z2
/-- tuple(list) -/
theorem Go.tupleOf {l : Addr} {items : Array Value} {Q : Value → Heap → Prop} (hl : h.IsList l items) (hs : items.size ≤ 1000)
    (H : ∀ t h', h.get? t = none → Ext h h' → h'.get? t = some ⟨.type "tuple", none, .seq items 0, #[]⟩ → Q (.ref t) h') : Go c A (PySem.call (.type "tuple") [.ref l]) Q h := fun tk =>
  call_tuple_list hl (fun h' k => ⟨_, tk, rfl, H _ _ (Ext.fresh k (fresh_at h')) (fun b o e => Heap.get?_push_of_some _ (k b o e)) (Heap.get?_push_size _ rfl)⟩) (by rw [sizeLine_eq]; omega)
abbrev WalkOut (h : Heap) (l : Addr) (v : Value) (h' : Heap) : Prop := ∃ it, v = .ref it ∧ Ext h h' ∧ h.get? it = none ∧ h'.get? it = some (walkObj l 0)
theorem walk_out {h h' : Heap} {it l : Addr} {news : List (Addr × Obj)} (D : Mem h h' [] news) (m : (it, (⟨.type "list_iterator", none, .fields ⟨[.ref l, .int 0 0]⟩, #[]⟩ : Obj)) ∈ news) : WalkOut h l (.ref it) h' := ⟨it, rfl, mem_ext D, (D.nw _ m).2, (D.nw _ m).1⟩
local macro_rules | `(tactic| walk_at "e_mem") => `(tactic| repeat (first | exact List.Mem.head _ | apply List.Mem.tail))
local macro_rules | `(tactic| x_close) => `(tactic| exact ⟨_, _, rfl, walk_out (by assumption) (by walk_at "e_mem")⟩)
theorem iter_l {c : Cx} {h : Heap} {l : Addr} {items n od osl} (h1 : h.get? l = some ⟨.type "list", od, .seq items n, osl⟩) : Go c (AA 600 600) (PySem.call (.builtin "iter") [.ref l]) (WalkOut h l) h := fun tk => by
  x_run
end
end Mine
namespace Mine
section
variable {α β : Type} {c : Cx} {A : Around} {h : Heap} {env : Env}
theorem notSys_aux {a : Addr} {oc : Value} {od : Option Addr} {dat : Data} {osl : Array (Option Value)} (X : (Mine.hd.heap_39 c.w.params).In h) (e : (Mine.hd.heap_39 c.w.params).lookup 1 = some ⟨oc, od, dat, osl⟩) (f : h.get? a = none) : (a == sysModules) = false := by
  have := X _ _ e
  rw [beq_eq_false_iff_ne]
  intro q
  have q' : a = 1 := q
  subst q'
  rw [f] at this; cases this
theorem notSys {a : Addr} (X : (Mine.hd.heap_39 c.w.params).In h) (f : h.get? a = none) : (a == sysModules) = false := by
  refine' notSys_aux X ?e f
  case e => k_is
theorem five_ok {kvs : Rw} (x : ∀ p ∈ kvs, p.1 ∈ five) : KOk kvs := fun p hp => by
  have : ∀ s ∈ five, PyData.strOk s = true := by decide +kernel
  exact this _ (x p hp)
/-- what _law_other gives back -/
def OtherOut (g h : Heap) (v : Value) (h' : Heap) (th : Th) (wk : Option Addr) : Prop :=
  Ext h h' ∧ th.kvs.length ≤ 2 ∧ (th.kvs.map (·.1)).Nodup ∧ (∀ p ∈ th.kvs, p.1 ∈ five) ∧ (∀ b, .ref b = th.v → h.get? b = none) ∧ (∀ it, wk = some it → th.v = .ref it ∧ h.get? it = none) ∧
  ∀ g', Ext g g' → (∀ b o, wk ≠ some b → h.get? b = none → h'.get? b = some o → g'.get? b = some o) → HdAt g' v th ∧ ∀ h'', (∀ it, wk = some it → g'.get? it = none ∧ h''.get? it = h'.get? it) → Thing g' h'' th
abbrev NW (h h' : Heap) (wk : Option Addr) (g' : Heap) : Prop := ∀ b o, wk ≠ some b → h.get? b = none → h'.get? b = some o → g'.get? b = some o
theorem other_out {g h hF : Heap} {a ra : Addr} {th : Th} {wk : Option Addr} {n : Nat} (E : Ext h hF) (hl : th.kvs.length ≤ 2) (hn : (th.kvs.map (·.1)).Nodup) (hk : ∀ p ∈ th.kvs, p.1 ∈ five) (fr : h.get? a = none)
    (ht : hF.get? a = some ⟨.type "tuple", none, .seq #[th.v, .ref ra, .bool th.full, .bool th.shut] n, #[]⟩) (ha : wk ≠ some a) (hv : ∀ b, .ref b = th.v → h.get? b = none) (hw : ∀ it, wk = some it → th.v = .ref it ∧ h.get? it = none)
    (hr : ∀ g', Ext g g' → NW h hF wk g' → RowsAt g' ra th.kvs) (hth : ∀ g', Ext g g' → NW h hF wk g' → ∀ h'', (∀ it, wk = some it → g'.get? it = none ∧ h''.get? it = hF.get? it) → Thing g' h'' th) : OtherOut g h (.ref a) hF th wk :=
  ⟨E, hl, hn, hk, hv, hw, fun g' e nw => ⟨⟨a, ra, rfl, ⟨_, nw a _ ha fr ht, rfl, _, rfl⟩, hr g' e nw⟩, hth g' e nw⟩⟩
theorem other_spec {g : Heap} {x : Int} {t : Tok} {Q : Value → Heap → Prop} {l : List Env} (X : (Mine.hd.heap_39 c.w.params).In g) (G : Ext g h) (Cm : Calm g) (hA : A.handled = none) (hd : A.depth ≤ 390) (hf : A.frames = some l) (hu : A.units ≤ 300) (H : ∀ v h' th wk, OtherOut g h v h' th wk → Q v h') : Go c A (PySem.call (.ref 402) [.int x t]) Q h := by
  have X0 := X.keeps G
  walk_at "e_def"
  intro h₁ N E F
  replace N := ns_1 N
  have X1 := X0.keeps E
  refine Go.cons (Go.swap (names := [Str.ofString "kind", Str.ofString "rows"]) rfl (by kernel_rfl) hA ?_)
  refine Go.tuple (Go.spc (Go.binop ?_))
  walk_at "e_name"
  refine Go.constInt fun t1 => Go.mod (by decide) fun t2 => ?_
  refine Go.spc (Go.callE rfl rfl ?_)
  walk_at "e_name"
  refine Go.spc ?_
  walk_at "e_name"
  refine Go.spn ⟨keep_K X1 (by k_is), ?_⟩
  refine rows_spec X (G.trans E) Cm hA (by show A.depth + 1 ≤ 400; omega) (by show A.frames.map _ = _; rw [hf]; rfl) fun ra h₂ E2 hR fr => ?_
  refine Go.spn ⟨Nat.le_of_ble_eq_true rfl, ?_⟩
  refine ⟨_, _, rfl, ⟨_, Heap.get?_push_size _ rfl, rfl, _, rfl⟩, rfl, fun h₃ E3 => ?_⟩
  have E2' : Ext h₂ h₃ := fun b o e => E3 _ _ (Heap.get?_push_of_some _ e)
  have N3 := ns_keeps N (E2.trans E2')
  refine Go.aiocons (Go.bindName (Go.stl rfl (by kernel_rfl) N3 fun h₄ N4 s4 => ?_))
  refine Go.aiocons (Go.bindName (Go.stl rfl (by kernel_rfl) N4 fun h₅ N5 s5 => ?_))
  refine Go.aionil ?_
  dsimp only
  have E5 : Ext h h₅ := ((E.trans (E2.trans E2')).thru (but_of_same s4) F).thru (but_of_same s5) F
  have X5 := X0.keeps E5
  refine Go.cons (Go.iff (Go.tcmp ?_))
  walk_at "e_name"
  refine Go.constInt fun t3 => Go.eqInt (Go.truthyBool ?_)
  by_cases k0 : (x.fmod 10 == 0) = true
  · rw [if_pos k0]
    refine Go.cons (Go.ret (Go.tuple (Go.spc (Go.constNone (Go.spc (Go.list (Go.spn ⟨Nat.le_of_ble_eq_true rfl, ?_⟩)))))))
    refine Go.spc (Go.constBool (Go.spc (Go.constBool (Go.spn ⟨Nat.le_of_ble_eq_true rfl, ?_⟩))))
    have f6 : h.get? h₅.objs.size = none := E5.fresh (fresh_at h₅)
    have E6 : Ext h (h₅.push ⟨.type "list", none, .seq #[], #[]⟩) := E5.push _
    refine H _ _ ⟨.none, [], false, false⟩ none (other_out (E6.push _) (by simp) (by simp) (fun p hp => by simp at hp) (E6.fresh (fresh_at _)) (Heap.get?_push_size _ rfl) (by simp) (fun b e => by cases e) (fun it e => by cases e) (fun g' e nw => ⟨[], ⟨_, nw _ _ (by simp) f6 (Heap.get?_push_of_some _ (Heap.get?_push_size _ rfl)), rfl, _, rfl⟩, .nil⟩) (fun g' e nw h'' z => .none))
  · rw [if_neg k0]
    refine Go.nil ?_
    dsimp only
    refine Go.cons (Go.iff (Go.tcmp ?_))
    walk_at "e_name"
    refine Go.constInt fun t3 => Go.eqInt (Go.truthyBool ?_)
    by_cases k1 : (x.fmod 10 == 1) = true
    · rw [if_pos k1]
      refine Go.cons (Go.ret (Go.tuple (Go.spc (Go.dict0 (Go.spc (Go.list (Go.spn ⟨Nat.le_of_ble_eq_true rfl, ?_⟩)))))))
      refine Go.spc (Go.constBool (Go.spc (Go.constBool (Go.spn ⟨Nat.le_of_ble_eq_true rfl, ?_⟩))))
      have f6 : h.get? h₅.objs.size = none := E5.fresh (fresh_at h₅)
      have E6 : Ext h (h₅.push ⟨.type "dict", none, .dict #[] 0, #[]⟩) := E5.push _
      have f7 := E6.fresh (fresh_at _)
      have E7 := E6.push ⟨.type "list", none, .seq #[], #[]⟩
      refine H _ _ ⟨.ref h₅.objs.size, [], false, false⟩ none (other_out (E7.push _) (by simp) (by simp) (fun p hp => by simp at hp) (E7.fresh (fresh_at _)) (Heap.get?_push_size _ rfl) (by simp) (fun b e => by cases e; exact f6) (fun it e => by cases e) (fun g' e nw => ⟨[], ⟨_, nw _ _ (by simp) f7 (Heap.get?_push_of_some _ (Heap.get?_push_size _ rfl)), rfl, _, rfl⟩, .nil⟩) (fun g' e nw h'' z => ?_))
      exact Thing.dict (nw _ _ (by simp) f6 (Heap.get?_push_of_some _ (Heap.get?_push_of_some _ (Heap.get?_push_size _ rfl)))) .d .nil (notSys X0 f6)
    · rw [if_neg k1]
      refine Go.nil ?_
      dsimp only
      refine Go.cons (Go.iff (Go.tcmp ?_))
      walk_at "e_name"
      refine Go.constInt fun t3 => Go.eqInt (Go.truthyBool ?_)
      by_cases k2 : (x.fmod 10 == 2) = true
      · rw [if_pos k2]
        refine Go.cons (Go.ret (Go.tuple (Go.spc (Go.callE rfl rfl ?_))))
        walk_at "e_name"
        refine Go.spn ⟨keep_K X5 (by k_is), ?_⟩
        refine Go.mono (Go.up (imm_nil X5) hA (by show A.depth + 1 ≤ 600; omega) (by show A.units + 3 ≤ 600; omega)) ?_
        rintro v h₆ ⟨r, xd, ep, rfl, E6', fr', fxd', hr', hxd'⟩
        refine Go.spc (Go.list (Go.spn ⟨Nat.le_of_ble_eq_true rfl, ?_⟩))
        refine Go.spc (Go.constBool (Go.spc (Go.constBool (Go.spn ⟨Nat.le_of_ble_eq_true rfl, ?_⟩))))
        have E6 := E5.trans E6'
        have f6 : h.get? r = none := E5.fresh fr'
        have f6d : h.get? xd = none := E5.fresh fxd'
        have f7 := E6.fresh (fresh_at _)
        have E7 := E6.push ⟨.type "list", none, .seq #[], #[]⟩
        refine H _ _ ⟨.ref r, [], false, true⟩ none (other_out (E7.push _) (by simp) (by simp) (fun p hp => by simp at hp) (E7.fresh (fresh_at _)) (Heap.get?_push_size _ rfl) (by simp) (fun b e => by cases e; exact f6) (fun it e => by cases e) (fun g' e nw => ⟨[], ⟨_, nw _ _ (by simp) f7 (Heap.get?_push_of_some _ (Heap.get?_push_size _ rfl)), rfl, _, rfl⟩, .nil⟩) (fun g' e nw h'' z => ?_))
        have := Thing.dict (g := g') (h := h'') (nw _ _ (by simp) f6 (Heap.get?_push_of_some _ (Heap.get?_push_of_some _ hr'))) (.i (nw _ _ (by simp) f6d (Heap.get?_push_of_some _ (Heap.get?_push_of_some _ hxd')))) .nil (notSys X0 f6)
        simpa using this
      · rw [if_neg k2]
        refine Go.nil ?_
        dsimp only
        refine Go.cons (Go.swap (names := [Str.ofString "plain", Str.ofString "full"]) rfl (by kernel_rfl) hA ?_)
        refine Go.tuple (Go.spc (Go.dict0 (Go.spc (Go.cmp (Go.callE rfl rfl ?_)))))
        have f6 : h.get? h₅.objs.size = none := E5.fresh (fresh_at h₅)
        generalize hp : h₅.objs.size = p at f6
        generalize hh6 : h₅.push ⟨.type "dict", none, .dict #[] 0, #[]⟩ = h₆
        have E56 : Ext h₅ h₆ := by rw [← hh6]; exact fun b o e => Heap.get?_push_of_some _ e
        have hp6 : h₆.get? p = some ⟨.type "dict", none, .dict #[] 0, #[]⟩ := by rw [← hh6, ← hp]; exact Heap.get?_push_size _ rfl
        have X6 := X5.keeps E56
        have N6 := ns_keeps N5 E56
        walk_at "e_name"
        refine Go.spc ?_
        walk_at "e_name"
        refine Go.spn ⟨keep_plain (fun a e => by cases e), ?_⟩
        have nL : ∀ b o, h₁.get? b = none → h₂.get? b = some o → h₅.get? b = some o := fun b o n e => by
          have bL : b ≠ h.objs.size := by intro q; subst q; obtain ⟨_, _, _, z, _⟩ := N; rw [z] at n; cases n
          exact but_of_same s5 _ _ bL (but_of_same s4 _ _ bL (E2' _ _ e))
        have R5 : RowsAt h₅ ra (rowsOf x) := hR h₅ (G.trans E5) fun b o n e => nL b o n e
        obtain ⟨vs, hl5, rs5⟩ := R5
        have rl := rs5.length
        have rn := rows_len x
        refine Go.lenList (hl5.at fun o e => E56 _ _ e) (by rw [List.size_toArray]; omega) fun t4 => ?_
        refine Go.constInt fun t5 => Go.gtInt ?_
        rw [show decide ((0 : Int) < (vs.toArray.size : Int)) = !(rowsOf x).isEmpty by
          rw [List.size_toArray, rl]
          cases rowsOf x <;> simp <;> omega]
        refine Go.spn ⟨Nat.le_of_ble_eq_true rfl, ?_⟩
        refine ⟨_, _, rfl, ⟨_, Heap.get?_push_size _ rfl, rfl, _, rfl⟩, rfl, fun h₇ E67 => ?_⟩
        have E67' : Ext h₆ h₇ := fun b o e => E67 _ _ (Heap.get?_push_of_some _ e)
        have N7 := ns_keeps N6 E67'
        refine Go.aiocons (Go.bindName (Go.stl rfl (by kernel_rfl) N7 fun h₈ N8 s8 => ?_))
        refine Go.aiocons (Go.bindName (Go.stl rfl (by kernel_rfl) N8 fun h₉ N9 s9 => ?_))
        refine Go.aionil ?_
        dsimp only
        -- the plain dictionary is filled
        have N5' : h₅.Ns h.objs.size _ := N5
        have raL : ra ≠ h.objs.size := ns_ne N fr
        have pL : p ≠ h.objs.size := ns_ne N5' (by rw [← hp]; exact fresh_at h₅)
        have k59 : ∀ b o, b ≠ h.objs.size → h₅.get? b = some o → h₉.get? b = some o := fun b o n e => but_of_same s9 _ _ n (but_of_same s8 _ _ n (E67' _ _ (E56 _ _ e)))
        have nd59 : ∀ a o, h₅.get? a = some o → (∀ es ep, o.data ≠ .dict es ep) → h₉.get? a = some o := fun a o e nd => k59 a o (ns_nd N5' e nd) e
        have E9 : Ext h h₉ := fun b o e => k59 b o (by rintro rfl; rw [F] at e; cases e) (E5 _ _ e)
        have hp9 : h₉.get? p = some ⟨.type "dict", none, .dict #[] 0, #[]⟩ := but_of_same s9 _ _ pL (but_of_same s8 _ _ pL (E67' _ _ hp6))
        refine Go.cons (Go.forFill (g := h) (d := p) (cls := .type "dict") (dct := none) (.inl rfl) X0 f6 F pL rfl (by kernel_rfl) (by kernel_rfl) (by kernel_rfl) (by decide +kernel) (by decide +kernel) (by decide +kernel) (by kernel_rfl) (by kernel_rfl) (by kernel_rfl) hA ?_)
        walk_at "e_name"
        refine ⟨ra, vs, rowsOf x, _, _, _, rfl, E9, list_under hl5 nd59, rs5.under nd59, by omega, N9, by walk_at "e_mv", hp9, rfl, fun hX es1 ep1 m1 K1 hp1 y1 N1 hm1 => ?_⟩
        dsimp only
        have v_kind : m1 (Str.ofString "kind") = some (.int (x.fmod 10) t2) := (hm1 _ (by decide +kernel) (by decide +kernel)).trans (by walk_at "e_mv")
        have v_rows : m1 (Str.ofString "rows") = some (.ref ra) := (hm1 _ (by decide +kernel) (by decide +kernel)).trans (by walk_at "e_mv")
        have v_plain : m1 (Str.ofString "plain") = some (.ref p) := (hm1 _ (by decide +kernel) (by decide +kernel)).trans (by walk_at "e_mv")
        have v_full : m1 (Str.ofString "full") = some (.bool (!(rowsOf x).isEmpty)) := (hm1 _ (by decide +kernel) (by decide +kernel)).trans (by walk_at "e_mv")
        have N1' : hX.Ns h.objs.size m1 := N1
        have kX : ∀ b o, b ≠ p → b ≠ h.objs.size → h₅.get? b = some o → hX.get? b = some o := fun b o n1 n2 e => K1 b o n1 n2 (k59 b o n2 e)
        have fp5 : h₅.get? p = none := by rw [← hp]; exact fresh_at h₅
        have EX : Ext h hX := fun b o e => kX b o (fun q => by subst q; rw [f6] at e; cases e) (fun q => by subst q; rw [F] at e; cases e) (E5 _ _ e)
        have XX := X0.keeps EX
        have rnd := rows_nodup x
        rw [putAll_nil rnd] at y1
        have ndX : ∀ a o, h₅.get? a = some o → (∀ es ep, o.data ≠ .dict es ep) → hX.get? a = some o := fun a o e nd => kX a o (fun q => by subst q; rw [fp5] at e; cases e) (ns_nd N5' e nd) e
        have hlX := list_under hl5 ndX
        have pS : (p == sysModules) = false := notSys X0 f6
        have finish : ∀ hF v full shut wk, (∀ b o, b ≠ p → b ≠ h.objs.size → h₅.get? b = some o → hF.get? b = some o) → (∀ b, .ref b = v → h.get? b = none) → (∀ it, wk = some it → v = .ref it ∧ h₅.get? it = none ∧ ∃ o, hF.get? it = some o) →
            (∀ g', Ext g g' → NW h hF wk g' → RowsAt g' ra (rowsOf x) → ∀ h'', (∀ it, wk = some it → g'.get? it = none ∧ h''.get? it = hF.get? it) → Thing g' h'' ⟨v, rowsOf x, full, shut⟩) →
            Q (.ref hF.objs.size) (hF.push ⟨.type "tuple", none, .seq #[v, .ref ra, .bool full, .bool shut], #[]⟩) := by
          intro hF v full shut wk kF hv hw hth
          have EF : Ext h hF := fun b o e => kF b o (fun q => by subst q; rw [f6] at e; cases e) (fun q => by subst q; rw [F] at e; cases e) (E5 _ _ e)
          have nwF : ∀ g', NW h (hF.push ⟨.type "tuple", none, .seq #[v, .ref ra, .bool full, .bool shut], #[]⟩) wk g' → NW h hF wk g' := fun g' nw b o w n e => nw b o w n (Heap.get?_push_of_some _ e)
          have rowsG : ∀ g', Ext g g' → NW h hF wk g' → RowsAt g' ra (rowsOf x) := fun g' eg nw => hR g' eg fun b o n e => by
            have e5 := nL b o n e
            refine nw b o ?_ (E.fresh n) (kF b o ?_ (ns_ne N n) e5)
            · intro q
              have := (hw b q).2.1
              rw [e5] at this; cases this
            · rintro rfl
              rw [fp5] at e5; cases e5
          refine H _ _ ⟨v, rowsOf x, full, shut⟩ wk (other_out (EF.push _) (rows_len x) rnd (rows_five x) (EF.fresh (fresh_at hF)) (Heap.get?_push_size _ rfl) ?_ hv (fun it e => ⟨(hw it e).1, E5.fresh (hw it e).2.1⟩) (fun g' eg nw => rowsG g' eg (nwF g' nw)) fun g' eg nw h'' z => hth g' eg (nwF g' nw) (rowsG g' eg (nwF g' nw)) h'' fun it e => ?_)
          · intro q
            obtain ⟨_, _, o, z⟩ := hw _ q
            exact absurd (Heap.lt_size z) (Nat.lt_irrefl _)
          · obtain ⟨_, _, o, z2⟩ := hw _ e
            exact ⟨(z it e).1, (z it e).2.trans ((Heap.get?_push_of_some _ z2).trans z2.symm)⟩
        have rsG : ∀ hF wk, (∀ b o, b ≠ p → b ≠ h.objs.size → h₅.get? b = some o → hF.get? b = some o) → (∀ it, wk = some it → h₅.get? it = none) → ∀ g', NW h hF wk g' → RowsAt g' ra (rowsOf x) → Rs g' vs (rowsOf x) ∧ g'.IsList ra vs.toArray := by
          intro hF wk kF hw g' nw ⟨vs', ⟨o', e', c', n', d'⟩, r'⟩
          obtain ⟨o, e, c, n, d⟩ := id hl5
          have raP : ra ≠ p := by rintro rfl; rw [fp5] at e; cases e
          have z := nw ra o (by intro q; rw [hw _ q] at e; cases e) (E.fresh fr) (kF ra o raP raL e)
          rw [z] at e'; cases e'
          have l' : g'.IsList ra vs.toArray := ⟨_, z, c, n, d⟩
          rw [d] at d'; cases d'
          exact ⟨r', l'⟩
        refine Go.cons (Go.iff (Go.tcmp ?_))
        walk_at "e_name"
        refine Go.constInt fun t6 => Go.eqInt (Go.truthyBool ?_)
        by_cases k3 : (x.fmod 10 == 3) = true
        · rw [if_pos k3]
          refine Go.cons (Go.ret (Go.tuple (Go.spc ?_)))
          walk_at "e_name"
          refine Go.spc ?_
          walk_at "e_name"
          refine Go.spc ?_
          walk_at "e_name"
          refine Go.spc (Go.constBool (Go.spn ⟨Nat.le_of_ble_eq_true rfl, ?_⟩))
          refine finish hX (.ref p) _ false none kX (fun b e => by cases e; exact f6) (fun it e => by cases e) fun g' eg nw rg h'' z => ?_
          exact Thing.dict (nw p _ (by simp) f6 hp1) .d y1 pS
        rw [if_neg k3]
        refine Go.nil ?_
        dsimp only
        refine Go.cons (Go.iff (Go.tcmp ?_))
        walk_at "e_name"
        refine Go.constInt fun t6 => Go.eqInt (Go.truthyBool ?_)
        by_cases k4 : (x.fmod 10 == 4) = true
        · rw [if_pos k4]
          refine Go.cons (Go.ret (Go.tuple (Go.spc (Go.callE rfl rfl ?_))))
          walk_at "e_name"
          refine Go.spc ?_
          walk_at "e_name"
          refine Go.spn ⟨keep_K XX (by k_is), ?_⟩
          refine Go.immOf XX hp1 y1 pS (by have := rows_len x; omega) hA (by show A.depth + 1 ≤ 600; omega) (by show A.units + 3 ≤ 600; omega) fun i xd hI es2 ep2 E2 fi fxd hi y2 hxd => ?_
          have N2 := ns_keeps N1' E2
          rw [putAll_nil rnd] at y2
          refine Go.spc ?_
          walk_at "e_name"
          refine Go.spc ?_
          walk_at "e_name"
          refine Go.spc (Go.constBool (Go.spn ⟨Nat.le_of_ble_eq_true rfl, ?_⟩))
          have fi0 : h.get? i = none := EX.fresh fi
          refine finish hI (.ref i) _ true none (fun b o n1 n2 e => E2 _ _ (kX b o n1 n2 e)) (fun b e => by cases e; exact fi0) (fun it e => by cases e) fun g' eg nw rg h'' z => ?_
          have := Thing.dict (g := g') (h := h'') (nw i _ (by simp) fi0 hi) (.i (nw xd _ (by simp) (EX.fresh fxd) hxd)) y2 (notSys X0 fi0)
          simpa using this
        rw [if_neg k4]
        refine Go.nil ?_
        dsimp only
        refine Go.cons (Go.iff (Go.tcmp ?_))
        walk_at "e_name"
        refine Go.constInt fun t6 => Go.eqInt (Go.truthyBool ?_)
        by_cases k5 : (x.fmod 10 == 5) = true
        · rw [if_pos k5]
          refine Go.cons (Go.ret (Go.tuple (Go.spc (Go.callE rfl rfl ?_))))
          walk_at "e_name"
          refine Go.spc ?_
          walk_at "e_name"
          refine Go.spn ⟨keep_plain (fun a e => by cases e), ?_⟩
          obtain ⟨ol, hol, hcl, nl, hdl⟩ := hlX
          refine Go.listSeq' (.inl rfl) hol hcl hdl (by rw [List.size_toArray]; omega) fun l2 hI fl2 E2 ⟨nn, hl2⟩ => ?_
          have N2 := ns_keeps N1' E2
          refine Go.spc ?_
          walk_at "e_name"
          refine Go.spc ?_
          walk_at "e_name"
          refine Go.spc (Go.constBool (Go.spn ⟨Nat.le_of_ble_eq_true rfl, ?_⟩))
          have fi0 : h.get? l2 = none := EX.fresh fl2
          refine finish hI (.ref l2) _ false none (fun b o n1 n2 e => E2 _ _ (kX b o n1 n2 e)) (fun b e => by cases e; exact fi0) (fun it e => by cases e) fun g' eg nw rg h'' z => ?_
          exact Thing.list (nw l2 _ (by simp) fi0 hl2) (rsG hI none (fun b o n1 n2 e => E2 _ _ (kX b o n1 n2 e)) (fun it e => by cases e) g' nw rg).1
        rw [if_neg k5]
        refine Go.nil ?_
        dsimp only
        refine Go.cons (Go.iff (Go.tcmp ?_))
        walk_at "e_name"
        refine Go.constInt fun t6 => Go.eqInt (Go.truthyBool ?_)
        by_cases k6 : (x.fmod 10 == 6) = true
        · rw [if_pos k6]
          refine Go.cons (Go.ret (Go.tuple (Go.spc (Go.callE rfl rfl ?_))))
          walk_at "e_name"
          refine Go.spc ?_
          walk_at "e_name"
          refine Go.spn ⟨keep_plain (fun a e => by cases e), ?_⟩
          refine Go.tupleOf hlX (by rw [List.size_toArray]; omega) fun l2 hI fl2 E2 hl2 => ?_
          have N2 := ns_keeps N1' E2
          refine Go.spc ?_
          walk_at "e_name"
          refine Go.spc ?_
          walk_at "e_name"
          refine Go.spc (Go.constBool (Go.spn ⟨Nat.le_of_ble_eq_true rfl, ?_⟩))
          have fi0 : h.get? l2 = none := EX.fresh fl2
          refine finish hI (.ref l2) _ false none (fun b o n1 n2 e => E2 _ _ (kX b o n1 n2 e)) (fun b e => by cases e; exact fi0) (fun it e => by cases e) fun g' eg nw rg h'' z => ?_
          exact Thing.tuple (nw l2 _ (by simp) fi0 hl2) (rsG hI none (fun b o n1 n2 e => E2 _ _ (kX b o n1 n2 e)) (fun it e => by cases e) g' nw rg).1
        rw [if_neg k6]
        refine Go.nil ?_
        dsimp only
        refine Go.cons (Go.iff (Go.tcmp ?_))
        walk_at "e_name"
        refine Go.constInt fun t6 => Go.eqInt (Go.truthyBool ?_)
        by_cases k7 : (x.fmod 10 == 7) = true
        · rw [if_pos k7]
          refine Go.cons (Go.ret (Go.tuple (Go.spc (Go.callE rfl rfl ?_))))
          walk_at "e_name"
          refine Go.spc ?_
          walk_at "e_name"
          refine Go.spn ⟨keep_K XX (by k_is), ?_⟩
          refine Go.mono (Go.up (prop_new (p := p) XX) hA (by show A.depth + 1 ≤ 600; omega) (by show A.units + 3 ≤ 600; omega)) ?_
          rintro v hI ⟨i, xd, rfl, E2, fi, fxd, hi, hxd⟩
          have N2 := ns_keeps N1' E2
          refine Go.spc ?_
          walk_at "e_name"
          refine Go.spc ?_
          walk_at "e_name"
          refine Go.spc (Go.constBool (Go.spn ⟨Nat.le_of_ble_eq_true rfl, ?_⟩))
          have fi0 : h.get? i = none := EX.fresh fi
          refine finish hI (.ref i) _ false none (fun b o n1 n2 e => E2 _ _ (kX b o n1 n2 e)) (fun b e => by cases e; exact fi0) (fun it e => by cases e) fun g' eg nw rg h'' z => ?_
          exact Thing.props ⟨nw i _ (by simp) fi0 hi, nw xd _ (by simp) (EX.fresh fxd) hxd, ⟨_, _, nw p _ (by simp) f6 (E2 _ _ hp1), y1⟩, by simpa using pS⟩
        rw [if_neg k7]
        refine Go.nil ?_
        dsimp only
        refine Go.cons (Go.iff (Go.tcmp ?_))
        walk_at "e_name"
        refine Go.constInt fun t6 => Go.eqInt (Go.truthyBool ?_)
        by_cases k8 : (x.fmod 10 == 8) = true
        · rw [if_pos k8]
          refine Go.cons (Go.asg (Go.callE rfl rfl ?_))
          walk_at "e_name"
          refine Go.spc ?_
          walk_at "e_name"
          refine Go.spn ⟨keep_K XX (by k_is), ?_⟩
          refine Go.mono (Go.up (pop_new XX) hA (by show A.depth + 1 ≤ 600; omega) (by show A.units + 3 ≤ 600; omega)) ?_
          rintro v hI ⟨i, xd, hs, tc, ep2, epx, rfl, E2, fi, fxd, hi, hxd⟩
          have N2 := ns_keeps N1' E2
          refine Go.stl rfl (by kernel_rfl) N2 fun hJ NJ sJ => ?_
          dsimp only
          have fi0 : h.get? i = none := EX.fresh fi
          have iL : i ≠ h.objs.size := ns_ne N1' fi
          have xL : xd ≠ h.objs.size := ns_ne N1' fxd
          have xi : xd ≠ i := by rintro rfl; rw [hi] at hxd; cases hxd
          have hiJ := but_of_same sJ _ _ iL hi
          have hxdJ := but_of_same sJ _ _ xL hxd
          have kJ : ∀ b o, b ≠ p → b ≠ h.objs.size → h₅.get? b = some o → hJ.get? b = some o := fun b o n1 n2 e => but_of_same sJ _ _ n2 (E2 _ _ (kX b o n1 n2 e))
          have EJ : Ext h hJ := (EX.trans E2).thru (but_of_same sJ) F
          have ndJ : ∀ a o, h₅.get? a = some o → (∀ es ep, o.data ≠ .dict es ep) → hJ.get? a = some o := fun a o e nd => kJ a o (fun q => by subst q; rw [fp5] at e; cases e) (ns_nd N5' e nd) e
          refine Go.cons (Go.forFill (g := h) (d := i) (cls := .ref 378) (dct := some xd) (.inr rfl) X0 fi0 F iL rfl (by kernel_rfl) (by kernel_rfl) (by kernel_rfl) (by decide +kernel) (by decide +kernel) (by decide +kernel) (by kernel_rfl) (by kernel_rfl) (by kernel_rfl) hA ?_)
          walk_at "e_name"
          refine ⟨ra, vs, rowsOf x, _, _, _, rfl, EJ, list_under hl5 ndJ, rs5.under ndJ, by omega, NJ, by walk_at "e_mv", hiJ, rfl, fun hK es3 ep3 m3 K3 hi3 y3 N3 hm3 => ?_⟩
          dsimp only
          rw [putAll_nil rnd] at y3
          have w_rows : m3 (Str.ofString "rows") = some (.ref ra) := (hm3 _ (by decide +kernel) (by decide +kernel)).trans (by walk_at "e_mv")
          have w_made : m3 (Str.ofString "made") = some (.ref i) := (hm3 _ (by decide +kernel) (by decide +kernel)).trans (by walk_at "e_mv")
          have w_full : m3 (Str.ofString "full") = some (.bool (!(rowsOf x).isEmpty)) := (hm3 _ (by decide +kernel) (by decide +kernel)).trans (by walk_at "e_mv")
          refine Go.cons (Go.ret (Go.tuple (Go.spc ?_)))
          walk_at "e_name"
          refine Go.spc ?_
          walk_at "e_name"
          refine Go.spc ?_
          walk_at "e_name"
          refine Go.spc (Go.constBool (Go.spn ⟨Nat.le_of_ble_eq_true rfl, ?_⟩))
          have kK : ∀ b o, b ≠ p → b ≠ h.objs.size → h₅.get? b = some o → hK.get? b = some o := fun b o n1 n2 e => K3 b o (fun q => by subst q; have := kX _ _ n1 n2 e; rw [fi] at this; cases this) n2 (kJ b o n1 n2 e)
          refine finish hK (.ref i) _ false none kK (fun b e => by cases e; exact fi0) (fun it e => by cases e) fun g' eg nw rg h'' z => ?_
          exact Thing.dict (nw i _ (by simp) fi0 hi3) (.p (nw xd _ (by simp) (EX.fresh fxd) (K3 xd _ xi xL hxdJ))) y3 (notSys X0 fi0)
        rw [if_neg k8]
        refine Go.nil ?_
        dsimp only
        refine Go.cons (Go.ret (Go.tuple (Go.spc (Go.callE rfl rfl ?_))))
        walk_at "e_name"
        refine Go.spc ?_
        walk_at "e_name"
        refine Go.spn ⟨keep_plain (fun a e => by cases e), ?_⟩
        obtain ⟨⟨oc, od, dat, osl⟩, hol, hcl, nl, hdl⟩ := id hlX
        cases hcl
        cases hdl
        refine Go.mono (Go.up (iter_l hol) hA (by show A.depth + 1 ≤ 600; omega) (by show A.units + 3 ≤ 600; omega)) ?_
        rintro v hI ⟨it, rfl, E2, fi, hi⟩
        have N2 := ns_keeps N1' E2
        refine Go.spc ?_
        walk_at "e_name"
        refine Go.spc (Go.constBool (Go.spc (Go.constBool (Go.spn ⟨Nat.le_of_ble_eq_true rfl, ?_⟩))))
        have f5 : h₅.get? it = none := by
          cases q : h₅.get? it with
          | none => rfl
          | some o =>
            have := kX it o (by rintro rfl; rw [hp1] at fi; cases fi) (ns_ne N1' fi) q
            rw [fi] at this; cases this
        refine finish hI (.ref it) true false (some it) (fun b o n1 n2 e => E2 _ _ (kX b o n1 n2 e)) (fun b e => by cases e; exact EX.fresh fi) (fun it' e => by cases e; exact ⟨rfl, f5, _, hi⟩) fun g' eg nw rg h'' z => ?_
        have rr := rsG hI (some it) (fun b o n1 n2 e => E2 _ _ (kX b o n1 n2 e)) (fun it' e => by cases e; exact f5) g' nw rg
        exact Thing.iter rr.2 rr.1 (z it rfl).1 ((z it rfl).2.trans hi)
end
end Mine
namespace Mine
section
variable {α β : Type} {c : Cx} {A : Around} {h : Heap} {env : Env}
/-- dict(rows) -/
theorem Go.dictOf {l : Addr} {kvs : Rw} {Q : Value → Heap → Prop} (X : (Mine.hd.heap_39 c.w.params).In h) (hl : RowsX h l kvs) (hm : kvs.length ≤ 8) (hA : A.handled = none)
    (H : ∀ d h' es ep, h.get? d = none → Ext h h' → h'.get? d = some ⟨.type "dict", none, .dict es ep, #[]⟩ → Ents es.toList (putAll [] kvs) → Q (.ref d) h') : Go c A (PySem.call (.type "dict") [.ref l]) Q h := by
  obtain ⟨vs, n, hl, hr⟩ := hl
  intro tk
  refine callType_codes (Q₁ := fun obj s₁ => obj = .ref h.objs.size ∧ s₁ = ⟨h.push ⟨.type "dict", none, .dict #[] 0, #[]⟩, c.g, c.d, tk, c.os⟩) F.kt_called_dict (F.kt_typeCall_dict_1 _) F.entry_dict_init (kt_code_dict_new _ ⟨rfl, rfl⟩) ?_
  rintro obj s₁ ⟨rfl, rfl⟩
  refine ⟨⟨_, Heap.get?_push_size _ rfl, rfl⟩, F.args_dict_init_2 _ _, ?_⟩
  have fr := fresh_at h
  have E0 : Ext h (h.push ⟨.type "dict", none, .dict #[] 0, #[]⟩) := fun b o e => Heap.get?_push_of_some _ e
  have hd : (h.push ⟨.type "dict", none, .dict #[] 0, #[]⟩).get? h.objs.size = some ⟨.type "dict", none, .dict #[] 0, #[]⟩ := Heap.get?_push_size _ rfl
  generalize h.objs.size = d at fr hd
  generalize h.push ⟨.type "dict", none, .dict #[] 0, #[]⟩ = h1 at E0 hd
  have key : Go c A.in1.in1 (Builtin.«dict.__init__» ⟨[.ref d, .ref l], []⟩) (fun fin h' => ∃ k', fin = .again k' ∧ k'.quiet = true ∧ GoC c A.in1 k' (fun f h'' => f = .ret .none ∧ Q (.ref d) h'') h') h1 := by
    have X1 := X.keeps E0
    unfold Builtin.«dict.__init__»
    refine Go.bind ?_
    unfold Builtin.Dict.selfAndRest
    refine Go.bind (Go.notOrdered X1 hd .d ?_)
    show Go c A.in1.in1 (Pure.pure (d, [Value.ref l])) _ h1
    refine Go.pure ?_
    show Go c A.in1.in1 (Builtin.Dict.updateFrom "dict.__init__" d (.ref l) [] .none) _ h1
    unfold Builtin.Dict.updateFrom
    have hl1 := E0 _ _ hl
    refine Go.bind (Go.looks (dc_type hl1) ?_)
    rw [if_pos (by simp)]
    refine Go.bind (Go.noKeys_list hA hl1 fun h2 E2 => ?_)
    rw [if_pos (show Option.isNone (none : Option Value) = true from rfl)]
    refine Go.bind (Go.rule (Go.bind ?_))
    refine Go.iterList (items := vs.toArray) ⟨_, E2 _ _ hl1, rfl, _, rfl⟩ fun h3 it E3 => ?_
    refine Go.pure ⟨_, rfl, plainId_quiet plain_update_loop _, ?_⟩
    have E03 : Ext h h3 := E0.trans (E2.trans E3)
    have fi : h1.get? h2.objs.size = none := E2.fresh (fresh_at h2)
    generalize h2.objs.size = i at it fi
    have W0 : Wk c A.in1.in1 (.Name (Str.ofString "v") default) i vs.toArray.size (fun i v => vs.toArray[i]? = some v) (Ext h) (fun j h => h.IsListIter i l j) := Wk.list (fun h' b => ⟨_, b _ _ hl, rfl, _, rfl⟩) hA
    refine GoC.updLoop (A := A.in1) (kvs := []) (Sp := fun _ => True) W0 (fun h Q b st k => Go.endList st ⟨_, b _ _ hl, rfl, _, rfl⟩ (by simp) (fun h' b' => k h' b' trivial) hA) (fun q => by subst q; rw [hd] at fi; cases fi) (fun i v h' b e => rs_item hr b e) (fun h' h'' b k => keep_g b fr (E0.fresh fi) k) (by simp) hm (by rw [List.size_toArray, hr.length]) (E3 _ _ (E2 _ _ hd)) .nil E03 it fun h' es' ep' a b k sp => ⟨rfl, ?_⟩
    exact H d h' es' ep' fr (keep_g E03 fr (E0.fresh fi) k) a b
  refine wpAny_mono (key tk) (fun fin s' ⟨h', tk', e, k', e2, q, g⟩ => ?_) fun _ _ x => x.elim
  subst e e2
  refine ⟨q, codeAny_mono (g tk') fun r s'' z => ?_⟩
  cases r with
  | error e => exact z.elim
  | ok f =>
    obtain ⟨h'', t'', e, ef, q⟩ := z
    subst e ef
    exact ⟨rfl, h'', t'', rfl, q⟩
/-- xs.append, found -/
theorem gm_append {l : Addr} {items : Array Value} {pl : Sem Bool} {Q : Value × List Value → Heap → Prop} (hl : PlainL h l items) (H : Q (.builtin "list.append", [.ref l]) h) : Go c A (getMethod (.ref l) (Str.ofString "append") pl) Q h := fun tk => by
  obtain ⟨o, n, ho, hc, hd, _⟩ := hl
  exact getMethod_builtin ⟨o, ho, hc⟩ PySem.F.plainAttrs_list PySem.F.slot_list_append PySem.F.type_list_append (fun a e => by cases e; exact ⟨o, ho, hd⟩) ⟨_, _, rfl, H⟩
end
end Mine
namespace Mine
theorem Ks.append {vs kvs vs' kvs'} (x : Ks vs kvs) (y : Ks vs' kvs') : Ks (vs ++ vs') (kvs ++ kvs') := by
  induction x with
  | nil => exact y
  | cons _ ih => exact .cons ih
theorem Ks.put_old {vs kvs} (x : Ks vs kvs) {k : Str} {v : Int} (h : (at? kvs k).isSome = true) : Ks vs (put kvs k v) := by
  induction x with
  | nil => simp [at?] at h
  | @cons k' t v' vs kvs _ ih =>
    by_cases q : k' = k
    · subst q; simp only [put, if_pos]; exact .cons ‹_›
    · simp only [put, if_neg q]
      refine .cons (ih ?_)
      simpa [at?, List.find?_cons, q] using h
theorem put_fresh {kvs : Rw} {k : Str} {v : Int} (h : (at? kvs k).isSome = false) : put kvs k v = kvs ++ [(k, v)] := by
  induction kvs with
  | nil => rfl
  | cons p r ih =>
    obtain ⟨a, b⟩ := p
    by_cases q : a = k
    · simp [at?, q] at h
    · simp only [put, if_neg q, List.cons_append]
      rw [ih (by simpa [at?, List.find?_cons, q] using h)]
theorem put_keys {kvs : Rw} {k : Str} {v : Int} : ∀ {x}, x ∈ (put kvs k v).map (·.1) → x ∈ kvs.map (·.1) ∨ x = k := by
  induction kvs with
  | nil => intro x hx; simp [put] at hx; exact .inr hx
  | cons p r ih =>
    obtain ⟨a, b⟩ := p
    intro x hx
    by_cases q : a = k
    · simp only [put, if_pos q] at hx; exact .inl (by simpa using hx)
    · simp only [put, if_neg q, List.map_cons, List.mem_cons] at hx
      rcases hx with hx | hx
      · exact .inl (by simp [hx])
      · rcases ih hx with z | z
        · exact .inl (by simp only [List.map_cons, List.mem_cons]; exact .inr z)
        · exact .inr z
theorem put_nodup {kvs : Rw} {k : Str} {v : Int} (hn : (kvs.map (·.1)).Nodup) : ((put kvs k v).map (·.1)).Nodup := by
  induction kvs with
  | nil => simp [put]
  | cons p r ih =>
    obtain ⟨a, b⟩ := p
    simp only [List.map_cons, List.nodup_cons] at hn
    by_cases q : a = k
    · simp only [put, if_pos q, List.map_cons, List.nodup_cons]; exact hn
    · simp only [put, if_neg q, List.map_cons, List.nodup_cons]
      refine ⟨fun z => ?_, ih hn.2⟩
      rcases put_keys z with z | z
      · exact hn.1 z
      · exact q z
theorem putAll_nodup {a b : Rw} (hn : (a.map (·.1)).Nodup) : ((putAll a b).map (·.1)).Nodup := by
  induction b generalizing a with
  | nil => exact hn
  | cons p r ih => exact ih (put_nodup hn)
theorem joined_nodup {kvs : Rw} {ts : List Th} (hn : (kvs.map (·.1)).Nodup) : ((joined kvs ts).map (·.1)).Nodup := by
  induction ts generalizing kvs with
  | nil => exact hn
  | cons t r ih => exact ih (kvs := putAll kvs t.kvs) (putAll_nodup hn)
theorem putAll_five {S : List Str} {a b : Rw} (ha : ∀ p ∈ a, p.1 ∈ S) (hb : ∀ p ∈ b, p.1 ∈ S) : ∀ p ∈ putAll a b, p.1 ∈ S := by
  induction b generalizing a with
  | nil => exact ha
  | cons q r ih =>
    refine ih (a := put a q.1 q.2) (fun p hp => ?_) fun p hp => hb p (List.mem_cons_of_mem _ hp)
    rcases put_keys (List.mem_map_of_mem (f := (·.1)) hp) with z | z
    · obtain ⟨p', hp', e⟩ := List.mem_map.mp z
      have e' : p'.1 = p.1 := e
      rw [← e']; exact ha p' hp'
    · rw [z]; exact hb q List.mem_cons_self
theorem joined_five {S : List Str} {kvs : Rw} {ts : List Th} (ha : ∀ p ∈ kvs, p.1 ∈ S) (hb : ∀ t ∈ ts, ∀ p ∈ t.kvs, p.1 ∈ S) : ∀ p ∈ joined kvs ts, p.1 ∈ S := by
  induction ts generalizing kvs with
  | nil => exact ha
  | cons t r ih => exact ih (kvs := putAll kvs t.kvs) (putAll_five ha (hb t List.mem_cons_self)) fun s hs => hb s (List.mem_cons_of_mem _ hs)
section
variable {α β : Type} {c : Cx} {A : Around} {h : Heap} {env : Env}
/-- the state of _law_joined: the names, the plain dictionary -/
structure JS (hB hh : Heap) (L D d : Addr) (r : Rw) : Prop where
  keep : ∀ b o, b ≠ D → b ≠ d → b ≠ L → hB.get? b = some o → hh.get? b = some o
  ns : ∃ m : VMap, hh.Ns L m ∧ m (Str.ofString "names") = some (.ref D)
  nl : ∃ ys, PlainL hh D (List.toArray ys) ∧ Ks ys r
  dd : ∃ es ep, hh.get? d = some ⟨.type "dict", none, .dict es ep, #[]⟩ ∧ Ents es.toList r
theorem plain_but {hh h' : Heap} {a b : Addr} {items} (x : PlainL hh a items) (E : But b hh h') (n : a ≠ b) : PlainL h' a items := plainAt x fun o e => E _ _ n e
theorem JS.but {hB hh h' : Heap} {L D d b : Addr} {r : Rw} (x : JS hB hh L D d r) (E : But b hh h') (hb : hB.get? b = none) (bD : b ≠ D) (bd : b ≠ d) (bL : b ≠ L) : JS hB h' L D d r := by
  obtain ⟨m, N, hm⟩ := x.ns
  obtain ⟨ys, P, K⟩ := x.nl
  obtain ⟨es, ep, e, y⟩ := x.dd
  exact ⟨fun b' o n1 n2 n3 e => E b' o (fun q => by subst q; rw [hb] at e; cases e) (x.keep b' o n1 n2 n3 e), ⟨m, ns_but N E (Ne.symm bL), hm⟩, ⟨ys, plain_but P E (Ne.symm bD), K⟩, ⟨es, ep, E _ _ (Ne.symm bd) e, y⟩⟩
theorem JS.ext {hB hh h' : Heap} {L D d : Addr} {r : Rw} (x : JS hB hh L D d r) (E : Ext hh h') : JS hB h' L D d r := by
  obtain ⟨m, N, hm⟩ := x.ns
  obtain ⟨ys, P, K⟩ := x.nl
  obtain ⟨es, ep, e, y⟩ := x.dd
  exact ⟨fun b' o n1 n2 n3 e => E b' o (x.keep b' o n1 n2 n3 e), ⟨m, ns_keeps N E, hm⟩, ⟨ys, P.keeps E, K⟩, ⟨es, ep, E _ _ e, y⟩⟩
theorem JS.st {hB hh h' : Heap} {L D d : Addr} {r : Rw} {m' : VMap} (x : JS hB hh L D d r) (N : h'.Ns L m') (hm : m' (Str.ofString "names") = some (.ref D)) (E : But L hh h') (DL : D ≠ L) (dL : d ≠ L) : JS hB h' L D d r := by
  obtain ⟨ys, P, K⟩ := x.nl
  obtain ⟨es, ep, e, y⟩ := x.dd
  exact ⟨fun b' o n1 n2 n3 e => E b' o n3 (x.keep b' o n1 n2 n3 e), ⟨m', N, hm⟩, ⟨ys, plain_but P E DL, K⟩, ⟨es, ep, E _ _ dL e, y⟩⟩
/-- a, b = x, y where the stores run in order -/
theorem Go.asgPair {elts : List Expr} {k : Nat} {value : Expr} {p pos : Pos} {Q : Flow → Heap → Prop} (hs : swapsWithSole [.Tuple elts k p] value pos.line env = Pure.pure false) (hw : swappedStores [.Tuple elts k p] value env = Pure.pure none)
    (H : Go c A (eval value env) (fun v h₁ => Go c A (assign (.Tuple elts k p) env v) (fun _ h₂ => Q .next h₂) h₁) h) : Go c A (exec (.Assign [.Tuple elts k p] value pos) env) Q h := by
  rw [arm_exec_Assign, hs]
  refine Go.bind (Go.standAt (Go.bind (Go.pure ?_)))
  rw [if_neg (by decide)]
  refine Go.bind (H.mono fun v h₁ q => ?_)
  rw [hw]
  refine Go.bind (Go.pure ?_)
  show Go c A (assignAll v ((assignEach [.Tuple elts k p] env).map (·.2)) >>= fun _ => Pure.pure .next) Q h₁
  refine Go.bind ?_
  show Go c A (assign (.Tuple elts k p) env v) _ h₁
  exact q.mono fun _ _ z => Go.pure z
theorem joined_spec {g : Heap} {ra hl : Addr} {kvs : Rw} {ts : List Th} {vs : List Value} {Q : Value → Heap → Prop} (X : (Mine.hd.heap_39 c.w.params).In g) (G : Ext g h) (R : RowsX h ra kvs) (hls : h.IsList hl vs.toArray) (hds : Hds h vs ts) (hkl : kvs.length ≤ 8) (hkn : (kvs.map (·.1)).Nodup) (hn : ts.length ≤ 100) (htl : ∀ t ∈ ts, t.kvs.length ≤ 2)
    (hA : A.handled = none) (hd : A.depth ≤ 400) (hu : A.units ≤ 400) (H : ∀ a h', h.get? a = none → Ext h h' → (∀ g', Ext g g' → New h h' g' → RowsAt g' a (joined kvs ts)) → Q (.ref a) h') : Go c A (PySem.call (.ref 407) [.ref ra, .ref hl]) Q h := by
  have X0 := X.keeps G
  refine' Go.defcc (Str.ofString "plain") (upd (upd none0 (Str.ofString "rows") (.ref ra)) (Str.ofString "handed") (.ref hl)) none ?X ?e1 ?e2 ?e3 ?e4 ?e5 ?e6 ?cs ?cc ?cl ?e7 ?H ?e9 ?e10 ?e11
  case X => assumption
  case e1 => k_is
  case e2 => k_is
  case e3 => kernel_rfl
  case e4 => k_is
  case e5 => show _ < 1000; omega
  case e6 => exact rfl
  case cs => intro L; kernel_rfl
  case cc => kernel_rfl
  case cl => kernel_rfl
  case e7 => kernel_rfl
  case e9 => rfl
  case e10 => rfl
  case e11 => rfl
  case H =>
    intro h₁ N XC E f1 f2
    have X1 := X0.keeps E
    obtain ⟨rvs, rn, hra, rrs⟩ := id R
    have rl := rrs.length
    refine Go.cons (Go.asgPair rfl (by kernel_rfl) ?_)
    refine Go.tuple (Go.spc ?_)
    refine Go.compV (cl := []) ?clos ?cell ?kind ?names ?H (hA := hA)
    case clos => rfl
    case cell => kernel_rfl
    case kind => rfl
    case names => decide
    case H =>
      walk_at "e_name"
      refine CompAt.list (items := rvs.toArray) g (fun i g' ys => Ks ys (kvs.take i)) ⟨_, E _ _ hra, rfl, _, rfl⟩ (by rw [List.size_toArray]; omega) ?ho (G.trans E) (fun _ _ => .nil) ?step ?fin hA
      case ho => obtain ⟨o, _, _, e, _⟩ := N; exact ⟨o, e⟩
      case step =>
        intro C i v h₂ m ys fC hi hv E2 hJ N2
        have hv' : rvs[i]? = some v := by simpa using hv
        obtain ⟨kv, hkv, ta, t, u, rfl, hta⟩ := rrs.get hv'
        refine Go.asgTup (hta.at fun o e => E2 _ _ (E _ _ e)) rfl rfl (fun h₃ E3 => ?_) hA
        have N3 := ns_keeps N2 E3
        refine Go.aiocons ?_
        refine Go.asgName (Go.stl rfl (by kernel_rfl) N3 fun h₄ N4 s4 => ?_)
        refine Go.aiocons ?_
        refine Go.asgName (Go.stl rfl (by kernel_rfl) N4 fun h₅ N5 s5 => ?_)
        refine Go.aionil ?_
        refine Go.testsNil ?_
        simp only [if_true]
        walk_at "e_name"
        refine ⟨fun b o n e => but_of_same s5 b o n (but_of_same s4 b o n (E3 _ _ e)), ⟨_, N5⟩, fun g' e1 _ J => ?_⟩
        rw [List.take_add_one, hkv]
        exact J.append (.cons .nil)
      case fin =>
        intro D h₂ ys fD E2 ly hJ lD
        have KS : Ks ys kvs := by
          have := hJ h₂ ((G.trans E).trans E2) (New.self _ _)
          rwa [List.take_of_length_le (by rw [List.size_toArray]; omega)] at this
        have X2 := X1.keeps E2
        refine Go.spc (Go.callE rfl rfl ?_)
        walk_at "e_name"
        have N2 := ns_keeps N E2
        refine Go.spc ?_
        walk_at "e_name"
        refine Go.spn ⟨keep_plain (fun a e => by cases e), ?_⟩
        refine Go.dictOf X2 (R.keeps (E.trans E2)) hkl hA fun d h₃ es ep fd E3 hd0 y0 => ?_
        rw [putAll_nil hkn] at y0
        refine Go.spn ⟨Nat.le_of_ble_eq_true rfl, ?_⟩
        refine Go.asgTup ⟨_, Heap.get?_push_size _ rfl, rfl, _, rfl⟩ rfl rfl (fun h₄ E4 => ?_) hA
        have E34 : Ext h₃ h₄ := fun b o e => E4 _ _ (Heap.get?_push_of_some _ e)
        have N4 := ns_keeps N2 (E3.trans E34)
        have cL : h.objs.size + 1 ≠ h.objs.size := by omega
        refine Go.aiocons (Go.asgName (Go.stl rfl (by kernel_rfl) N4 fun h₅ N5 s5 => ?_))
        have XC5 : h₅.IsCell (h.objs.size + 1) none := by
          obtain ⟨o, e, r⟩ := cell_keeps XC (E2.trans (E3.trans E34))
          exact ⟨o, but_of_same s5 _ _ cL e, r⟩
        refine Go.aiocons (Go.asgName (Go.stc rfl (by kernel_rfl) rfl XC5 fun h₆ XC6 s6 => ?_))
        have N6 := ns_but N5 (but_of_same s6) (Ne.symm cL)
        refine Go.aionil ?_
        dsimp only
        have hAll := hA
        have DL : D ≠ h.objs.size := ns_ne N fD
        have dL : d ≠ h.objs.size := ns_ne N2 fd
        have DC : D ≠ h.objs.size + 1 := by rintro rfl; obtain ⟨o, e, _⟩ := XC; rw [fD] at e; cases e
        have dC : d ≠ h.objs.size + 1 := by rintro rfl; obtain ⟨o, e, _⟩ := XC; rw [E2 _ _ e] at fd; cases fd
        have Dd : D ≠ d := by rintro rfl; obtain ⟨o, _, e, _⟩ := lD; rw [fd] at e; cases e
        have hD0 : h.get? D = none := E.fresh fD
        have hd0' : h.get? d = none := (E.trans E2).fresh fd
        have E6 : Ext h h₆ := (((E.trans E2).trans (E3.trans E34)).thru (but_of_same s5) f1).thru (but_of_same s6) f2
        have S6 : JS h₆ h₆ h.objs.size D d kvs := ⟨fun _ _ _ _ _ e => e, ⟨_, N6, upd_same⟩, ⟨ys, plain_but (plain_but (lD.keeps (E3.trans E34)) (but_of_same s5) DL) (but_of_same s6) DC, KS⟩, ⟨es, ep, but_of_same s6 _ _ dC (but_of_same s5 _ _ dL (E34 _ _ hd0)), y0⟩⟩
        have oldS : ∀ hh r, JS h₆ hh h.objs.size D d r → Ext h hh := fun hh r S b o e => S.keep b o (fun q => by subst q; rw [hD0] at e; cases e) (fun q => by subst q; rw [hd0'] at e; cases e) (fun q => by subst q; rw [f1] at e; cases e) (E6 _ _ e)
        have cellS : ∀ hh r, JS h₆ hh h.objs.size D d r → hh.IsCell (h.objs.size + 1) (some (.ref d)) := fun hh r S => by
          obtain ⟨o, e, q⟩ := XC6
          exact ⟨o, S.keep _ _ (Ne.symm DC) (Ne.symm dC) cL e, q⟩
        have dS : (d == sysModules) = false := notSys X0 hd0'
        have vl := hds.length
        refine Go.cons (Go.mono (Q := fun f h' => f = .next ∧ JS h₆ h' h.objs.size D d (joined kvs ts)) ?loop ?cont)
        case loop =>
          refine Go.forS ?_ (hA := hA)
          walk_at "e_name"
          refine Go.iterList (hls.at fun o e => E6 _ _ e) fun h₇ it E7 => ?_
          have fit := fresh_at h₆
          generalize h₆.objs.size = itx at it fit
          have iD : itx ≠ D := by rintro rfl; obtain ⟨_, ⟨_, _, e, _⟩, _⟩ := S6.nl; rw [fit] at e; cases e
          have id : itx ≠ d := by rintro rfl; obtain ⟨_, _, e, _⟩ := S6.dd; rw [fit] at e; cases e
          have iL : itx ≠ h.objs.size := ns_ne N6 fit
          refine GoC.forLoop (fun i hh => JS h₆ hh h.objs.size D d (joined kvs (ts.take i)) ∧ hh.IsListIter itx hl i) vs.toArray.size ⟨S6.ext E7, it⟩ ?step ?fin
          case fin =>
            rintro hh ⟨S, ih⟩
            rw [show vs.toArray.size = ts.length by rw [List.size_toArray]; exact vl, List.take_length] at S
            exact Go.endList ih (hls.at fun o e => oldS hh _ S _ _ e) (by simp) (fun h' b => ⟨rfl, rfl, S.but b fit iD id iL⟩) hA
          case step =>
            rintro i hh hi ⟨S, ih⟩
            have hi' : i < vs.length := by simpa using hi
            have jt := joined_length (kvs := kvs) (ts := ts.take i) fun t ht => htl t (List.mem_of_mem_take ht)
            have jt2 : (ts.take i).length ≤ ts.length := by rw [List.length_take]; omega
            refine Go.nextList ih (hls.at fun o e => oldS hh _ S _ _ e) (v := vs[i]) (by simp [hi']) fun h' ih' s' => ⟨_, rfl, Go.letGoName ?_⟩
            have S' := S.but (but_of_same s') fit iD id iL
            obtain ⟨m, Nm, hm⟩ := S'.ns
            obtain ⟨t, ht, ta, rt, hv, hta, hrt⟩ := hds.get (i := i) (v := vs[i]) (by simp [hi'])
            rw [hv]
            refine Go.asgName (Go.stl rfl (by kernel_rfl) Nm fun h₈ N8 s8 => ?_)
            have S8 := S'.st N8 (by walk_at "e_mv") (but_of_same s8) DL dL
            have ih8 : h₈.IsListIter itx hl (i + 1) := by
              obtain ⟨o', e', r'⟩ := ih'
              exact ⟨o', but_of_same s8 _ _ iL e', r'⟩
            have tk := htl t (List.mem_of_getElem? ht)
            refine Go.cons (Go.mono (Q := fun f h' => f = .next ∧ JS h₆ h' h.objs.size D d (joined kvs (ts.take (i + 1))) ∧ h'.IsListIter itx hl (i + 1)) ?inner ?done)
            case done =>
              rintro f h9 ⟨rfl, S9, ih9⟩
              exact Go.nil ⟨S9, ih9⟩
            case inner =>
              have O8 := oldS h₈ _ S8
              refine Go.forS ?_ (hA := hA)
              refine Go.subS ?_
              walk_at "e_name"
              refine Go.constInt fun t1 => ?_
              refine ⟨ta, _, _, _, _, rfl, rfl, .inl (hta.at fun o e => O8 _ _ e), by decide, by decide, rfl, ?_⟩
              obtain ⟨rvs', hlt, rrs'⟩ := hrt
              have rl' := rrs'.length
              refine Go.iterList (hlt.at fun o e => O8 _ _ e) fun h₉ it2 E9 => ?_
              have fit2 := fresh_at h₈
              generalize h₈.objs.size = itx2 at it2 fit2
              have jD : itx2 ≠ D := by rintro rfl; obtain ⟨_, ⟨_, _, e, _⟩, _⟩ := S8.nl; rw [fit2] at e; cases e
              have jd : itx2 ≠ d := by rintro rfl; obtain ⟨_, _, e, _⟩ := S8.dd; rw [fit2] at e; cases e
              have jL : itx2 ≠ h.objs.size := ns_ne N8 fit2
              have ji : itx2 ≠ itx := by rintro rfl; obtain ⟨_, e, _⟩ := ih8; rw [fit2] at e; cases e
              have f62 : h₆.get? itx2 = none := by
                cases q : h₆.get? itx2 with
                | none => rfl
                | some o => have := S8.keep _ _ jD jd jL q; rw [fit2] at this; cases this
              refine GoC.forLoop (fun j hh => JS h₆ hh h.objs.size D d (putAll (joined kvs (ts.take i)) (t.kvs.take j)) ∧ hh.IsListIter itx hl (i + 1) ∧ hh.IsListIter itx2 rt j) rvs'.toArray.size ⟨S8.ext E9, (let ⟨o', e', r'⟩ := ih8; ⟨o', E9 _ _ e', r'⟩), it2⟩ ?step2 ?fin2
              case fin2 =>
                rintro hh ⟨S, ih, ih2⟩
                rw [show rvs'.toArray.size = t.kvs.length by rw [List.size_toArray]; exact rl', List.take_length] at S
                refine Go.endList ih2 (hlt.at fun o e => oldS hh _ S _ _ e) (by simp) (fun h' b => ⟨rfl, rfl, ?_, (let ⟨o', e', r'⟩ := ih; ⟨o', b _ _ (Ne.symm ji) e', r'⟩)⟩) hA
                rw [joined_take ht]
                exact S.but b f62 jD jd jL
              case step2 =>
                rintro j hh hj ⟨S, ih, ih2⟩
                have hj' : j < rvs'.length := by simpa using hj
                have OS := oldS hh _ S
                refine Go.nextList ih2 (hlt.at fun o e => OS _ _ e) (v := rvs'[j]) (by simp [hj']) fun h' ih2' s' => ⟨_, rfl, Go.letGoList ih2' ?_⟩
                have S' := S.but (but_of_same s') f62 jD jd jL
                obtain ⟨kv, hkv, tr, tt, tu, hv, htr⟩ := rrs'.get (i := j) (v := rvs'[j]) (by simp [hj'])
                rw [hv]
                refine Go.asgTup (htr.at fun o e => oldS h' _ S' _ _ e) rfl rfl (fun hE EE => ?_) hA
                have SE := S'.ext EE
                obtain ⟨me, Ne', hme⟩ := SE.ns
                refine Go.aiocons ?_
                refine Go.asgName (Go.stl rfl (by kernel_rfl) Ne' fun hF NF sF => ?_)
                refine Go.aiocons ?_
                refine Go.asgName (Go.stl rfl (by kernel_rfl) NF fun hG NG sG => ?_)
                refine Go.aionil ?_
                have SF := SE.st NF (by walk_at "e_mv") (but_of_same sF) DL dL
                have SG := SF.st NG (by walk_at "e_mv") (but_of_same sG) DL dL
                have tkG : ∀ b o, b ≠ itx2 → b ≠ h.objs.size → hh.get? b = some o → hG.get? b = some o := fun b o n1 n2 e => but_of_same sG _ _ n2 (but_of_same sF _ _ n2 (EE _ _ (but_of_same s' _ _ n1 e)))
                have ihG : hG.IsListIter itx hl (i + 1) := let ⟨o', e', r'⟩ := ih; ⟨o', tkG _ _ (Ne.symm ji) iL e', r'⟩
                have ihG2 : hG.IsListIter itx2 rt (j + 1) := let ⟨o', e', r'⟩ := ih2'; ⟨o', but_of_same sG _ _ jL (but_of_same sF _ _ jL (EE _ _ e')), r'⟩
                have XCG := cellS hG _ SG
                obtain ⟨ysG, PG, KG⟩ := SG.nl
                obtain ⟨esG, epG, dG, yG⟩ := SG.dd
                have l1 := putAll_length (joined kvs (ts.take i)) (t.kvs.take j)
                have l2 : (t.kvs.take j).length ≤ t.kvs.length := by rw [List.length_take]; omega
                have lG := KG.length
                refine Go.cons (Go.mono (Q := fun f h' => f = .next ∧ But D hG h' ∧ ∃ ys, PlainL h' D (List.toArray ys) ∧ Ks ys (put (putAll (joined kvs (ts.take i)) (t.kvs.take j)) kv.1 kv.2)) ?ifs ?store)
                case ifs =>
                  refine Go.iff (Go.tcmp ?_)
                  walk_at "e_name"
                  walk_at "e_name"
                  refine Go.containsD dG dS yG (Go.truthyBool ?_)
                  cases hc : (at? (putAll (joined kvs (ts.take i)) (t.kvs.take j)) kv.1).isSome with
                  | true =>
                    rw [if_neg (by simp)]
                    exact Go.nil ⟨rfl, fun _ _ _ e => e, ysG, PG, KG.put_old hc⟩
                  | false =>
                    rw [if_pos (by simp)]
                    refine Go.cons (Go.exprNone (Go.method rfl rfl (by decide) rfl ?_))
                    walk_at "e_name"
                    refine gm_append PG ?_
                    refine Go.spc ?_
                    walk_at "e_name"
                    refine Go.spn ⟨keep_plain (fun a e => by cases e), ?_⟩
                    refine Go.append PG (by rw [List.size_toArray]; omega) fun hH PH sH => ⟨rfl, Go.nil ⟨rfl, but_of_same sH, ysG ++ [.str kv.1 tt], ?_, ?_⟩⟩
                    · simpa using PH
                    · rw [put_fresh hc]; exact KG.append (.cons .nil)
                case store =>
                  rintro f hH ⟨rfl, BH, ysH, PH, KH⟩
                  dsimp only
                  have NH := ns_but NG BH (Ne.symm DL)
                  have dH := BH _ _ (Ne.symm Dd) dG
                  have XCH : hH.IsCell (h.objs.size + 1) (some (.ref d)) := let ⟨o, e, q⟩ := XCG; ⟨o, BH _ _ (Ne.symm DC) e, q⟩
                  have OH : Ext h hH := (oldS hG _ SG).thru BH hD0
                  refine Go.cons (Go.asgSub rfl rfl ?_)
                  walk_at "e_name"
                  walk_at "e_name"
                  walk_at "e_name"
                  refine Go.setItemD (X0.keeps OH) dH yG (by omega) (.inl rfl) fun hI esI epI dI yI sI => ?_
                  have BI := but_of_same sI
                  refine Go.nil ⟨⟨fun b o n1 n2 n3 e => BI _ _ n2 (BH _ _ n1 (SG.keep _ _ n1 n2 n3 e)), ⟨_, ns_but NH BI (Ne.symm dL), by walk_at "e_mv"⟩, ⟨ysH, plain_but PH BI Dd, ?_⟩, ⟨esI, epI, dI, ?_⟩⟩, ?_, ?_⟩
                  · rw [putAll_take _ _ _ _ hkv]; exact KH
                  · rw [putAll_take _ _ _ _ hkv]; exact yI
                  · exact let ⟨o', e', r'⟩ := ihG; ⟨o', BI _ _ id (BH _ _ iD e'), r'⟩
                  · exact let ⟨o', e', r'⟩ := ihG2; ⟨o', BI _ _ jd (BH _ _ jD e'), r'⟩
        case cont =>
          rintro f hZ ⟨rfl, SZ⟩
          dsimp only
          obtain ⟨mZ, NZ, hmZ⟩ := SZ.ns
          obtain ⟨ysZ, PZ, KZ⟩ := SZ.nl
          obtain ⟨esZ, epZ, dZ, yZ⟩ := SZ.dd
          have XCZ := cellS hZ _ SZ
          have OZ := oldS hZ _ SZ
          have jn := joined_nodup (ts := ts) hkn
          have lZ := KZ.length
          have jl := joined_length (kvs := kvs) (ts := ts) htl
          refine Go.cons (Go.ret ?_)
          refine Go.compV (cl := [(Str.ofString "plain", h.objs.size + 1)]) ?clos ?cell ?kind ?names ?H (hA := hA)
          case clos => rfl
          case cell => kernel_rfl
          case kind => rfl
          case names => decide
          case H =>
            walk_at "e_name"
            refine CompAt.list (items := ysZ.toArray) g (fun i g' ys => Rs g' ys ((joined kvs ts).take i)) PZ.isList (by rw [List.size_toArray]; omega) ?ho (G.trans OZ) (fun _ _ => .nil) ?step ?fin hA
            case ho => obtain ⟨o, _, _, e, _⟩ := NZ; exact ⟨o, e⟩
            case step =>
              intro C i v h₂ m ys fC hi hv E2 hJ N2
              have hv' : ysZ[i]? = some v := by simpa using hv
              obtain ⟨kv, t, hkv, rfl⟩ := KZ.get hv'
              refine Go.asgName (Go.stl rfl (by kernel_rfl) N2 fun h₃ N3 s3 => ?_)
              refine Go.testsNil ?_
              simp only [if_true]
              have E3 : Ext hZ h₃ := E2.thru (but_of_same s3) fC
              have XC3 := cell_keeps XCZ E3
              refine Go.tuple (Go.spc ?_)
              walk_at "e_name"
              refine Go.spc (Go.subD ?_)
              walk_at "e_name"
              walk_at "e_name"
              refine ⟨d, _, _, _, _, joined kvs ts, kv.1, _, kv.2, rfl, rfl, E3 _ _ dZ, yZ, at_of_get jn hkv, fun u => ?_⟩
              refine Go.spn ⟨Nat.le_of_ble_eq_true rfl, ?_⟩
              refine ⟨fun b o n e => Heap.get?_push_of_some _ (but_of_same s3 b o n e), ⟨_, ns_keeps N3 fun b o e => Heap.get?_push_of_some _ e⟩, fun g' a b J => ?_⟩
              rw [List.take_add_one, hkv]
              refine J.append (.cons ⟨_, _, _, rfl, ⟨_, b _ _ ?_ (Heap.get?_push_size _ rfl), rfl, _, rfl⟩⟩ .nil)
              cases q : h₂.get? h₃.objs.size with
              | none => rfl
              | some o => exact absurd (Heap.lt_size q) (by rw [← s3.1]; exact Nat.lt_irrefl _)
            case fin =>
              intro D' h₂ ys' fD' E2 ly' hJ' lD'
              refine H D' h₂ (OZ.fresh fD') (OZ.trans E2) fun g' a b => ⟨ys', ?_, ?_⟩
              · exact lD'.isList.at fun o e => b D' o (OZ.fresh fD') e
              · have := hJ' g' a (b.back OZ)
                rwa [show ysZ.toArray.size = (joined kvs ts).length by rw [List.size_toArray]; exact lZ, List.take_length] at this
end
end Mine
namespace Mine
section
variable {α β : Type} {c : Cx} {A : Around} {h : Heap} {env : Env}
theorem Go.whileS {test : Expr} {body : List Stmt} {pos : Pos} {Q : Flow → Heap → Prop} (J : Nat → Heap → Prop) (n : Nat) (h0 : J n h)
    (turn : ∀ n h, J n h → Go c A (isTrue test env (eval test env)) (fun b h₁ => if b = true then Go c A (execs body env) (fun f h₂ => match f with
      | .next | .cont => ∃ m, m < n ∧ J m h₂
      | .brk => Q .next h₂
      | .ret v => Q (.ret v) h₂) h₁ else Q .next h₁) h) : Go c A (exec (.While test body [] pos) env) Q h := fun tk => by
  refine wpAny_While (codeAny_whileLoop (fun n s => ∃ h' tk', s = ⟨h', c.g, c.d, tk', c.os⟩ ∧ J n h') ?_ n ⟨h, tk, rfl, h0⟩)
  rintro n s ⟨h', tk', rfl, hJ⟩
  refine wpAny_mono (turn n h' hJ tk') (fun b s₁ ⟨h₁, t₁, e, q⟩ => ?_) fun _ _ x => x.elim
  subst e
  cases b with
  | true =>
    simp only [if_true] at q ⊢
    refine wpAny_mono (q t₁) (fun f s₂ ⟨h₂, t₂, e, q⟩ => ?_) fun _ _ x => x.elim
    subst e
    cases f with
    | next => obtain ⟨m, hm, j⟩ := q; exact ⟨m, hm, h₂, t₂, rfl, j⟩
    | cont => obtain ⟨m, hm, j⟩ := q; exact ⟨m, hm, h₂, t₂, rfl, j⟩
    | brk => exact ⟨h₂, t₂, rfl, q⟩
    | ret v => exact ⟨h₂, t₂, rfl, q⟩
  | false =>
    simp only [Bool.false_eq_true, if_false] at q ⊢
    exact wpAny_execs_nil ⟨h₁, t₁, rfl, q⟩
theorem Go.pop0 {l : Addr} {v : Value} {vs : List Value} {n : Nat} {t : Tok} {Q : Value → Heap → Prop} (hl : h.get? l = some ⟨.type "list", none, .seq (v :: vs).toArray n, #[]⟩) (hs : vs.length ≤ 900)
    (H : ∀ h' n', h'.get? l = some ⟨.type "list", none, .seq vs.toArray n', #[]⟩ → Heap.SameBut l h h' → Q v h') : Go c A (PySem.call (.builtin "list.pop") [.ref l, .int 0 t]) Q h := fun tk => by
  have hk : seqIndex? 0 (v :: vs).toArray.size = some 0 := by
    unfold seqIndex?
    simp
  have e : Obj.mapSeq (fun xs => xs.eraseIdxIfInBounds 0) (⟨.type "list", none, .seq (v :: vs).toArray n, #[]⟩ : Obj) = ⟨.type "list", none, .seq vs.toArray (n + 1), #[]⟩ := by
    have e1 : (v :: vs).toArray.eraseIdxIfInBounds 0 = vs.toArray := by
      apply Array.toList_inj.mp
      simp [Array.eraseIdxIfInBounds]
    simp [Obj.mapSeq, e1]
  refine call_meets PySem.F.slot_list_pop ⟨_, hl, rfl⟩ PySem.F.entry_list_pop (PySem.F.args_list_pop_2 _ _) (PySem.MeetsSeq.list_pop_at l _ n 0 t 0 v (by decide +kernel) hk (by simp) (by rw [List.size_toArray, sizeLine_eq, List.length_cons]; omega)) ⟨hl, ⟨_, tk, rfl, H _ (n + 1) ?_ (Heap.SameBut.update ..)⟩⟩
  rw [Heap.get?_update_self _ hl (by rw [e]; rfl), e]
theorem gm_pop {l : Addr} {items : Array Value} {pl : Sem Bool} {Q : Value × List Value → Heap → Prop} (hl : PlainL h l items) (H : Q (.builtin "list.pop", [.ref l]) h) : Go c A (getMethod (.ref l) (Str.ofString "pop") pl) Q h := fun tk => by
  obtain ⟨o, n, ho, hc, hd, _⟩ := hl
  exact getMethod_builtin ⟨o, ho, hc⟩ PySem.F.plainAttrs_list PySem.F.slot_list_pop PySem.F.type_list_pop (fun a e => by cases e; exact ⟨o, ho, hd⟩) ⟨_, _, rfl, H⟩
theorem gm_union {x xd : Addr} {es ep} {pl : Sem Bool} {Q : Value × List Value → Heap → Prop} (X : (Mine.hd.heap_39 c.w.params).In h) (ho : h.get? x = some ⟨.ref 194, some xd, .dict es ep, #[]⟩) (hxd : h.get? xd = some ⟨.type "dict", none, .dict #[] 0, #[]⟩)
    (H : Q (.ref 163, [.ref x]) h) : Go c A (getMethod (.ref x) (Str.ofString "_union_other") pl) Q h := by
  refine Go.gm (tf := "function") (ga := "dict.__getattribute__") ho (looks_findIn X (by k_is)) canon_dict (looks_findIn X (by k_is)) (looks_findIn X (by k_is)) ?_ (by decide) (insd_ns (.i hxd) (by decide +kernel)) H
  refine' looks_typeIn X ?e
  case e => k_is
/-- value[lo:hi] of a list -/
theorem Go.slice12 {value lo hi : Expr} {p pos : Pos} {Q : Value → Heap → Prop} (H : Go c A (eval value env) (fun o h₁ => Go c A (eval lo env) (fun a h₂ => Go c A (eval hi env) (fun b h₃ => ∃ l items x y t u, o = .ref l ∧ a = .int x t ∧ b = .int y u ∧ h₃.IsList l items ∧ items.size ≤ 1000 ∧
      ∀ h' r, Ext h₃ h' → h₃.get? r = none → h'.get? r = some ⟨.type "list", none, .seq (slicePick items (some x) (some y) none), #[]⟩ → Q (.ref r) h') h₂) h₁) h) : Go c A (eval (.Subscript value (.Slice (some lo) (some hi) none p) pos) env) Q h := by
  rw [arm_eval_Subscript]
  refine Go.bind (H.mono fun o h₁ q => Go.bind (Go.holding ?_))
  rw [arm_eval_Slice]
  refine Go.bind (Go.mono (t := valueOrNone (evalOpt (some lo) env)) q fun a h₂ q => Go.bind (Go.holding (Go.mono (t := valueOrNone (evalOpt (some hi) env)) q fun b h₃ q => ?_)))
  obtain ⟨l, items, x, y, t, u, rfl, rfl, rfl, hl, hs, q⟩ := q
  refine Go.bind (Go.holding (Go.pure ?_))
  unfold newFields
  refine (fun tk => wpAny_newObj_type ⟨_, tk, rfl, ?_⟩ (by size_fits))
  refine Go.bind (Go.standAt (Go.bind ?_))
  have E1 : Ext h₃ (h₃.push ⟨.type "slice", none, .fields #[.int x t, .int y u, .none], #[]⟩) := fun b o e => Heap.get?_push_of_some _ e
  have hsl : (h₃.push ⟨.type "slice", none, .fields #[.int x t, .int y u, .none], #[]⟩).get? h₃.objs.size = some ⟨.type "slice", none, .fields #[.int x t, .int y u, .none], #[]⟩ := Heap.get?_push_size _ rfl
  obtain ⟨ol, hol, hcl, nl, hdl⟩ := id hl
  rw [getitemInPython_of_ne (by simp)]
  refine Go.bind (Go.looks ((dc_type (E1 _ _ hol)).andThen (b := some (Value.builtin "list.__getitem__")) (by rw [hcl, slot_list_getitem.lookup]; exact Looks.now)) (Go.pure ?_))
  show Go c A (PySem.operate [.ref h₃.objs.size, .ref l] (getItem (.ref l) (.ref h₃.objs.size)) >>= fun r => letTemporaryGo value (.ref l) r >>= fun _ => Pure.pure r) Q _
  refine Go.bind (Go.operate ?_)
  intro tk
  refine wpAny_getItem_list_slice (hl.at fun o e => E1 _ _ e) ⟨_, hsl, rfl, rfl⟩ (.int _ _) (.int _ _) .none (by simp) ⟨_, tk, rfl, ?_⟩ (by rw [sizeLine_eq]; omega)
  have fr2 := fresh_at (h₃.push ⟨.type "slice", none, .fields #[.int x t, .int y u, .none], #[]⟩)
  refine Go.bind (fun tk => wpAny_letTemporaryGo ⟨_, _, rfl, Go.pure (q _ _ (fun b o e => Heap.get?_push_of_some _ (E1 _ _ e)) (E1.fresh fr2) (Heap.get?_push_size _ rfl))⟩)
/-- list + list -/
theorem Go.addL {l b : Addr} {vs ws : List Value} {n n2 : Nat} {Q : Value → Heap → Prop} (hl : h.get? l = some ⟨.type "list", none, .seq vs.toArray n, #[]⟩) (hb : h.get? b = some ⟨.type "list", none, .seq ws.toArray n2, #[]⟩) (hz : vs.length + ws.length ≤ 900)
    (H : ∀ r h', h.get? r = none → Ext h h' → h'.get? r = some ⟨.type "list", none, .seq (vs ++ ws).toArray 0, #[]⟩ → Q (.ref r) h') : Go c A (binaryOp .Add (.ref l) (.ref b)) Q h := fun tk => by
  have e : vs.toArray ++ ws.toArray = (vs ++ ws).toArray := by simp
  refine concat_meets ⟨_, hl, rfl⟩ ⟨_, hb, rfl⟩ noFill_list_add seq_list_add PySem.F.slot_list_add PySem.F.entry_list_add (PySem.F.args_list_add_2 _ _) (list_addW l b vs.toArray ws.toArray n n2 none none #[] #[] (by rw [List.size_toArray, List.size_toArray, sizeLine_eq]; omega)) ⟨hl, hb, ?_⟩
  rw [e]
  exact ⟨_, tk, rfl, H _ _ (fresh_at h) (fun b o e => Heap.get?_push_of_some _ e) (Heap.get?_push_size _ rfl)⟩
/-- {k: v} of a str and an int -/
theorem Go.dict1 {ke ve : Expr} {pos : Pos} {Q : Value → Heap → Prop} (H : ∀ d h₁, h.get? d = none → Ext h h₁ → h₁.get? d = some ⟨.type "dict", none, .dict #[] 0, #[]⟩ → Go c A (eval ke env) (fun kv h₂ => Go c A (eval ve env) (fun vv h₃ => h₃.get? d = some ⟨.type "dict", none, .dict #[] 0, #[]⟩ ∧ ∃ k t v u, kv = .str k t ∧ vv = .int v u ∧
      ∀ h' es ep, h'.get? d = some ⟨.type "dict", none, .dict es ep, #[]⟩ → Ents es.toList [(k, v)] → But d h₃ h' → Q (.ref d) h') h₂) h₁) : Go c A (eval (.Dict [some ke] [ve] pos) env) Q h := by
  rw [arm_eval_Dict]
  refine Go.bind (Go.standAt ?_)
  have e0 : ((evalEachOpt [some ke] env).zip ((evalEach [ve] env).map fun v => (do let x ← v; PySem.standAt pos; Pure.pure x : Sem Value))) = ([(eval ke env, (do let x ← eval ve env; PySem.standAt pos; Pure.pure x : Sem Value))] : List (Sem Value × Sem Value)).map (fun p => (some p.1, p.2)) := rfl
  rw [e0, dictDisplay_pairs _ (by simp) (by simp)]
  refine Go.bind ?_
  unfold subDict
  refine Go.bind (Go.alloc ?_)
  have q := H h.objs.size (h.push ⟨.type "dict", none, .dict #[] 0, #[]⟩) (fresh_at h) (fun b o e => Heap.get?_push_of_some _ e) (Heap.get?_push_size _ rfl)
  refine Go.bind (Go.holding ?_)
  rw [if_pos (Nat.le_of_ble_eq_true rfl)]
  refine Go.bind ?_
  show Go c A (eval ke env >>= fun kv => PySem.holding [kv] (do let x ← eval ve env; PySem.standAt pos; Pure.pure x) >>= fun vv => PySem.holding [kv, vv] (evalPairs []) >>= fun r => Pure.pure ((kv, vv) :: r)) _ _
  refine Go.bind (q.mono fun kv h₂ q => Go.bind (Go.holding (Go.bind (q.mono fun vv h₃ q => Go.bind (Go.standAt (Go.pure ?_))))))
  refine Go.bind (Go.holding (Go.pure (Go.pure ?_)))
  obtain ⟨hd, k, t, v, u, rfl, rfl, q⟩ := q
  refine Go.holding ?_
  refine Go.bind ?_
  rw [List.forIn_cons]
  refine Go.bind (Go.bind (Go.dictSet hd .nil (by simp) fun h' es' ep' a b s => Go.pure ?_))
  dsimp only
  rw [List.forIn_nil]
  exact Go.pure (Go.pure (Go.pure (Go.pure (q h' es' ep' a b (but_of_same s)))))
theorem Go.isOtherR {x y : Addr} {ox oy : Obj} {Q : Value → Heap → Prop} (hxy : x ≠ y) (hx : h.get? x = some ox) (hy : h.get? y = some oy) (hnt : oy.cls ≠ .type "tuple") (H : Q (.bool false) h) : Go c A (compareOp .Is (.ref x) (.ref y)) Q h := by
  show Go c A (isSame (.ref x) (.ref y) >>= fun b => Pure.pure (.bool b)) Q h
  refine Go.bind ?_
  show Go c A (if (x == y) = true then Pure.pure true else _) _ h
  rw [if_neg (by simpa using hxy)]
  refine Go.bind (Go.load hx (Go.bind (Go.load hy ?_)))
  split
  · rename_i _ h1 _ _; exact absurd h1 hnt
  · exact Go.pure (Go.pure H)
/-- x and y, where x is true -/
theorem Go.bothT {x y : Expr} {pos : Pos} {Q : Value → Heap → Prop} (H : Go c A (eval x env) (fun v h₁ => v = .bool true ∧ Go c A (eval y env) Q h₁) h) : Go c A (eval (.BoolOp .And [x, y] pos) env) Q h := by
  rw [arm_eval_BoolOp]
  show Go c A (eval x env >>= fun v => PySem.standAt pos >>= fun _ => PySem.holding [v] (truthy v) >>= fun t => _) Q h
  refine Go.bind (H.mono ?_)
  rintro v h₁ ⟨rfl, q⟩
  refine Go.bind (Go.standAt (Go.bind (Go.holding (Go.truthyBool ?_))))
  exact q
end
end Mine
namespace Mine
theorem nodup_len {S l : List Str} (hn : l.Nodup) (hs : ∀ x ∈ l, x ∈ S) : l.length ≤ S.length := by
  induction l generalizing S with
  | nil => simp
  | cons a r ih =>
    have ha := hs a List.mem_cons_self
    have hn' := List.nodup_cons.mp hn
    have := ih (S := S.erase a) hn'.2 fun x hx => (List.mem_erase_of_ne (fun q : x = a => by subst q; exact hn'.1 hx)).mpr (hs x (List.mem_cons_of_mem _ hx))
    have e := List.length_erase_of_mem ha
    have pos := List.length_pos_of_mem ha
    simp only [List.length_cons]
    omega
theorem five_len {kvs : Rw} (hn : (kvs.map (·.1)).Nodup) (hf : ∀ p ∈ kvs, p.1 ∈ five) : kvs.length ≤ 5 := by
  have := nodup_len (S := five) hn fun x hx => by
    obtain ⟨p, hp, rfl⟩ := List.mem_map.mp hx
    exact hf p hp
  simpa using this
theorem joined_filter {kvs : Rw} {ts : List Th} (h : ∀ t ∈ ts, t.full = false → t.kvs = []) : joined kvs ts = joined kvs (ts.filter (·.full)) := by
  induction ts generalizing kvs with
  | nil => rfl
  | cons t r ih =>
    have ih' := fun k => ih (kvs := k) fun s hs => h s (List.mem_cons_of_mem _ hs)
    cases hf : t.full with
    | true => simp only [List.filter_cons, hf, if_true]; exact ih' (putAll kvs t.kvs)
    | false =>
      have e := h t List.mem_cons_self hf
      simp only [List.filter_cons, hf, Bool.false_eq_true, if_false]
      have : joined kvs (t :: r) = joined (putAll kvs t.kvs) r := rfl
      rw [this, e]
      exact ih' kvs
theorem same_new {a : Addr} {kvs : Rw} {ts : List Th} (h : word (.ref a) (!kvs.isEmpty) ts = .none) : sameOf (.ref a) kvs ts = .none := by
  unfold word at h
  unfold sameOf
  cases hk : kvs.isEmpty <;> cases q : ts.filter (·.full) with
  | nil => simp [hk, q] at h
  | cons t r => cases r with
    | nil => cases hs : t.shut <;> simp_all
    | cons => rfl
theorem thing_imm {g h : Heap} {t : Th} (T : Thing g h t) (hs : t.shut = true) : ∃ x, t.v = .ref x ∧ ImmAt g x t.kvs ∧ (x == sysModules) = false := by
  cases T with
  | none => cases hs
  | @dict a cls dct es ep kvs ho I y hS =>
    have hc : cls = .ref 194 := by simpa using hs
    subst hc
    cases I with
    | i q => exact ⟨a, rfl, ⟨_, _, _, ho, q, y⟩, hS⟩
  | list => cases hs
  | tuple => cases hs
  | props => cases hs
  | iter => cases hs
theorem Thing.grow {g h g' h' : Heap} {t : Th} (T : Thing g h t) (E : Ext g g') (k : ∀ b, .ref b = t.v → g.get? b = Option.none → g'.get? b = Option.none ∧ ∀ o, h.get? b = some o → h'.get? b = some o) : Thing g' h' t := by
  cases T with
  | none => exact .none
  | dict a b c d => exact .dict (E _ _ a) (b.keeps E) c d
  | list a b => exact .list (E _ _ a) (b.keeps E)
  | tuple a b => exact .tuple (E _ _ a) (b.keeps E)
  | props a => exact .props (a.keeps E)
  | iter a b c d => exact .iter (a.at fun o e => E _ _ e) (b.keeps E) (k _ rfl c).1 ((k _ rfl c).2 _ d)
theorem ThingS.grow {g h g' h' : Heap} {t : Th} (T : ThingS g h t) (E : Ext g g') (k : ∀ b, .ref b = t.v → g.get? b = Option.none → g'.get? b = Option.none ∧ ∀ o, h.get? b = some o → h'.get? b = some o) : ThingS g' h' t := by
  cases T with
  | none => exact .none
  | dict a b c d => exact .dict (E _ _ a) (b.keeps E) c d
  | list a b => exact .list (E _ _ a) (b.keeps E)
  | tuple a b => exact .tuple (E _ _ a) (b.keeps E)
  | props a => exact .props (a.keeps E)
  | iter a b c => exact .iter (k _ rfl a).1 ((k _ rfl a).2 _ b) c
theorem ImmAt.keeps {h h' : Heap} {a : Addr} {kvs : Rw} (x : ImmAt h a kvs) (e : Ext h h') : ImmAt h' a kvs := let ⟨xd, es, ep, p, q, y⟩ := x; ⟨xd, es, ep, e _ _ p, e _ _ q, y⟩
/-- one stage, kept -/
def ShAt (g : Heap) (y : Value) : Prop := ∃ a w r kvs, y = .ref a ∧ g.IsTuple a #[.ref w, .ref r] ∧ ImmAt g w kvs ∧ RowsAt g r kvs ∧ kvs.length ≤ 5 ∧ KOk kvs ∧ (w == sysModules) = false
theorem ShAt.keeps {g g' : Heap} {y : Value} (x : ShAt g y) (e : Ext g g') : ShAt g' y := let ⟨a, w, r, kvs, p, q, s, t, u, v, z⟩ := x; ⟨a, w, r, kvs, p, q.at fun o i => e _ _ i, s.keeps e, t.keeps e, u, v, z⟩
/-- the ints that are still to come -/
def FeedAt (h : Heap) (FD : Addr) (n : Nat) : Prop := ∃ vs ns k, h.get? FD = some ⟨.type "list", none, .seq (List.toArray vs) k, #[]⟩ ∧ IntsAre vs ns ∧ vs.length = n
theorem FeedAt.at {h h' : Heap} {FD : Addr} {n : Nat} (x : FeedAt h FD n) (k : ∀ o, h.get? FD = some o → h'.get? FD = some o) : FeedAt h' FD n := let ⟨vs, ns, j, e, r⟩ := x; ⟨vs, ns, j, k _ e, r⟩
/-- the outer while's state -/
structure LS (h0 : Heap) (L FD SH : Addr) (n : Nat) (g hh : Heap) : Prop where
  nd : [L, L + 1, FD, SH].Nodup
  base : Ext h0 g
  G : Ext g hh
  gL : g.get? L = none
  gC : g.get? (L + 1) = none
  gF : g.get? FD = none
  gS : g.get? SH = none
  cell : ∃ v, hh.IsCell (L + 1) v
  feed : FeedAt hh FD n
  shelf : ∃ ys, PlainL hh SH (List.toArray ys) ∧ (∀ y ∈ ys, ShAt g y) ∧ ys.length + n ≤ 100
  ns : ∃ (m : VMap) (cur : Addr) (kvs : Rw), hh.Ns L m ∧ m (Str.ofString "cur") = some (.ref cur) ∧ m (Str.ofString "feed") = some (.ref FD) ∧ m (Str.ofString "shelf") = some (.ref SH) ∧
    ImmAt g cur kvs ∧ (kvs.map (·.1)).Nodup ∧ (∀ p ∈ kvs, p.1 ∈ five) ∧ (cur == sysModules) = false
theorem hide_ext (hh : Heap) (l : List Addr) : Ext (hideAll hh l) hh := fun b o e => of_hideAll l e
theorem ext_hide {h0 hh : Heap} {l : List Addr} (E : Ext h0 hh) (f : ∀ b ∈ l, h0.get? b = none) : Ext h0 (hideAll hh l) := fun b o e =>
  hideAll_get l (E _ _ e) fun q => by rw [f b q] at e; cases e
/-- the inner while's state -/
structure IW (L FD SH HD : Addr) (n : Nat) (g gi hh : Heap) (ts : List Th) (ws : List Addr) : Prop where
  nd : [L, L + 1, FD, SH, HD].Nodup
  E : Ext g gi
  G : Ext gi hh
  hid : ∀ b ∈ L :: (L + 1) :: FD :: SH :: HD :: ws, gi.get? b = none
  wsok : ∀ b ∈ ws, ∃ o, hh.get? b = some o
  wsoff : ∀ b ∈ ws, b ∉ [L, L + 1, FD, SH, HD]
  hand : ∃ vs, PlainL hh HD (List.toArray vs) ∧ Hds gi vs ts
  th : ∀ t ∈ ts, Thing gi hh t ∧ t.kvs.length ≤ 2 ∧ (t.kvs.map (·.1)).Nodup ∧ ∀ p ∈ t.kvs, p.1 ∈ five
  off : ∀ t ∈ ts, ∀ b, .ref b = t.v → b ∉ [L, L + 1, FD, SH, HD] ∧ (gi.get? b = none → b ∈ ws)
  dist : ∀ (i j : Nat) (s t : Th), ts[i]? = some s → ts[j]? = some t → i ≠ j → s.v = t.v → s.v = .none
  len : ts.length ≤ 4
  feed : FeedAt hh FD n
  cell : ∃ v, hh.IsCell (L + 1) v
  shelf : ∃ ys, PlainL hh SH (List.toArray ys) ∧ (∀ y ∈ ys, ShAt g y) ∧ ys.length + n + 1 ≤ 100
  ns : ∃ (m : VMap) (cur : Addr) (kvs : Rw) (r : Int) (tr : Tok), hh.Ns L m ∧ m (Str.ofString "cur") = some (.ref cur) ∧ m (Str.ofString "feed") = some (.ref FD) ∧ m (Str.ofString "shelf") = some (.ref SH) ∧ m (Str.ofString "r") = some (.int r tr) ∧ m (Str.ofString "handed") = some (.ref HD) ∧
    ImmAt g cur kvs ∧ (kvs.map (·.1)).Nodup ∧ (∀ p ∈ kvs, p.1 ∈ five) ∧ (cur == sysModules) = false
theorem thing_v {g h : Heap} {t : Th} (T : Thing g h t) : t.v = .none ∨ ∃ b, t.v = .ref b := by
  cases T with
  | none => exact .inl rfl
  | dict => exact .inr ⟨_, rfl⟩
  | list => exact .inr ⟨_, rfl⟩
  | tuple => exact .inr ⟨_, rfl⟩
  | props => exact .inr ⟨_, rfl⟩
  | iter => exact .inr ⟨_, rfl⟩
theorem IW.step {L FD SH HD : Addr} {n : Nat} {g gi hh h1 h2 h3 : Heap} {ts : List Th} {ws : List Addr} {th : Th} {wk : Option Addr} {v : Value} {vs : List Value} (S : IW L FD SH HD (n + 1) g gi hh ts ws) (hl : ts.length ≤ 3)
    (s1 : But FD hh h1) (F1 : FeedAt h1 FD n) (O : OtherOut gi h1 v h2 th wk) (hd : Hds gi vs ts) (P3 : PlainL h3 HD (vs ++ [v]).toArray) (s3 : Heap.SameBut HD h2 h3) : ∃ gi' ws', IW L FD SH HD n g gi' h3 (ts ++ [th]) ws' := by
  obtain ⟨E12, hl2, hn2, hf2, hfr, hwk, hmain⟩ := O
  have nd := S.nd
  simp only [List.nodup_cons, List.mem_cons, List.not_mem_nil, or_false, not_or] at nd
  obtain ⟨⟨n1, n2, n3, n4⟩, ⟨n5, n6, n7⟩, ⟨n8, n9⟩, n10, _⟩ := nd
  obtain ⟨m, cur, kvs, r, tr, N, q1, q2, q3, q4, q5, q6⟩ := S.ns
  obtain ⟨cv, co, ce, cq⟩ := S.cell
  obtain ⟨ys, PS, hys, hyl⟩ := S.shelf
  obtain ⟨vs0, P0, _⟩ := S.hand
  have b3 := but_of_same s3
  have ex : ∀ b ∈ L :: (L + 1) :: FD :: SH :: HD :: ws, ∃ o, h1.get? b = some o := by
    have old : ∀ b, b ≠ FD → (∃ o, hh.get? b = some o) → ∃ o, h1.get? b = some o := fun b n ⟨o, e⟩ => ⟨o, s1 b o n e⟩
    intro b hb
    by_cases hF : b = FD
    · subst hF; obtain ⟨_, _, _, e, _⟩ := F1; exact ⟨_, e⟩
    · refine old b hF ?_
      simp only [List.mem_cons] at hb
      rcases hb with rfl | rfl | rfl | rfl | rfl | hb
      · obtain ⟨o, _, _, e, _⟩ := N; exact ⟨o, e⟩
      · exact ⟨co, ce⟩
      · exact absurd rfl hF
      · obtain ⟨o, _, e, _⟩ := PS; exact ⟨o, e⟩
      · obtain ⟨o, _, e, _⟩ := P0; exact ⟨o, e⟩
      · exact S.wsok b hb
  have K03 : ∀ b o, b ≠ FD → b ≠ HD → hh.get? b = some o → h3.get? b = some o := fun b o a1 a2 e => b3 b o a2 (E12 _ _ (s1 b o a1 e))
  have wkn : ∀ it, wk = some it → h1.get? it = none := fun it e => (hwk it e).2
  have hhid : ∀ b ∈ (L :: (L + 1) :: FD :: SH :: HD :: ws) ++ wk.toList, gi.get? b = none := by
    intro b hb
    rcases List.mem_append.mp hb with hb | hb
    · exact S.hid b hb
    · have e : wk = some b := by simpa using hb
      have f := wkn b e
      cases q : gi.get? b with
      | none => rfl
      | some o =>
        have z := s1 b o (fun q' => by subst q'; rw [S.hid b (by simp)] at q; cases q) (S.G _ _ q)
        rw [z] at f; cases f
  have Egi3 : Ext gi h3 := fun b o e => K03 b o (fun q => by subst q; rw [S.hid b (by simp)] at e; cases e) (fun q => by subst q; rw [S.hid b (by simp)] at e; cases e) (S.G _ _ e)
  have Eg := ext_hide Egi3 hhid
  generalize hgi : hideAll h3 ((L :: (L + 1) :: FD :: SH :: HD :: ws) ++ wk.toList) = gi' at Eg
  have g'hid : ∀ b ∈ (L :: (L + 1) :: FD :: SH :: HD :: ws) ++ wk.toList, gi'.get? b = none := fun b hb => by rw [← hgi]; exact hideAll_none _ hb
  have g'get : ∀ b o, b ∉ (L :: (L + 1) :: FD :: SH :: HD :: ws) ++ wk.toList → h3.get? b = some o → gi'.get? b = some o := fun b o hb e => by rw [← hgi]; exact hideAll_get _ e hb
  have G' : Ext gi' h3 := by rw [← hgi]; exact hide_ext _ _
  have nw : NW h1 h2 wk gi' := fun b o w f e => by
    refine g'get b o ?_ (b3 b o ?_ e)
    · intro hb
      rcases List.mem_append.mp hb with hb | hb
      · obtain ⟨o', z⟩ := ex b hb; rw [f] at z; cases z
      · exact w (by simpa using hb)
    · rintro rfl
      obtain ⟨o', z⟩ := ex b (by simp); rw [f] at z; cases z
  obtain ⟨HD', HT⟩ := hmain gi' Eg nw
  have T3 : Thing gi' h3 th := HT h3 fun it e => ⟨g'hid it (List.mem_append_right _ (by simp [e])), s3.2 it (by
    rintro rfl
    obtain ⟨o', z⟩ := ex it (by simp)
    rw [wkn it e] at z; cases z)⟩
  have refl : ∀ t ∈ ts, t.v = th.v → t.v = .none := by
    intro t ht e
    rcases thing_v (S.th t ht).1 with q | ⟨b, q⟩
    · exact q
    · exfalso
      obtain ⟨o, z⟩ := thing_old S.G (S.th t ht).1 q.symm
      have bF : b ≠ FD := fun q' => (S.off t ht b q.symm).1 (by simp [q'])
      have f := hfr b (q.symm.trans e)
      rw [s1 b o bF z] at f; cases f
  refine ⟨gi', ws ++ wk.toList, S.nd, S.E.trans Eg, G', fun b hb => g'hid b (by simpa using hb), ?_, ?_, ⟨vs ++ [v], P3, (hd.keeps Eg).append (.cons HD' .nil)⟩, ?_, ?_, ?_, by simp; omega, F1.at fun o e => b3 _ _ n9 (E12 _ _ e), ⟨cv, co, K03 _ _ n5 n7 ce, cq⟩, ⟨ys, plainAt PS fun o e => K03 _ _ (Ne.symm n8) n10 e, hys, by omega⟩,
    ⟨m, cur, kvs, r, tr, ns_but (ns_keeps (ns_but N s1 n2) E12) b3 n4, q1, q2, q3, q4, q5, q6⟩⟩
  · intro b hb
    rcases List.mem_append.mp hb with hb | hb
    · obtain ⟨o, z⟩ := ex b (by simp [hb])
      by_cases q : b = HD
      · subst q; obtain ⟨o', _, e, _⟩ := P3; exact ⟨o', e⟩
      · exact ⟨o, b3 b o q (E12 _ _ z)⟩
    · have e : wk = some b := by simpa using hb
      obtain ⟨o, z⟩ := thing_old G' T3 (hwk b e).1.symm
      exact ⟨o, z⟩
  · intro b hb
    rcases List.mem_append.mp hb with hb | hb
    · exact S.wsoff b hb
    · intro hb'
      obtain ⟨o, z⟩ := ex b (by
        simp only [List.mem_cons, List.not_mem_nil, or_false] at hb' ⊢
        rcases hb' with hb' | hb' | hb' | hb' | hb' <;> simp [hb'])
      rw [wkn b (by simpa using hb)] at z; cases z
  · intro t ht
    rcases List.mem_append.mp ht with ht | ht
    · refine ⟨(S.th t ht).1.grow Eg fun b e f => ?_, (S.th t ht).2⟩
      have o := S.off t ht b e
      exact ⟨g'hid b (by simp [o.2 f]), fun o' z => K03 b o' (fun q => o.1 (by simp [q])) (fun q => o.1 (by simp [q])) z⟩
    · have e : t = th := by simpa using ht
      subst e
      exact ⟨T3, hl2, hn2, hf2⟩
  · intro t ht b e
    rcases List.mem_append.mp ht with ht | ht
    · have o := S.off t ht b e
      refine ⟨o.1, fun f => ?_⟩
      cases q : gi.get? b with
      | none => exact List.mem_append_left _ (o.2 q)
      | some o' => rw [Eg _ _ q] at f; cases f
    · have e' : t = th := by simpa using ht
      subst e'
      have f := hfr b e
      refine ⟨fun hb => ?_, fun f' => ?_⟩
      · obtain ⟨o, z⟩ := ex b (by
          simp only [List.mem_cons, List.not_mem_nil, or_false] at hb ⊢
          rcases hb with hb | hb | hb | hb | hb <;> simp [hb])
        rw [f] at z; cases z
      · by_cases w : wk = some b
        · exact List.mem_append_right _ (by simp [w])
        · exfalso
          obtain ⟨o, z⟩ := thing_old G' T3 e
          have bH : b ≠ HD := by
            rintro rfl
            obtain ⟨o', z'⟩ := ex b (by simp); rw [f] at z'; cases z'
          have z2 : h2.get? b = some o := (s3.2 b bH).symm.trans z
          rw [nw b o w f z2] at f'; cases f'
  · intro i j s t hs ht hij e
    rw [List.getElem?_append] at hs ht
    split at hs <;> split at ht
    · exact S.dist i j s t hs ht hij e
    · have : t = th := by
        rename_i h1' h2'
        have : j - ts.length = 0 := by
          have := (List.getElem?_eq_some_iff.mp ht).1; simp at this; omega
        rw [this] at ht; simpa using ht.symm
      subst this
      exact refl s (List.mem_of_getElem? hs) e
    · have : s = th := by
        have : i - ts.length = 0 := by
          have := (List.getElem?_eq_some_iff.mp hs).1; simp at this; omega
        rw [this] at hs; simpa using hs.symm
      subst this
      rw [e]
      exact refl t (List.mem_of_getElem? ht) e.symm
    · have a1 := (List.getElem?_eq_some_iff.mp hs).1
      have a2 := (List.getElem?_eq_some_iff.mp ht).1
      simp at a1 a2
      omega
/-- the state behind the inner while: what is frozen, what is hidden -/
structure RS (L FD SH : Addr) (n : Nat) (g hh : Heap) (ts : List Th) (ws : List Addr) (ys : List Value) : Prop where
  nd : [L, L + 1, FD, SH].Nodup
  G : Ext g hh
  hid : ∀ b ∈ L :: (L + 1) :: FD :: SH :: ws, g.get? b = none
  ex : ∀ b ∈ L :: (L + 1) :: FD :: SH :: ws, ∃ o, hh.get? b = some o
  th : ∀ t ∈ ts, Thing g hh t ∧ t.kvs.length ≤ 2 ∧ (t.kvs.map (·.1)).Nodup ∧ ∀ p ∈ t.kvs, p.1 ∈ five
  off : ∀ t ∈ ts, ∀ b, .ref b = t.v → b ∉ [L, L + 1, FD, SH] ∧ (g.get? b = none → b ∈ ws)
  wsoff : ∀ b ∈ ws, b ∉ [L, L + 1, FD, SH]
  dist : ∀ (i j : Nat) (s t : Th), ts[i]? = some s → ts[j]? = some t → i ≠ j → s.v = t.v → s.v = .none
  len : ts.length ≤ 4
  feed : FeedAt hh FD n
  cell : ∃ v, hh.IsCell (L + 1) v
  shelf : PlainL hh SH (List.toArray ys)
  stages : ∀ y ∈ ys, ShAt g y
  bound : ys.length + n + 1 ≤ 100
theorem RS.move {L FD SH : Addr} {n : Nat} {g hh h' : Heap} {ts : List Th} {ws : List Addr} {ys : List Value} (S : RS L FD SH n g hh ts ws ys) (K : ∀ b o, b ≠ L → hh.get? b = some o → h'.get? b = some o) (hL : ∃ o, h'.get? L = some o) :
    RS L FD SH n (hideAll h' (L :: (L + 1) :: FD :: SH :: ws)) h' ts ws ys ∧ Ext g (hideAll h' (L :: (L + 1) :: FD :: SH :: ws)) := by
  have nd := S.nd
  simp only [List.nodup_cons, List.mem_cons, List.not_mem_nil, or_false, not_or] at nd
  obtain ⟨⟨n1, n2, n3⟩, ⟨n5, n6⟩, n8, _⟩ := nd
  have Eg : Ext g (hideAll h' (L :: (L + 1) :: FD :: SH :: ws)) := ext_hide (fun b o e => K b o (fun q => by subst q; rw [S.hid b (by simp)] at e; cases e) (S.G _ _ e)) S.hid
  obtain ⟨cv, co, ce, cq⟩ := S.cell
  refine ⟨⟨S.nd, hide_ext _ _, fun b hb => hideAll_none _ hb, fun b hb => ?_, fun t ht => ⟨(S.th t ht).1.grow Eg fun b e f => ?_, (S.th t ht).2⟩, fun t ht b e => ⟨(S.off t ht b e).1, fun f => ?_⟩, S.wsoff, S.dist, S.len, S.feed.at fun o e => K _ _ (Ne.symm n2) e, ⟨cv, co, K _ _ (Ne.symm n1) ce, cq⟩,
    plainAt S.shelf fun o e => K _ _ (Ne.symm n3) e, fun y hy => (S.stages y hy).keeps Eg, S.bound⟩, Eg⟩
  · by_cases q : b = L
    · subst q; exact hL
    · obtain ⟨o, e⟩ := S.ex b hb; exact ⟨o, K b o q e⟩
  · have o := S.off t ht b e
    exact ⟨hideAll_none _ (by simp [o.2 f]), fun o' z => K b o' (fun q => o.1 (by simp [q])) z⟩
  · cases q : g.get? b with
    | none => exact (S.off t ht b e).2 q
    | some o => rw [Eg _ _ q] at f; cases f
theorem IW.round {L FD SH HD : Addr} {n : Nat} {g gi hh : Heap} {ts : List Th} {ws : List Addr} (S : IW L FD SH HD n g gi hh ts ws) :
    ∃ g3 ys vs, RS L FD SH n g3 hh ts ws ys ∧ Ext gi g3 ∧ PlainL g3 HD (List.toArray vs) ∧ Hds g3 vs ts := by
  have nd := S.nd
  simp only [List.nodup_cons, List.mem_cons, List.not_mem_nil, or_false, not_or] at nd
  obtain ⟨⟨n1, n2, n3, n4⟩, ⟨n5, n6, n7⟩, ⟨n8, n9⟩, n10, _⟩ := nd
  obtain ⟨ys, PS, hys, hyl⟩ := S.shelf
  obtain ⟨vs, P0, hds⟩ := S.hand
  obtain ⟨m, cur, kvs, r, tr, N, _⟩ := S.ns
  obtain ⟨cv, co, ce, cq⟩ := S.cell
  have hh1 : ∀ b ∈ L :: (L + 1) :: FD :: SH :: ws, gi.get? b = none := fun b hb => S.hid b (by simp only [List.mem_cons] at hb ⊢; rcases hb with hb | hb | hb | hb | hb <;> simp [hb])
  have Eg := ext_hide S.G hh1
  refine ⟨hideAll hh (L :: (L + 1) :: FD :: SH :: ws), ys, vs, ⟨?_, hide_ext _ _, fun b hb => hideAll_none _ hb, ?_, fun t ht => ⟨(S.th t ht).1.grow Eg fun b e f => ?_, (S.th t ht).2⟩, fun t ht b e => ⟨?_, fun f => ?_⟩, ?_, S.dist, S.len, S.feed, ⟨cv, co, ce, cq⟩, PS, fun y hy => ((hys y hy).keeps S.E).keeps Eg, hyl⟩, Eg, ?_, hds.keeps Eg⟩
  · simp only [List.nodup_cons, List.mem_cons, List.not_mem_nil, or_false, not_or]
    exact ⟨⟨n1, n2, n3⟩, ⟨n5, n6⟩, n8, by simp⟩
  · intro b hb
    simp only [List.mem_cons] at hb
    rcases hb with rfl | rfl | rfl | rfl | hb
    · obtain ⟨o, _, _, e, _⟩ := N; exact ⟨o, e⟩
    · exact ⟨co, ce⟩
    · obtain ⟨_, _, _, e, _⟩ := S.feed; exact ⟨_, e⟩
    · obtain ⟨o, _, e, _⟩ := PS; exact ⟨o, e⟩
    · exact S.wsok b hb
  · have o := S.off t ht b e
    exact ⟨hideAll_none _ (by simp [o.2 f]), fun o' z => z⟩
  · have o := (S.off t ht b e).1
    intro hb
    simp only [List.mem_cons, List.not_mem_nil, or_false] at hb
    rcases hb with hb | hb | hb | hb <;> exact o (by simp [hb])
  · cases q : gi.get? b with
    | none => exact (S.off t ht b e).2 q
    | some o => rw [Eg _ _ q] at f; cases f
  · intro b hb hb'
    simp only [List.mem_cons, List.not_mem_nil, or_false] at hb'
    rcases hb' with hb' | hb' | hb' | hb' <;> exact S.wsoff b hb (by simp [hb'])
  · refine plainAt P0 fun o e => hideAll_get _ e ?_
    simp only [List.mem_cons, not_or]
    exact ⟨Ne.symm n4, Ne.symm n7, Ne.symm n9, Ne.symm n10, fun q => S.wsoff _ q (by simp)⟩
/-- what the union leaves -/
def UOut (gU hU : Heap) (L FD SH : Addr) (ts : List Th) (cur : Addr) (kvs : Rw) (td : Addr) (h' : Heap) : Prop :=
  Ext gU h' ∧ (∀ b o, (∀ t ∈ ts, .ref b ≠ t.v) → hU.get? b = some o → h'.get? b = some o) ∧
  ∃ gT, Ext gU gT ∧ Ext gT h' ∧ (∀ b ∈ [L, L + 1, FD, SH], gT.get? b = none) ∧ ImmAt gT td (joined kvs ts) ∧ (td == sysModules) = false ∧ (∀ t ∈ ts, ThingS gT h' t) ∧
    (sameOf (.ref cur) kvs ts = .ref td ∨ (sameOf (.ref cur) kvs ts = .none ∧ td ≠ cur ∧ ∀ t ∈ ts, t.v ≠ .ref td))
section
variable {c : Cx} {A : Around}
theorem union_out {L FD SH : Addr} {n : Nat} {g h : Heap} {ts : List Th} {ws : List Addr} {ys : List Value} {cur o : Addr} {kvs : Rw} (S : RS L FD SH n g h ts ws ys) (X : (Mine.hd.heap_39 c.w.params).In g) (I : ImmAt g cur kvs) (hS : (cur == sysModules) = false) (hn : (kvs.map (·.1)).Nodup) (hf : ∀ p ∈ kvs, p.1 ∈ five)
    (O : OthersAt g o (ts.map (·.v))) (hA : A.handled = none) (hd : A.depth ≤ 400) (hu : A.units ≤ 400) :
    Go c A (PySem.call (.ref 163) [.ref cur, .ref o]) (fun v h' => ∃ td, v = .ref td ∧ UOut g h L FD SH ts cur kvs td h') h := by
  have hl := five_len hn hf
  have nf : ∀ t ∈ ts, t.full = false → t.kvs = [] := fun t ht q => notFull (S.th t ht).1 q
  have h4 : ∀ b ∈ [L, L + 1, FD, SH], g.get? b = none := fun b hb => S.hid b (by simp only [List.mem_cons, List.not_mem_nil, or_false] at hb ⊢; rcases hb with hb | hb | hb | hb <;> simp [hb])
  refine union_spec X S.G I hS O (fun t ht => (S.th t ht).1) (by omega) (fun t ht => (S.th t ht).2.1) (by have := S.len; omega) hn (fun t ht => (S.th t ht).2.2.1) S.dist ?hself ?hone ?hnew hA hd hu
  case hself =>
    intro e h' E
    refine ⟨cur, rfl, S.G.trans E, fun b o _ z => E _ _ z, g, Ext.refl _, S.G.trans E, h4, ?_, hS, fun t ht => (S.th t ht).1.spent.after fun b o _ _ _ z => E _ _ z, .inl ?_⟩
    · rw [joined_filter nf, e]; exact I
    · unfold sameOf; rw [e]
  case hone =>
    intro t e0 e hs h' E
    have ht : t ∈ ts := by
      have : t ∈ ts.filter (·.full) := by rw [e]; exact List.mem_cons_self
      exact (List.mem_filter.mp this).1
    obtain ⟨x, hx, Ix, hxS⟩ := thing_imm (S.th t ht).1 hs
    refine ⟨x, hx, S.G.trans E, fun b o _ z => E _ _ z, g, Ext.refl _, S.G.trans E, h4, ?_, hxS, fun t ht => (S.th t ht).1.spent.after fun b o _ _ _ z => E _ _ z, .inl ?_⟩
    · rw [joined_filter nf, e, e0]
      show ImmAt g x (putAll [] t.kvs)
      rw [putAll_nil (S.th t ht).2.2.1]; exact Ix
    · unfold sameOf; rw [e, e0]; simp [hs, hx]
  case hnew =>
    intro wz r h' fr Gh K HI TS
    have Eg : Ext g (hideAll h' (L :: (L + 1) :: FD :: SH :: ws)) := ext_hide Gh S.hid
    refine ⟨r, rfl, Gh, K, hideAll h' (L :: (L + 1) :: FD :: SH :: ws), Eg, hide_ext _ _, fun b hb => hideAll_none _ ?_, HI _ Eg fun b o f e => hideAll_get _ e fun hb => ?_, notSys (X.keeps S.G) fr, fun t ht => (TS t ht).grow Eg fun b e f => ⟨hideAll_none _ ?_, fun o z => z⟩, .inr ⟨same_new wz, ?_, ?_⟩⟩
    · simp only [List.mem_cons, List.not_mem_nil, or_false] at hb ⊢
      rcases hb with hb | hb | hb | hb <;> simp [hb]
    · obtain ⟨o', z⟩ := S.ex b hb; rw [f] at z; cases z
    · have := (S.off t ht b e).2 f
      simp [this]
    · rintro rfl
      obtain ⟨_, _, _, z, _⟩ := I
      rw [S.G _ _ z] at fr; cases fr
    · intro t ht e
      obtain ⟨o', z⟩ := thing_old S.G (S.th t ht).1 e.symm
      rw [fr] at z; cases z
end
theorem things_old {g h : Heap} {t : Th} {b : Addr} (G : Ext g h) (T : ThingS g h t) (e : .ref b = t.v) : ∃ o, h.get? b = some o := by
  cases T with
  | none => cases e
  | dict a => cases e; exact ⟨_, G _ _ a⟩
  | list a => cases e; exact ⟨_, G _ _ a⟩
  | tuple a => cases e; exact ⟨_, G _ _ a⟩
  | props a => cases e; exact ⟨_, G _ _ a.hx⟩
  | iter _ a => cases e; exact ⟨_, a⟩
end Mine
namespace Mine
section
variable {c : Cx} {A : Around} {h : Heap}
local macro_rules | `(tactic| x_close) => `(tactic| exact ⟨_, _, rfl, meth_out (by assumption)⟩)
theorem ga_roP {x xd p : Addr} {t} (KX : (Mine.hd.heap_39 c.w.params).In h) (h1 : h.get? x = some ⟨.ref 337, some xd, .plain, #[some (.ref p)]⟩) (h2 : h.get? xd = some ⟨.type "dict", none, .dict #[] 0, #[]⟩) :
    Go c (AA 700 700) (PySem.runValue (.builtin "proto.getattr_hooked" ⟨[.ref x, .str (Str.ofString "as_readonly") t], []⟩)) (MethOut h (.ref 283) x) h := fun tk => by
  x_run
abbrev RoOut (h : Heap) (p : Addr) (v : Value) (h' : Heap) : Prop := ∃ x xd, v = .ref x ∧ Ext h h' ∧ h.get? x = none ∧ h.get? xd = none ∧ h'.get? x = some ⟨.ref 352, some xd, .plain, #[some (.ref p)]⟩ ∧ h'.get? xd = some ⟨.type "dict", none, .dict #[] 0, #[]⟩
theorem ro_out {h h' : Heap} {news : List (Addr × Obj)} {x xd p : Addr} (D : Mem h h' [] news) (m1 : (x, (⟨.ref 352, some xd, .plain, ⟨[some (.ref p)]⟩⟩ : Obj)) ∈ news) (m2 : (xd, (⟨.type "dict", none, .dict ⟨[]⟩ 0, #[]⟩ : Obj)) ∈ news) : RoOut h p (.ref x) h' :=
  ⟨x, xd, rfl, mem_ext D, (D.nw _ m1).2, (D.nw _ m2).2, (D.nw _ m1).1, (D.nw _ m2).1⟩
local macro_rules | `(tactic| walk_at "e_mem") => `(tactic| repeat (first | exact List.Mem.head _ | apply List.Mem.tail))
local macro_rules | `(tactic| x_close) => `(tactic| exact ⟨_, _, rfl, ro_out (by assumption) (by walk_at "e_mem") (by walk_at "e_mem")⟩)
theorem ro_call {m x xd p : Addr} (KX : (Mine.hd.heap_39 c.w.params).In h) (hm : h.get? m = some ⟨.type "method", none, .fields #[.ref 283, .ref x], #[]⟩) (h1 : h.get? x = some ⟨.ref 337, some xd, .plain, #[some (.ref p)]⟩) (h2 : h.get? xd = some ⟨.type "dict", none, .dict #[] 0, #[]⟩) :
    Go c (AA 600 600) (PySem.call (.ref m) []) (RoOut h p) h := fun tk => by
  x_run
theorem gm_roP {x xd p : Addr} {pl : Sem Bool} {Q : Value × List Value → Heap → Prop} (X : (Mine.hd.heap_39 c.w.params).In h) (h1 : h.get? x = some ⟨.ref 337, some xd, .plain, #[some (.ref p)]⟩) (h2 : h.get? xd = some ⟨.type "dict", none, .dict #[] 0, #[]⟩) (hA : A.handled = none) (hd : A.depth ≤ 700) (hu : A.units ≤ 700)
    (H : ∀ m h', Ext h h' → h'.get? m = some (methodObj (.ref 283) (.ref x)) → Q (.ref m, []) h') : Go c A (getMethod (.ref x) (Str.ofString "as_readonly") pl) Q h := by
  unfold getMethod
  refine Go.bind (Go.looks (r := some (.builtin "object.__getattribute__")) ((dc_type h1).andThen (looks_findIn X (by k_is))) ?_)
  dsimp only
  rw [if_neg (by decide +kernel)]
  refine Go.bind (Go.looks (r := some (.ref 269)) ((dc_type h1).andThen (looks_findIn X (by k_is))) ?_)
  rw [if_pos (by rfl)]
  refine Go.bind (Go.getAttr1 (C := 337) X h1 rfl (by k_is) fun t => (Go.up (A := A) (ga_roP X h1 h2) hA hd hu).mono fun v h₁ ⟨m, e, E1, hm⟩ => ?_)
  subst e
  exact ⟨rfl, Go.pure (H m h₁ E1 hm)⟩
end
end Mine
namespace Mine
section
variable {c : Cx} {A : Around} {h : Heap} {env : Env}
local macro_rules | `(tactic| x_close) => `(tactic| first | exact ⟨_, _, rfl, rfl, Ext.refl _⟩ | exact ⟨_, _, rfl, rfl, mem_ext (by assumption)⟩)
theorem cls_i {x xd : Addr} {es ep t} (KX : (Mine.hd.heap_39 c.w.params).In h) (h1 : h.get? x = some ⟨.ref 194, some xd, .dict es ep, #[]⟩) (h2 : h.get? xd = some ⟨.type "dict", none, .dict #[] 0, #[]⟩) :
    Go c (AA 700 700) (PySem.call (.builtin "dict.__getattribute__") [.ref x, .str (Str.ofString "__class__") t]) (fun v h' => v = .ref 194 ∧ Ext h h') h := fun tk => by
  x_run
theorem cls_v {x xd p : Addr} {t} (KX : (Mine.hd.heap_39 c.w.params).In h) (h1 : h.get? x = some ⟨.ref 352, some xd, .plain, #[some (.ref p)]⟩) (h2 : h.get? xd = some ⟨.type "dict", none, .dict #[] 0, #[]⟩) :
    Go c (AA 700 700) (PySem.runValue (.builtin "proto.getattr_hooked" ⟨[.ref x, .str (Str.ofString "__class__") t], []⟩)) (fun v h' => v = .ref 352 ∧ Ext h h') h := fun tk => by
  x_run
abbrev StrOut (h : Heap) (v : Value) (h' : Heap) : Prop := ∃ y t, v = .str y t ∧ y.length ≤ 1000 ∧ Ext h h'
local macro_rules | `(tactic| x_close) => `(tactic| first | exact ⟨_, _, rfl, _, _, rfl, by decide +kernel, Ext.refl _⟩ | exact ⟨_, _, rfl, _, _, rfl, by decide +kernel, mem_ext (by assumption)⟩)
theorem name_i {t} (KX : (Mine.hd.heap_39 c.w.params).In h) : Go c (AA 700 700) (PySem.call (.builtin "type.__getattribute__") [.ref 194, .str (Str.ofString "__name__") t]) (StrOut h) h := fun tk => by
  x_run
theorem name_v {t} (KX : (Mine.hd.heap_39 c.w.params).In h) : Go c (AA 700 700) (PySem.call (.builtin "type.__getattribute__") [.ref 352, .str (Str.ofString "__name__") t]) (StrOut h) h := fun tk => by
  x_run
theorem Go.getAttrCls {C : Addr} {name : Str} {b : Bool} {Q : Value → Heap → Prop} (X : (Mine.hd.heap_39 c.w.params).In h) (ht : typeIn (Mine.hd.heap_39 c.w.params) (.ref C) = some (.type "type"))
    (H : ∀ t, Go c A (PySem.call (.builtin "type.__getattribute__") [.ref C, .str name t]) (fun v h' => handedIn v = true ∧ Q v h') h) : Go c A (getAttr (.ref C) name b) Q h := by
  unfold getAttr
  refine Go.bind (Go.mkText fun t => ?_)
  unfold getAttrBy
  refine Go.holding (Go.bind (Go.looks (looks_typeIn X ht) ?_))
  refine Go.bind (Go.looks (r := some (.builtin "type.__getattribute__")) (Looks.of_pure KF.slot_tga.lookup) ?_)
  show Go c A (getAttrByItsOwn (.ref C) (.str name t) (.type "type") (.builtin "type.__getattribute__") true b) Q h
  unfold getAttrByItsOwn
  refine Go.bind (Go.pure (Go.bind (Go.attempt (Go.holding ?_))))
  have e1 : callGetattribute (.ref C) (.str name t) (.builtin "type.__getattribute__") b = boundAndCalled (.builtin "type.__getattribute__") (.ref C) (.str name t) := by
    unfold callGetattribute; simp [onTheHeap]
  rw [e1]
  unfold boundAndCalled
  rw [KF.slot_tga.bind]
  refine Go.bind (Go.pure ((H t).mono fun v h' ⟨q, r⟩ => ?_))
  show Go c A (handedOut v) Q h'
  rw [show handedOut v = Pure.pure v from handedOut_of q]
  exact Go.pure r
/-- an attribute, read; the object may go -/
theorem Go.attrT {value : Expr} {attr : Str} {pos : Pos} {Q : Value → Heap → Prop} (hbase : attributeBase value attr env (eval value env) = eval value env)
    (H : Go c A (eval value env) (fun o h₁ => Go c A (getAttr o attr true) Q h₁) h) : Go c A (eval (.Attribute value attr pos) env) Q h := by
  rw [arm_eval_Attribute, hbase]
  refine Go.bind (H.mono fun o h₁ q => Go.bind (Go.standAt (Go.bind (Go.holding (Go.mono q fun r h₂ z => ?_)))))
  exact Go.bind (fun tk => wpAny_letTemporaryGo ⟨_, _, rfl, Go.pure z⟩)
/-- f'{v}text' -/
theorem Go.joined2 {value v2 : Expr} {p1 pos : Pos} {Q : Value → Heap → Prop} (H : Go c A (eval value env) (fun a h₁ => ∃ y t, a = .str y t ∧ y.length ≤ 1000 ∧ Go c A (eval v2 env) (fun b h₂ => ∃ z u, b = .str z u ∧ z.length ≤ 1000 ∧ ∀ s t, Q (.str s t) h₂) h₁) h) :
    Go c A (eval (.JoinedStr [.FormattedValue value (-1) none p1, v2] pos) env) Q h := fun tk => by
  refine wpAny_JoinedStr ?_
  show wpAny _ _ (eval (.FormattedValue value (-1) none p1) env) _ _ _
  refine wpAny_FormattedValue_plain (wpAny_mono (H tk) (fun a s₁ ⟨h₁, t₁, e, y, t, ea, hy, q⟩ => ?_) fun _ _ x => x)
  subst e ea
  have e0 : Str.empty ++ y = y := by
    cases y with
    | mk cps => exact congrArg Str.mk (by simp [Str.empty] : Str.empty.cps ++ cps = cps)
  refine formatField_str (fun t' tk' => ⟨y, t', rfl, by rw [e0, sizeLine_eq]; omega, ?_⟩) (by rw [sizeLine_eq]; omega)
  show wpAny _ _ (eval v2 env) _ _ _
  refine wpAny_mono (q tk') (fun b s₂ ⟨h₂, t₂, e, z, u, eb, hz, q⟩ => ?_) fun _ _ x => x
  subst e eb
  have hl : (Str.empty ++ y ++ z).length ≤ sizeLine := by rw [e0, strLen_append, sizeLine_eq]; omega
  exact ⟨z, u, rfl, hl, hl, h₂, _, rfl, q _ _⟩
/-- the class's name of one that was made immutable, of a view -/
theorem className_i {value : Expr} {p1 p2 : Pos} {x xd : Addr} {es ep} {Q : Value → Heap → Prop} (X : (Mine.hd.heap_39 c.w.params).In h) (h1 : h.get? x = some ⟨.ref 194, some xd, .dict es ep, #[]⟩) (h2 : h.get? xd = some ⟨.type "dict", none, .dict #[] 0, #[]⟩)
    (b1 : attributeBase value (Str.ofString "__class__") env (eval value env) = eval value env) (b2 : attributeBase (.Attribute value (Str.ofString "__class__") p1) (Str.ofString "__name__") env (eval (.Attribute value (Str.ofString "__class__") p1) env) = eval (.Attribute value (Str.ofString "__class__") p1) env)
    (hv : Go c A (eval value env) (fun v h' => v = .ref x ∧ h' = h) h) (hA : A.handled = none) (hd : A.depth ≤ 700) (hu : A.units ≤ 700) (H : ∀ v h', StrOut h v h' → Q v h') :
    Go c A (eval (.Attribute (.Attribute value (Str.ofString "__class__") p1) (Str.ofString "__name__") p2) env) Q h := by
  refine Go.attrT b2 (Go.attrT b1 (hv.mono ?_))
  rintro v h' ⟨rfl, rfl⟩
  unfold getAttr
  refine Go.bind (Go.mkText fun t => Go.getAttrDict (C := 194) X h1 rfl (by k_is) (by k_is) (fun t => (Go.up (cls_i X h1 h2) hA hd hu).mono ?_) t true)
  rintro v h₁ ⟨rfl, E1⟩
  refine ⟨rfl, Go.getAttrCls (X.keeps E1) (by k_is) fun t => (Go.up (name_i (X.keeps E1)) hA hd hu).mono ?_⟩
  rintro v h₂ ⟨y, t, rfl, hy, E2⟩
  exact ⟨rfl, H _ _ ⟨y, t, rfl, hy, E1.trans E2⟩⟩
theorem className_v {value : Expr} {p1 p2 : Pos} {x xd p : Addr} {Q : Value → Heap → Prop} (X : (Mine.hd.heap_39 c.w.params).In h) (h1 : h.get? x = some ⟨.ref 352, some xd, .plain, #[some (.ref p)]⟩) (h2 : h.get? xd = some ⟨.type "dict", none, .dict #[] 0, #[]⟩)
    (b1 : attributeBase value (Str.ofString "__class__") env (eval value env) = eval value env) (b2 : attributeBase (.Attribute value (Str.ofString "__class__") p1) (Str.ofString "__name__") env (eval (.Attribute value (Str.ofString "__class__") p1) env) = eval (.Attribute value (Str.ofString "__class__") p1) env)
    (hv : Go c A (eval value env) (fun v h' => v = .ref x ∧ h' = h) h) (hA : A.handled = none) (hd : A.depth ≤ 700) (hu : A.units ≤ 700) (H : ∀ v h', StrOut h v h' → Q v h') :
    Go c A (eval (.Attribute (.Attribute value (Str.ofString "__class__") p1) (Str.ofString "__name__") p2) env) Q h := by
  refine Go.attrT b2 (Go.attrT b1 (hv.mono ?_))
  rintro v h' ⟨rfl, rfl⟩
  refine Go.getAttr1 (C := 352) X h1 rfl (by k_is) fun t => (Go.up (cls_v X h1 h2) hA hd hu).mono ?_
  rintro v h₁ ⟨rfl, E1⟩
  refine ⟨rfl, Go.getAttrCls (X.keeps E1) (by k_is) fun t => (Go.up (name_v (X.keeps E1)) hA hd hu).mono ?_⟩
  rintro v h₂ ⟨y, t, rfl, hy, E2⟩
  exact ⟨rfl, H _ _ ⟨y, t, rfl, hy, E1.trans E2⟩⟩
end
end Mine
namespace Mine
/-- a run that ends in an exception -/
def GoX {α : Type} (c : Cx) (A : Around) (t : Sem α) (R : Addr → Heap → Prop) (h : Heap) : Prop :=
  ∀ tk : Nat, wpAny (model PR c.w) A t (fun _ _ => False) (fun e s' => ∃ a h' tk', e = .ref a ∧ s' = ⟨h', c.g, c.d, tk', c.os⟩ ∧ R a h') ⟨h, c.g, c.d, tk, c.os⟩
section
variable {α β : Type} {c : Cx} {A : Around} {h : Heap} {env : Env}
theorem GoX.mono {t : Sem α} {R R' : Addr → Heap → Prop} (H : GoX c A t R h) (hr : ∀ e h', R e h' → R' e h') : GoX c A t R' h := fun tk =>
  wpAny_mono (H tk) (fun _ _ x => x) fun e s' ⟨a, h', tk', e1, e2, r⟩ => ⟨a, h', tk', e1, e2, hr a h' r⟩
theorem GoX.bind {m : Sem α} {f : α → Sem β} {R : Addr → Heap → Prop} (H : GoX c A m R h) : GoX c A (m >>= f) R h := fun tk => wpAny_bind (wpAny_mono (H tk) (fun _ _ x => x.elim) fun _ _ x => x)
theorem GoX.then {m : Sem α} {f : α → Sem β} {R : Addr → Heap → Prop} (H : Go c A m (fun a h' => GoX c A (f a) R h') h) : GoX c A (m >>= f) R h := fun tk =>
  wpAny_bind (wpAny_mono (H tk) (fun a s' ⟨h', tk', e, q⟩ => by subst e; exact q tk') fun _ _ x => x.elim)
theorem GoX.holding {vs : List Value} {m : Sem α} {R : Addr → Heap → Prop} (H : GoX c A m R h) : GoX c A (PySem.holding vs m) R h := fun tk => wpAny_holding (H tk)
theorem GoX.keep {vs : List Value} {m : Sem α} {R : Addr → Heap → Prop} (H : GoX c A m R h) : GoX c A (m.keep vs) R h := fun tk => wpAny_keep (H tk)
theorem GoX.stand {p : Pos} {f : Unit → Sem β} {R : Addr → Heap → Prop} (H : GoX c A (f ()) R h) : GoX c A (PySem.standAt p >>= f) R h := GoX.then (Go.standAt H)
theorem GoX.callW {pos : Pos} {f : Value} {first : List Value} {trees : List (Bool × Sem Value)} {R : Addr → Heap → Prop} (hst : trees.all (fun x => !x.1) = true)
    (H : Go c A (spliced trees) (fun vs h₁ => KeepOk c h₁ f ∧ GoX c A (PySem.call f (first ++ vs) []) R h₁) h) : GoX c A (callWith pos f first trees []) R h := by
  unfold callWith
  refine GoX.then (Go.holding (Go.evalArgs hst (H.mono fun vs h₁ q => ?_)))
  obtain ⟨⟨k, hk, L⟩, q⟩ := q
  refine GoX.stand ?_
  have ha : (trees.any (·.1) || ([] : List (Option Str × Sem Value)).any (·.1.isNone)) = false := by
    simp only [List.any_nil, Bool.or_false]
    cases z : trees.any (·.1) with
    | false => rfl
    | true =>
      obtain ⟨x, hx, hy⟩ := List.any_eq_true.mp z
      have := List.all_eq_true.mp hst x hx
      simp [hy] at this
  dsimp only
  refine GoX.then (Go.looks L ?_)
  simp only [List.any_nil, Bool.or_false] at ha
  simp only [List.any_nil, Bool.or_false, ha]
  cases k with
  | caller => exact absurd rfl hk
  | machine => exact GoX.bind q
  | frame =>
    dsimp only
    split
    · exact GoX.bind q
    · exact GoX.bind (GoX.keep q)
  | boundFrame =>
    dsimp only
    split
    · exact GoX.bind q
    · exact GoX.bind (GoX.keep q)
theorem GoX.callE {func args pos} {R : Addr → Heap → Prop} (he : eval (.Call func args [] pos) env = (do callWith pos (← eval func env) [] (backTo pos (starEach args env)) (backToKw pos (keywordEach [] env))))
    (hst : (backTo pos (starEach args env)).all (fun x => !x.1) = true)
    (H : Go c A (eval func env) (fun f h₁ => Go c A (spliced (backTo pos (starEach args env))) (fun vs h₂ => KeepOk c h₂ f ∧ GoX c A (PySem.call f vs []) R h₂) h₁) h) : GoX c A (eval (.Call func args [] pos) env) R h := by
  rw [he]
  refine GoX.then (H.mono fun f h₁ q => ?_)
  exact GoX.callW hst q
theorem GoX.method {o : Expr} {name : Str} {apos pos : Pos} {args : List Expr} {R : Addr → Heap → Prop} (hbase : attributeBase o name env (eval o env) = eval o env)
    (hst : (backTo pos (starEach args env)).all (fun x => !x.1) = true) (hn : args.length + 0 + 0 < 30) (hline : (apos.endLine == pos.line) = true)
    (H : Go c A (eval o env) (fun ov h₁ => Go c A (getMethod ov name (do return (← importBound o env).getD true)) (fun fr h₂ => Go c A (spliced (backTo pos (starEach args env))) (fun vs h₃ => KeepOk c h₃ fr.1 ∧ GoX c A (PySem.call fr.1 (fr.2 ++ vs) []) R h₃) h₂) h₁) h) :
    GoX c A (eval (.Call (.Attribute o name apos) args [] pos) env) R h := by
  rw [arm_eval_Call, hbase]
  refine GoX.then (H.mono fun ov h₁ q => ?_)
  refine GoX.stand ?_
  have hform : methodCallForm (args.length + ([] : List Keyword).length) (backTo pos (starEach args env)) (backToKw pos (keywordEach [] env)) = true := by
    have e : backToKw pos (keywordEach [] env) = [] := rfl
    unfold methodCallForm
    rw [hst, e]
    simpa using hn
  have hpos : methodCallPos true o env apos pos = Pure.pure pos := by unfold methodCallPos; simp [hline]
  unfold methodCall
  rw [hform]
  refine GoX.then (Go.holding (Go.mono q fun fr h₂ q => ?_))
  rw [hpos]
  exact GoX.then (Go.pure (GoX.callW hst q))
theorem GoX.cons {st rest} {R : Addr → Heap → Prop} (H : GoX c A (exec st env) R h) : GoX c A (execs (st :: rest) env) R h := by
  rw [execs_cons]
  exact GoX.bind H
theorem GoX.iff {test body orelse pos} {R : Addr → Heap → Prop} (H : Go c A (isTrue test env (eval test env)) (fun b h' => if b = true then GoX c A (execs body env) R h' else GoX c A (execs orelse env) R h') h) :
    GoX c A (exec (.If test body orelse pos) env) R h := by
  rw [exec_If]
  refine GoX.stand (GoX.then (H.mono fun b h' q => ?_))
  cases b <;> exact q
theorem GoX.expr {value : Expr} {pos : Pos} {R : Addr → Heap → Prop} (H : GoX c A (eval value env) R h) (hi : interactive env = false := by rfl) (hs : swapsWith value none pos.line env = Pure.pure false := by rfl) :
    GoX c A (exec (.Expr value pos) env) R h := by
  rw [arm_exec_Expr, hi]
  refine GoX.stand ?_
  simp only [Bool.false_eq_true, if_false]
  rw [hs]
  refine GoX.then (Go.pure ?_)
  simp only [Bool.false_eq_true, if_false]
  exact GoX.bind H
def GoXC (c : Cx) (A : Around) (k : Code) (R : Addr → Heap → Prop) (h : Heap) : Prop :=
  ∀ tk : Nat, codeAny (model PR c.w) A k (fun r s' => match r with | .ok _ => False | .error e => ∃ a h' tk', e = .ref a ∧ s' = ⟨h', c.g, c.d, tk', c.os⟩ ∧ R a h') ⟨h, c.g, c.d, tk, c.os⟩
theorem GoX.call {f : Value} {args : List Value} {R : Addr → Heap → Prop} (H : GoXC c A (.call f ⟨args, []⟩) R h) : GoX c A (PySem.call f args) R h := fun tk => by
  refine wpAny_runValue (codeAny_mono (H tk) fun r s' x => ?_)
  cases r with
  | ok f => exact x.elim
  | error e => exact x
theorem GoX.mcall {m : Addr} {f self : Value} {pos : List Value} {R : Addr → Heap → Prop} (hm : h.get? m = some (methodObj f self)) (H : GoXC c A (.call f ⟨self :: pos, []⟩) R h) : GoX c A (PySem.call (.ref m) pos) R h :=
  GoX.call fun tk => method_call hm (H tk)
/-- a call of a def of the text's that raises -/
theorem GoXC.defc {f : Addr} {args : List Value} {name qual : Str} {params : Arguments} {body : List Stmt} {scope : Scope} {dV kV doc pm cdv ct oc : Value} {an od : Option Addr} {osl : Array (Option Value)} {binds : List (Str × Value)} {R : Addr → Heap → Prop}
    (X : (Mine.hd.heap_39 c.w.params).In h) (e : (Mine.hd.heap_39 c.w.params).lookup f = some ⟨oc, od, .func (fnOf name qual params body scope dV kV doc pm an cdv ct), osl⟩) (hcd : codeIn (Mine.hd.heap_39 c.w.params) cdv qual = true)
    (e1 : nsOkIn (Mine.hd.heap_39 c.w.params) cStatics = true) (e2 : nsIn (Mine.hd.heap_39 c.w.params) cStatics "sys.recursionlimit" = some none)
    (hroom : A.depth < recursionLimit) (hbind : bindArgs (fnOf name qual params body scope dV kV doc pm an cdv ct) ⟨args, []⟩ = Pure.pure binds) (hloc : (binds.all fun x => decide (scope.names.lookup x.1 = some .local)) = true)
    (H : ∀ h₁, h₁.Ns h.objs.size (fun x => binds.reverse.lookup x) → Ext h h₁ → h.get? h.objs.size = none →
      GoX c (A.deeper (envOf qual scope h.objs.size f cdv)) (execs body (envOf qual scope h.objs.size f cdv)) (fun e h' => Go c (A.deeper (envOf qual scope h.objs.size f cdv)) (leaving (envOf qual scope h.objs.size f cdv) (.ref e)) (fun _ h'' => R e h'') h') h₁)
    (hcell : (scope.names.all fun x => x.2 != .cell) = true) (hco : scope.isCoroutine = false) (hgen : scope.isGenerator = false) (hk : scope.kind = .function) :
    GoXC c A (.call (.ref f) ⟨args, []⟩) R h := fun tk => by
  · refine codeAny_call_def (fd := fnOf name qual params body scope dV kV doc pm an cdv ct) (body := body) (binds := binds) hroom (X _ _ e) rfl (lim_of X e1 e2) (codeRec_of X hcd) rfl (.of_eq hbind) (fun x hx => by simpa using List.all_eq_true.mp hcell x hx) (locs hloc) (fun h₁ hns hk₁ => ?_) hco hgen hk
    refine wpAny_mono (H h₁ hns hk₁ (fresh_at h) _) (fun _ _ x => x.elim) fun e s' ⟨a, h', tk', e1, e2, q⟩ => ?_
    subst e1 e2
    exact wpAny_mono (q tk') (fun _ s'' ⟨h'', t'', e, r⟩ => ⟨a, h'', t'', rfl, e, r⟩) fun _ _ x => x.elim
/-- the frame that raises: what it makes flies on -/
theorem raise_leave {base h₂ h' : Heap} {l : List Env} {e L : Addr} {args : List Value} (hf : A.frames = some (env :: l)) (hL : env.frame = some L) (hk : env.scope.kind = .function) (B : Ext base h₂) (FF : h₂.FunFrames base l) (bL : base.get? L = none)
    (hns : ∃ o, h₂.get? L = some o ∧ ∀ vs, o.data ≠ .fields vs) (hm : Heap.MadeExc h₂ h' e "TypeError" args) : Go c A (leaving env (.ref e)) (fun _ h'' => ∃ a0, Heap.FlyingW base l e (.type "TypeError") a0 h'' ∧ h₂.UpToSlots h'') h' := fun tk => by
  obtain ⟨o, ho, hd⟩ := hns
  refine wpAny_leaves_madeW (base := base) (h := h₂) (L := L) hf hL B ⟨by rw [hk]; decide, ⟨L, o, hL, bL, ho, hd⟩, FF⟩ hm.of fun h'' t hfl _ _ us => ⟨h'', tk, rfl, _, hfl, (Heap.UpToSlots.of_keeps hm.keeps).trans us⟩
/-- raise TypeError(f'{..}..') -/
theorem GoX.raiseTE {x : Expr} {np cpos pos : Pos} {R : Addr → Heap → Prop} (hA : A.handled = none) (hn : Go c A (eval (.Name (Str.ofString "TypeError") np) env) (fun v h' => v = .type "TypeError" ∧ h' = h) h)
    (he : starEach [x] env = [(false, eval x env)]) (hx : Go c A (eval x env) (fun v h₁ => ∃ y t, v = .str y t ∧ ∀ h' e, Heap.MadeExc h₁ h' e "TypeError" [.str y t] → R e h') h) :
    GoX c A (exec (.Raise (some (.Call (.Name (Str.ofString "TypeError") np) [x] [] cpos)) none pos) env) R h := fun tk => by
  refine wpAny_Raise_call PySem.F.excCall_TypeError PySem.F.excRaise_TypeError hA (by rw [he]; rfl) ?_
  refine wpAny_mono (hn tk) (fun f s₁ ⟨h', tk', e, ef, eh⟩ => ?_) fun _ _ x => x.elim
  subst e ef eh
  refine ⟨rfl, ?_⟩
  have args : Go c A (PySem.evalArgs (.type "TypeError") true (backTo cpos (starEach [x] env)) []) (fun a h₁ => ∃ y t, a = ⟨[.str y t], []⟩ ∧ ∀ h' e, Heap.MadeExc h₁ h' e "TypeError" [.str y t] → R e h') h' := by
    refine Go.evalArgs (by rw [he]; rfl) ?_
    rw [he]
    refine Go.splcons (Go.mono (t := eval x env) hx ?_)
    rintro v h₁ ⟨y, t, rfl, q⟩
    exact Go.splnil ⟨y, t, rfl, q⟩
  refine wpAny_mono (args tk') (fun a s₂ ⟨h₂, t₂, e, y, t, ea, q⟩ => ?_) fun _ _ x => x.elim
  subst e ea
  exact ⟨rfl, by rw [sizeLine_eq]; simp, fun h' e hm => ⟨e, h', t₂, rfl, rfl, q h' e hm⟩⟩
end
end Mine
namespace Mine
theorem ns_3 {h : Heap} {L : Addr} {a b d : Str} {v u w : Value} (N : h.Ns L fun x => [(a, v), (b, u), (d, w)].reverse.lookup x) : h.Ns L (upd (upd (upd none0 a v) b u) d w) := by
  have e : (fun x => [(a, v), (b, u), (d, w)].reverse.lookup x) = upd (upd (upd none0 a v) b u) d w :=
    (lookup_upd d w [(b, u), (a, v)]).trans (congrArg (fun m => upd m d w) ((lookup_upd b u [(a, v)]).trans (congrArg (fun m => upd m b u) (lookup_upd a v []))))
  exact e ▸ N
theorem ns_nofields {h : Heap} {L : Addr} {m : VMap} (N : h.Ns L m) : ∃ o, h.get? L = some o ∧ ∀ vs, o.data ≠ .fields vs := by
  obtain ⟨o, es, ep, e, d, _⟩ := N
  exact ⟨o, e, fun vs q => by rw [d] at q; cases q⟩
theorem ff_keeps {h h' base : Heap} {l : List Env} (F : h.FunFrames base l) (E : Ext h h') : h'.FunFrames base l := F.of_keeps fun b o e _ => ⟨o, E _ _ e, rfl⟩
section
variable {c : Cx} {A : Around} {h : Heap} {env : Env}
local macro_rules | `(tactic| x_close) => `(tactic| exact ⟨_, _, rfl, meth_out (by assumption)⟩)
theorem ga_rdV {x xd p : Addr} {t} (KX : (Mine.hd.heap_39 c.w.params).In h) (h1 : h.get? x = some ⟨.ref 352, some xd, .plain, #[some (.ref p)]⟩) (h2 : h.get? xd = some ⟨.type "dict", none, .dict #[] 0, #[]⟩) :
    Go c (AA 700 700) (PySem.runValue (.builtin "proto.getattr_hooked" ⟨[.ref x, .str (Str.ofString "_readonly") t], []⟩)) (MethOut h (.ref 43) x) h := fun tk => by
  x_run
theorem gm_rdV {x xd p : Addr} {pl : Sem Bool} {Q : Value × List Value → Heap → Prop} (X : (Mine.hd.heap_39 c.w.params).In h) (h1 : h.get? x = some ⟨.ref 352, some xd, .plain, #[some (.ref p)]⟩) (h2 : h.get? xd = some ⟨.type "dict", none, .dict #[] 0, #[]⟩) (hA : A.handled = none) (hd : A.depth ≤ 700) (hu : A.units ≤ 700)
    (H : ∀ m h', Ext h h' → h'.get? m = some (methodObj (.ref 43) (.ref x)) → Q (.ref m, []) h') : Go c A (getMethod (.ref x) (Str.ofString "_readonly") pl) Q h := by
  unfold getMethod
  refine Go.bind (Go.looks (r := some (.builtin "object.__getattribute__")) ((dc_type h1).andThen (looks_findIn X (by k_is))) ?_)
  dsimp only
  rw [if_neg (by decide +kernel)]
  refine Go.bind (Go.looks (r := some (.ref 269)) ((dc_type h1).andThen (looks_findIn X (by k_is))) ?_)
  rw [if_pos (by rfl)]
  refine Go.bind (Go.getAttr1 (C := 352) X h1 rfl (by k_is) fun t => (Go.up (A := A) (ga_rdV X h1 h2) hA hd hu).mono fun v h₁ ⟨m, e, E1, hm⟩ => ?_)
  subst e
  exact ⟨rfl, Go.pure (H m h₁ E1 hm)⟩
/-- _immutable_fn(obj) -/
theorem imm_raises {base : Heap} {l : List Env} {x xd : Addr} {es ep} (X : (Mine.hd.heap_39 c.w.params).In h) (B : Ext base h) (FF : h.FunFrames base l) (hf : A.frames = some l) (hA : A.handled = none) (hd : A.depth ≤ 600) (hu : A.units ≤ 600)
    (h1 : h.get? x = some ⟨.ref 194, some xd, .dict es ep, #[]⟩) (h2 : h.get? xd = some ⟨.type "dict", none, .dict #[] 0, #[]⟩) : GoXC c A (.call (.ref 28) ⟨[.ref x], []⟩) (fun e h' => ∃ a0, Heap.FlyingW base l e (.type "TypeError") a0 h' ∧ h.UpToSlots h') h := by
  refine' GoXC.defc X ?e1 ?e2 ?e3 ?e4 ?e5 ?e6 ?e7 ?H ?e8 ?e9 ?e10 ?e11
  case e1 => k_is
  case e2 => k_is
  case e3 => kernel_rfl
  case e4 => k_is
  case e5 => show _ < 1000; omega
  case e6 => exact rfl
  case e7 => kernel_rfl
  case e8 => kernel_rfl
  case e9 => rfl
  case e10 => rfl
  case e11 => rfl
  case H =>
    intro h₁ N E F
    replace N := ns_1 N
    have X1 := X.keeps E
    refine GoX.cons (GoX.raiseTE hA ?_ rfl ?_)
    · walk_at "e_name"
      exact ⟨rfl, rfl⟩
    · refine Go.joined2 (className_i X1 (E _ _ h1) (E _ _ h2) rfl rfl ?_ hA (by show A.depth + 1 ≤ 700; omega) (by show A.units + 3 ≤ 700; omega) ?_)
      · walk_at "e_name"
        exact ⟨rfl, rfl⟩
      · rintro v h₂ ⟨y, t, rfl, hy, E2⟩
        refine ⟨y, t, rfl, hy, Go.constStr fun u => ⟨_, u, rfl, by decide +kernel, fun s t => ⟨s, t, rfl, fun h' e hm => ?_⟩⟩⟩
        refine Go.mono (raise_leave (by show A.frames.map _ = _; rw [hf]; rfl) rfl rfl (B.trans (E.trans E2)) (ff_keeps FF (E.trans E2)) (B.fresh F) (ns_nofields (ns_keeps N E2)) hm) ?_
        rintro _ h3 ⟨a0, fl, us⟩
        exact ⟨a0, fl, (Heap.UpToSlots.of_keeps (E.trans E2)).trans us⟩
/-- view._readonly() -/
theorem rd_raises {base : Heap} {l : List Env} {x xd p : Addr} (X : (Mine.hd.heap_39 c.w.params).In h) (B : Ext base h) (FF : h.FunFrames base l) (hf : A.frames = some l) (hA : A.handled = none) (hd : A.depth ≤ 600) (hu : A.units ≤ 600)
    (h1 : h.get? x = some ⟨.ref 352, some xd, .plain, #[some (.ref p)]⟩) (h2 : h.get? xd = some ⟨.type "dict", none, .dict #[] 0, #[]⟩) : GoXC c A (.call (.ref 43) ⟨[.ref x], []⟩) (fun e h' => ∃ a0, Heap.FlyingW base l e (.type "TypeError") a0 h' ∧ h.UpToSlots h') h := by
  refine' GoXC.defc X ?e1 ?e2 ?e3 ?e4 ?e5 ?e6 ?e7 ?H ?e8 ?e9 ?e10 ?e11
  case e1 => k_is
  case e2 => k_is
  case e3 => kernel_rfl
  case e4 => k_is
  case e5 => show _ < 1000; omega
  case e6 => exact rfl
  case e7 => kernel_rfl
  case e8 => kernel_rfl
  case e9 => rfl
  case e10 => rfl
  case e11 => rfl
  case H =>
    intro h₁ N E F
    replace N := ns_1 N
    have X1 := X.keeps E
    refine GoX.cons (GoX.raiseTE hA ?_ rfl ?_)
    · walk_at "e_name"
      exact ⟨rfl, rfl⟩
    · refine Go.joined2 (className_v X1 (E _ _ h1) (E _ _ h2) rfl rfl ?_ hA (by show A.depth + 1 ≤ 700; omega) (by show A.units + 3 ≤ 700; omega) ?_)
      · walk_at "e_name"
        exact ⟨rfl, rfl⟩
      · rintro v h₂ ⟨y, t, rfl, hy, E2⟩
        refine ⟨y, t, rfl, hy, Go.constStr fun u => ⟨_, u, rfl, by decide +kernel, fun s t => ⟨s, t, rfl, fun h' e hm => ?_⟩⟩⟩
        refine Go.mono (raise_leave (by show A.frames.map _ = _; rw [hf]; rfl) rfl rfl (B.trans (E.trans E2)) (ff_keeps FF (E.trans E2)) (B.fresh F) (ns_nofields (ns_keeps N E2)) hm) ?_
        rintro _ h3 ⟨a0, fl, us⟩
        exact ⟨a0, fl, (Heap.UpToSlots.of_keeps (E.trans E2)).trans us⟩
/-- _immutable_fn(obj) called from a frame that it then leaves -/
theorem imm_through {base : Heap} {l : List Env} {x xd L : Addr} {es ep} (X : (Mine.hd.heap_39 c.w.params).In h) (B : Ext base h) (FF : h.FunFrames base l) (hf : A.frames = some l) (hA : A.handled = none) (hd : A.depth ≤ 500) (hu : A.units ≤ 500)
    (h1 : h.get? x = some ⟨.ref 194, some xd, .dict es ep, #[]⟩) (h2 : h.get? xd = some ⟨.type "dict", none, .dict #[] 0, #[]⟩) (hL : env.frame = some L) (hk : env.scope.kind = .function) (bL : base.get? L = none) (hns : ∃ o, h.get? L = some o ∧ ∀ vs, o.data ≠ .fields vs) :
    GoX c (A.deeper env) (PySem.call (.ref 28) [.ref x]) (fun e h' => Go c (A.deeper env) (leaving env (.ref e)) (fun _ h'' => ∃ a0, Heap.FlyingW base l e (.type "TypeError") a0 h'' ∧ h.UpToSlots h'') h') h := by
  obtain ⟨o, eo, no⟩ := hns
  have hf' : (A.deeper env).frames = some (env :: l) := by show A.frames.map _ = _; rw [hf]; rfl
  refine GoX.mono (GoX.call (imm_raises (base := base) (l := env :: l) X B ⟨(by rw [hk]; intro q; cases q), ⟨_, o, hL, bL, eo, no⟩, FF⟩ hf' hA (by show A.depth + 1 ≤ 600; omega) (by show A.units + 3 ≤ 600; omega) h1 h2)) ?_
  rintro e h' ⟨a0, hfl, us⟩ tk2
  exact wpAny_leaves_onW hf' hL hfl fun h'' hfl' us' => ⟨h'', tk2, rfl, a0, hfl', us.trans us'⟩
/-- d[k] = v of one that was made immutable -/
theorem set_raises {base : Heap} {l : List Env} {x xd : Addr} {es ep} {kv vv : Value} (X : (Mine.hd.heap_39 c.w.params).In h) (B : Ext base h) (FF : h.FunFrames base l) (hf : A.frames = some l) (hA : A.handled = none) (hd : A.depth ≤ 500) (hu : A.units ≤ 500)
    (h1 : h.get? x = some ⟨.ref 194, some xd, .dict es ep, #[]⟩) (h2 : h.get? xd = some ⟨.type "dict", none, .dict #[] 0, #[]⟩) : GoXC c A (.call (.ref 91) ⟨[.ref x, kv, vv], []⟩) (fun e h' => ∃ a0, Heap.FlyingW base l e (.type "TypeError") a0 h' ∧ h.UpToSlots h') h := by
  refine' GoXC.defc X ?e1 ?e2 ?e3 ?e4 ?e5 ?e6 ?e7 ?H ?e8 ?e9 ?e10 ?e11
  case e1 => k_is
  case e2 => k_is
  case e3 => kernel_rfl
  case e4 => k_is
  case e5 => show _ < 1000; omega
  case e6 => exact rfl
  case e7 => kernel_rfl
  case e8 => kernel_rfl
  case e9 => rfl
  case e10 => rfl
  case e11 => rfl
  case H =>
    intro h₁ N E F
    replace N := ns_3 N
    have X1 := X.keeps E
    refine GoX.cons (GoX.expr (GoX.callE rfl rfl ?_))
    walk_at "e_name"
    refine Go.spc ?_
    walk_at "e_name"
    have bL := B.fresh F
    obtain ⟨o, eo, no⟩ := ns_nofields N
    refine Go.spn ⟨keep_K X1 (by k_is), GoX.mono (imm_through X1 (B.trans E) (ff_keeps FF E) hf hA hd hu (E _ _ h1) (E _ _ h2) rfl rfl bL ⟨o, eo, no⟩) ?_⟩
    intro e h' q
    refine q.mono ?_
    rintro _ h3 ⟨a0, fl, us⟩
    exact ⟨a0, fl, (Heap.UpToSlots.of_keeps E).trans us⟩
/-- o[i] = value, where the store raises -/
theorem GoX.asgSub {o i value : Expr} {p pos : Pos} {R : Addr → Heap → Prop} (hs : swapsWithSole [.Subscript o i p] value pos.line env = Pure.pure false) (hw : swappedStores [.Subscript o i p] value env = Pure.pure none)
    (H : Go c A (eval value env) (fun v h₁ => Go c A (eval o env) (fun ov h₂ => Go c A (eval i env) (fun iv h₃ => GoX c A (setItem ov iv v) R h₃) h₂) h₁) h) : GoX c A (exec (.Assign [.Subscript o i p] value pos) env) R h := by
  rw [arm_exec_Assign, hs]
  refine GoX.stand (GoX.then (Go.pure ?_))
  rw [if_neg (by decide)]
  refine GoX.then (H.mono fun v h₁ q => ?_)
  rw [hw]
  refine GoX.then (Go.pure ?_)
  show GoX (α := Flow) c A (assignAll v ((assignEach [.Subscript o i p] env).map (·.2)) >>= fun _ => Pure.pure Flow.next) R h₁
  refine GoX.bind ?_
  show GoX c A (assign (.Subscript o i p) env v) _ h₁
  rw [arm_assign_Subscript]
  exact GoX.then (Go.holding (Go.mono q fun ov h₂ q => GoX.then (Go.holding (Go.mono q fun iv h₃ q => GoX.stand (GoX.bind (GoX.holding q))))))
theorem setItem_raises {base : Heap} {l : List Env} {x xd : Addr} {es ep} {k : Str} {t : Tok} {vv : Value} (X : (Mine.hd.heap_39 c.w.params).In h) (B : Ext base h) (FF : h.FunFrames base l) (hf : A.frames = some l) (hA : A.handled = none) (hd : A.depth ≤ 500) (hu : A.units ≤ 500)
    (h1 : h.get? x = some ⟨.ref 194, some xd, .dict es ep, #[]⟩) (h2 : h.get? xd = some ⟨.type "dict", none, .dict #[] 0, #[]⟩) : GoX c A (setItem (.ref x) (.str k t) vv) (fun e h' => ∃ a0, Heap.FlyingW base l e (.type "TypeError") a0 h' ∧ h.UpToSlots h') h := by
  have L : Looks (model PR c.w) h (typeOf (.ref x)) (.ref 194) := dc_type h1
  unfold setItem
  refine GoX.holding (GoX.then (Go.looks (r := .str k t) (L.andThen ?_) ?_))
  · have hs : noSeq (Mine.hd.heap_39 c.w.params) 194 = true := by k_is
    dsimp only
    refine (anyM_none X hs).andThen ?_
    rw [if_pos (by rfl)]
    exact Looks.now
  refine GoX.bind ?_
  unfold callSpecial?
  refine GoX.then (Go.looks (r := some (.ref 91)) (L.andThen (looks_findIn X (by k_is))) (GoX.holding ?_))
  exact GoX.then (Go.looks (bind_fn X _ (by k_is)) (GoX.bind (GoX.call (set_raises X B FF hf hA hd hu h1 h2))))
/-- try: .. except TypeError: .. -/
theorem Go.tryTE {body suite orelse : List Stmt} {b₀ : Stmt} {np pos hpos : Pos} {Q : Flow → Heap → Prop} {base : Heap} {l : List Env} {L : Addr} (hf : A.frames = some (env :: l)) (hL : env.frame = some L)
    (hB : GoX c A (execs body env) (fun e h' => ∃ a0, Heap.FlyingW base (env :: l) e (.type "TypeError") a0 h' ∧ h.UpToSlots h') h)
    (hn : ∀ A' h', Ext base h' → Go c A' (eval (.Name (Str.ofString "TypeError") np) env) (fun v h'' => v = .type "TypeError" ∧ h'' = h') h')
    (k : ∀ e h', Ext base h' → h.UpToSlots h' → Go c (A.mark (some e)) (execs (b₀ :: suite) env) Q h') : Go c A (exec (.Try body [.ExceptHandler (some (.Name (Str.ofString "TypeError") np)) none (b₀ :: suite) hpos] orelse [] pos) env) Q h := fun tk => by
  refine wpAny_Try_except (wpAny_mono (hB tk) (fun _ _ x => x.elim) fun e s₁ ⟨a, h', tk', e1, e2, a0, hfl, us⟩ => ?_)
  subst e1 e2
  refine wpAny_looks_onW hf hL hfl fun h₂ hheld us2 => ?_
  refine wpAny_landsW hheld fun h₃ hfl3 us3 => ?_
  refine wpAny_handleBy_builtin (X := "TypeError") (T := "TypeError") (b := true) PySem.F.excRaise_TypeError.isExc (by rw [isSubtype_type]; kernel_rfl) (by rw [isSubtype_type]; kernel_rfl) ?_
  refine wpAny_mono (hn (A.mark (some (.ref a))) h₃ hfl3.1 tk') (fun v s₂ ⟨h₄, t₄, e, ev, eh⟩ => ?_) fun _ _ x => x.elim
  subst e ev eh
  obtain ⟨ob, hob, hcl⟩ := hfl3.there
  refine ⟨rfl, ⟨ob, hob, hcl⟩, ?_⟩
  rw [if_pos rfl]
  refine wpAny_setFlight_noneW (fl := .none) hfl3.1 hfl3.2.2.1 hfl3.2.2.2.at fun h₅ k1 k2 k3 k4 => ?_
  exact wpAny_mono (k (.ref a) h₅ k1 (((us.trans us2).trans us3).trans fun b o e nf => ⟨o.slots, k4 b o e nf⟩) t₄) (fun f s₆ z => z) fun _ _ x => x.elim
theorem ff_hide {hh g : Heap} {fs : List Addr} {l : List Env} (F : hh.FunFrames g l) (hs : ∀ b ∈ l.filterMap (·.frame), b ∈ fs) : hh.FunFrames (hideAll hh fs) l := by
  induction l with
  | nil => exact F
  | cons env l ih =>
    obtain ⟨a, ⟨L, o, hL, hg, ho, hd⟩, r⟩ := F
    refine ⟨a, ⟨L, o, hL, hideAll_none _ (hs L (by simp [hL])), ho, hd⟩, ih r fun b hb => hs b ?_⟩
    rw [List.filterMap_cons, hL]
    exact List.mem_cons_of_mem _ hb
end
end Mine
namespace Mine
theorem ff_on {hh hT base : Heap} {l : List Env} (F : hh.FunFrames base l) (k : ∀ b ∈ l.filterMap (·.frame), ∀ o, hh.get? b = some o → (∀ vs, o.data ≠ .fields vs) → ∃ o', hT.get? b = some o' ∧ o'.data = o.data) : hT.FunFrames base l := by
  induction l with
  | nil => exact F
  | cons env l ih =>
    obtain ⟨a, ⟨L, o, hL, hg, ho, hd⟩, r⟩ := F
    obtain ⟨o', e', d'⟩ := k L (by simp [hL]) o ho hd
    refine ⟨a, ⟨L, o', hL, hg, e', fun vs q => hd vs (d'.symm.trans q)⟩, ih r fun b hb => k b ?_⟩
    rw [List.filterMap_cons, hL]
    exact List.mem_cons_of_mem _ hb
section
variable {c : Cx} {A : Around} {h : Heap}
theorem shut_spec {g : Heap} {l : List Env} {x xd v vd p : Addr} {es ep} (X : (Mine.hd.heap_39 c.w.params).In g) (G : Ext g h) (h1 : g.get? x = some ⟨.ref 194, some xd, .dict es ep, #[]⟩) (h2 : g.get? xd = some ⟨.type "dict", none, .dict #[] 0, #[]⟩)
    (h3 : g.get? v = some ⟨.ref 352, some vd, .plain, #[some (.ref p)]⟩) (h4 : g.get? vd = some ⟨.type "dict", none, .dict #[] 0, #[]⟩) (hA : A.handled = none) (hf : A.frames = some l) (F : h.FunFrames g l) (hd : A.depth ≤ 400) (hu : A.units ≤ 400) :
    Go c A (PySem.call (.ref 426) [.ref x, .ref v]) (fun r h' => r = .bool true ∧ Ext g h') h := by
  have X0 := X.keeps G
  walk_at "e_def"
  intro h₁ N E F0
  replace N := ns_2 N
  have gL : g.get? h.objs.size = none := G.fresh F0
  refine Go.cons (Go.mono (Q := fun f h' => f = .next ∧ Ext g h') ?loop ?cont)
  case cont =>
    rintro f h' ⟨rfl, E'⟩
    dsimp only
    exact Go.cons (Go.ret (Go.constBool ⟨rfl, E'⟩))
  case loop =>
    refine Go.forS ?_ (hA := hA)
    refine Go.callE rfl rfl ?_
    have X1 := X0.keeps E
    walk_at "e_name"
    refine Go.spc (Go.constInt fun t3 => Go.spn ⟨keep_plain (fun a e => by cases e), ?_⟩)
    refine Go.callRange (n := 3) fun r h₂ tu tv tw R2 E2 fr2 => ?_
    refine Go.iterRange (n := 3) R2 (by decide) fun h₃ it f3 R3 E3 => ?_
    have itL : it ≠ h.objs.size := ns_ne (ns_keeps N E2) f3
    have E13 := E2.trans E3
    have git : g.get? it = none := (G.trans (E.trans E2)).fresh f3
    refine GoC.forLoop (fun i hh => Ext g hh ∧ IsRangeIter hh it ((i : Nat) : Int) (((3 : Nat) : Int) - ((i : Nat) : Int)) 1 ∧ (∃ m : VMap, hh.Ns h.objs.size m ∧ m (Str.ofString "d") = some (.ref x) ∧ m (Str.ofString "view") = some (.ref v)) ∧ hh.FunFrames g l) 3 ?j0 ?step ?fin
    case j0 => exact ⟨G.trans (E.trans E13), R3, ⟨_, ns_keeps N E13, by walk_at "e_mv", by walk_at "e_mv"⟩, ff_keeps F (E.trans E13)⟩
    case fin =>
      rintro hh ⟨Eh, Rh, _, _⟩
      exact Go.endRange Rh (by decide) (fun h' b => ⟨rfl, rfl, Eh.thru b git⟩) hA
    case step =>
      rintro i hh hi ⟨Eh, Rh, ⟨m, Nm, md, mv⟩, FF⟩
      refine Go.nextRange Rh (by omega) fun ti h' R' s' => ⟨_, rfl, Go.letGoName ?_⟩
      have b1 := but_of_same s'
      refine Go.asgName (Go.stl rfl (by kernel_rfl) (ns_but Nm b1 (Ne.symm itL)) fun hT NT sT => ?_)
      have bT : But h.objs.size h' hT := but_of_same sT
      have GT : Ext g hT := (Eh.thru b1 git).thru bT gL
      have RT : IsRangeIter hT it (((i : Nat) : Int) + 1) (((3 : Nat) : Int) - ((i : Nat) : Int) - 1) 1 := rIter_but R' bT itL
      have e1 : ((i : Nat) : Int) + 1 = ((i + 1 : Nat) : Int) := by push_cast; rfl
      have e2 : ((3 : Nat) : Int) - ((i : Nat) : Int) - 1 = ((3 : Nat) : Int) - ((i + 1 : Nat) : Int) := by push_cast; omega
      rw [e1, e2] at RT
      have NT' : hT.Ns h.objs.size (upd m (Str.ofString "k") (.int ((i : Nat) : Int) ti)) := NT
      have itn : ∀ o, hh.get? it = some o → ∃ vs, o.data = .fields vs := fun o e => by
        rw [show hh.get? it = some _ from Rh] at e; cases e; exact ⟨_, rfl⟩
      have FT : hT.FunFrames g l := ff_on FF fun b hb o e nf => by
        have bL : b ≠ h.objs.size := by
          rintro rfl
          obtain ⟨_, o', z, _⟩ := F.mem hb
          rw [F0] at z; cases z
        exact ⟨o, bT b o bL (b1 b o (fun q' => by subst q'; obtain ⟨vs, z⟩ := itn o e; exact nf vs z) e), rfl⟩
      have hid : ∀ b ∈ h.objs.size :: l.filterMap (·.frame), g.get? b = none := by
        intro b hb
        rcases List.mem_cons.mp hb with rfl | hb
        · exact gL
        · exact (F.mem hb).1
      have Eb := ext_hide GT hid
      have Bb := hide_ext hT (h.objs.size :: l.filterMap (·.frame))
      have itf : it ∉ h.objs.size :: l.filterMap (·.frame) := by
        intro hb
        rcases List.mem_cons.mp hb with q | hb
        · exact itL q
        · obtain ⟨_, o', z, nf⟩ := FT.mem hb
          rw [show hT.get? it = some _ from RT] at z; cases z
          exact nf _ rfl
      have itb := hideAll_get (h.objs.size :: l.filterMap (·.frame)) (show hT.get? it = some _ from RT) itf
      have FFl : hT.FunFrames (hideAll hT (h.objs.size :: l.filterMap (·.frame))) l := ff_hide FT fun b hb => List.mem_cons_of_mem _ hb
      have bL0 : (hideAll hT (h.objs.size :: l.filterMap (·.frame))).get? h.objs.size = none := hideAll_none _ List.mem_cons_self
      have XT := X.keeps GT
      generalize hideAll hT (h.objs.size :: l.filterMap (·.frame)) = base at Eb Bb itb FFl bL0
      obtain ⟨oL, eL, nL⟩ := ns_nofields NT'
      refine Go.cons (Go.tryTE (base := base) (l := l) (L := h.objs.size) (by show A.frames.map _ = _; rw [hf]; rfl) rfl ?body ?name ?k)
      case name =>
        intro A' h' E'
        have X' := (X.keeps Eb).keeps E'
        walk_at "e_name"
        exact ⟨rfl, rfl⟩
      case k =>
        intro e h' E' us
        refine Go.cons (Go.cont ?_)
        exact ⟨Eb.trans E', E' _ _ itb, ⟨_, us.ns NT', by walk_at "e_mv", by walk_at "e_mv"⟩, FT.of_keeps fun b o e nf => by
          obtain ⟨sl, z⟩ := us b o e nf
          exact ⟨_, z, rfl⟩⟩
      case body =>
        have hf' : ∀ env : Env, (A.deeper env).frames = some (env :: l) := fun env => by show A.frames.map _ = _; rw [hf]; rfl
        have h1T := GT _ _ h1
        have h2T := GT _ _ h2
        refine GoX.cons (GoX.iff (Go.tcmp ?_))
        walk_at "e_name"
        refine Go.constInt fun t0 => Go.eqInt (Go.truthyBool ?_)
        have hi3 : i = 0 ∨ i = 1 ∨ i = 2 := by omega
        rcases hi3 with rfl | rfl | rfl
        · rw [if_pos (by decide)]
          refine GoX.cons (GoX.expr (GoX.callE rfl rfl ?_))
          walk_at "e_name"
          refine Go.spc ?_
          walk_at "e_name"
          refine Go.spn ⟨keep_K XT (by k_is), GoX.call ?_⟩
          exact imm_raises XT Bb ⟨(by intro q; cases q), ⟨_, oL, rfl, bL0, eL, nL⟩, FFl⟩ (hf' _) hA (by show A.depth + 1 ≤ 600; omega) (by show A.units + 3 ≤ 600; omega) h1T h2T
        · rw [if_neg (by decide)]
          refine GoX.cons (GoX.iff (Go.tcmp ?_))
          walk_at "e_name"
          refine Go.constInt fun t0 => Go.eqInt (Go.truthyBool ?_)
          rw [if_pos (by decide)]
          refine GoX.cons (GoX.expr (GoX.method rfl rfl (by decide) rfl ?_))
          walk_at "e_name"
          refine gm_rdV XT (GT _ _ h3) (GT _ _ h4) hA (by show A.depth + 1 ≤ 700; omega) (by show A.units + 3 ≤ 700; omega) fun mm h' E' hmm => ?_
          have X' := XT.keeps E'
          refine Go.spn ⟨?keep, ?_⟩
          case keep =>
            refine' keep_meth X' hmm ?e
            case e => k_is
          refine GoX.mono (GoX.mcall hmm (rd_raises (l := _ :: l) X' (Bb.trans E') ?ff (hf' _) hA (by show A.depth + 1 ≤ 600; omega) (by show A.units + 3 ≤ 600; omega) (E' _ _ (GT _ _ h3)) (E' _ _ (GT _ _ h4)))) ?_
          case ff => exact ⟨(by intro q; cases q), ⟨_, oL, rfl, bL0, E' _ _ eL, nL⟩, ff_keeps FFl E'⟩
          rintro e h'' ⟨a0, fl, us⟩
          exact ⟨a0, fl, (Heap.UpToSlots.of_keeps E').trans us⟩
        · rw [if_neg (by decide)]
          refine GoX.cons (GoX.iff (Go.tcmp ?_))
          walk_at "e_name"
          refine Go.constInt fun t0 => Go.eqInt (Go.truthyBool ?_)
          rw [if_neg (by decide)]
          refine GoX.cons (GoX.asgSub rfl rfl ?_)
          refine Go.constInt fun t1 => ?_
          walk_at "e_name"
          refine Go.constStr fun ta => ?_
          exact setItem_raises XT Bb ⟨(by intro q; cases q), ⟨_, oL, rfl, bL0, eL, nL⟩, FFl⟩ (hf' _) hA (by show A.depth + 1 ≤ 500; omega) (by show A.units + 3 ≤ 500; omega) h1T h2T
end
end Mine
namespace Mine
section
variable {α β : Type} {c : Cx} {A : Around} {h : Heap} {env : Env}
theorem law_spec {sc : Addr} {svs : List Value} {ns : List Int} (X : (Mine.hd.heap_39 c.w.params).In h) (Cm : Calm h) (hsc : h.IsList sc svs.toArray) (hi : IntsAre svs ns) (hlen : svs.length ≤ 63) (hA : A.handled = none) (hd : A.depth ≤ 350) (hf : A.frames = some []) (hu : A.units ≤ 250) :
    Go c A (PySem.call (.ref 431) [.ref sc]) (fun v h' => v = .bool true ∧ Ext h h') h := by
  refine' Go.defcc (Str.ofString "told") (upd none0 (Str.ofString "script") (.ref sc)) none ?X ?e1 ?e2 ?e3 ?e4 ?e5 ?e6 ?cs ?cc ?cl ?e7 ?H ?e9 ?e10 ?e11
  case X => assumption
  case e1 => k_is
  case e2 => k_is
  case e3 => kernel_rfl
  case e4 => k_is
  case e5 => show _ < 1000; omega
  case e6 => exact rfl
  case cs => intro L; kernel_rfl
  case cc => kernel_rfl
  case cl => kernel_rfl
  case e7 => kernel_rfl
  case e9 => rfl
  case e10 => rfl
  case e11 => rfl
  case H =>
    intro h₁ N XC E f1 f2
    have X1 := X.keeps E
    refine Go.cons (Go.asg (Go.mono (Q := fun v h' => ∃ x t, v = .int x t ∧ h' = h₁) ?first ?c1))
    case first =>
      refine Go.ifexp (Go.tval ?_)
      walk_at "e_name"
      refine (fun tk => wpAny_truthy_list (hsc.at fun o e => E _ _ e) (by rw [List.size_toArray]; omega) ⟨_, _, rfl, ?_⟩)
      cases hi with
      | nil => rw [if_neg (by simp)]; exact Go.constInt fun t => ⟨_, t, rfl, rfl⟩
      | cons n t r =>
        rw [if_pos (by simp)]
        refine Go.subS ?_
        walk_at "e_name"
        refine Go.constInt fun t => ?_
        exact ⟨sc, _, _, _, _, rfl, rfl, .inr (hsc.at fun o e => E _ _ e), by decide, by decide, rfl, n, _, rfl, rfl⟩
    case c1 =>
      rintro v h' ⟨x, t, rfl, rfl⟩
      refine Go.stl rfl (by kernel_rfl) N fun h₂ N2 s2 => ?_
      dsimp only
      have E2 : Ext h h₂ := E.thru (but_of_same s2) f1
      refine Go.cons (Go.asg (Go.dict0 ?_))
      have f3 : h.get? h₂.objs.size = none := E2.fresh (fresh_at h₂)
      have f3' := fresh_at h₂
      generalize hp : h₂.objs.size = p at f3 f3'
      generalize hh3 : h₂.push ⟨.type "dict", none, .dict #[] 0, #[]⟩ = h₃
      have E23 : Ext h₂ h₃ := by rw [← hh3]; exact fun b o e => Heap.get?_push_of_some _ e
      have hp3 : h₃.get? p = some ⟨.type "dict", none, .dict #[] 0, #[]⟩ := by rw [← hh3, ← hp]; exact Heap.get?_push_size _ rfl
      have pL : p ≠ h.objs.size := ns_ne N2 f3'
      refine Go.stl rfl (by kernel_rfl) (ns_keeps N2 E23) fun h₄ N4 s4 => ?_
      dsimp only
      have E4 : Ext h h₄ := (E2.trans E23).thru (but_of_same s4) f1
      have hp4 := but_of_same s4 _ _ pL hp3
      have X4 := X.keeps E4
      refine Go.cons (Go.forFill (g := h) (d := p) (cls := .type "dict") (dct := none) (.inl rfl) X f3 f1 pL rfl (by kernel_rfl) (by kernel_rfl) (by kernel_rfl) (by decide +kernel) (by decide +kernel) (by decide +kernel) (by kernel_rfl) (by kernel_rfl) (by kernel_rfl) hA ?_)
      refine Go.callE rfl rfl ?_
      walk_at "e_name"
      refine Go.spc ?_
      walk_at "e_name"
      refine Go.spn ⟨keep_K X4 (by k_is), ?_⟩
      refine rows_spec X E4 Cm hA (by show A.depth + 1 ≤ 400; omega) (by show A.frames.map _ = _; rw [hf]; rfl) fun ra h₅ E5 hR fr => ?_
      obtain ⟨vs, hl5, rs5⟩ := hR h₅ (E4.trans E5) (New.self _ _)
      refine ⟨ra, vs, rowsOf x, _, _, _, rfl, E4.trans E5, hl5, rs5, Nat.le_trans (rows_len x) (by decide), ns_keeps N4 E5, by walk_at "e_mv", E5 _ _ hp4, rfl, fun h₆ es ep m6 K6 hp6 y6 N6 hm6 => ?_⟩
      dsimp only
      have K6' : ∀ b o, b ≠ p → b ≠ h.objs.size → h₅.get? b = some o → h₆.get? b = some o := K6
      rw [putAll_nil (rows_nodup x)] at y6
      have w_start : m6 (Str.ofString "start") = some (.ref p) := (hm6 _ (by decide +kernel) (by decide +kernel)).trans (by walk_at "e_mv")
      have w_script : m6 (Str.ofString "script") = some (.ref sc) := (hm6 _ (by decide +kernel) (by decide +kernel)).trans (by walk_at "e_mv")
      have E6 : Ext h h₆ := fun b o e => K6' b o (fun q => by subst q; rw [f3] at e; cases e) (fun q => by subst q; rw [f1] at e; cases e) (E5 _ _ (E4 _ _ e))
      have X6 := X.keeps E6
      have XC6 : ∃ v, h₆.IsCell (h.objs.size + 1) v := by
        obtain ⟨o, e, q⟩ := XC
        have e2 := but_of_same s2 _ _ (by show h.objs.size + 1 ≠ h.objs.size; omega) e
        have cp : h.objs.size + 1 ≠ p := by intro q; rw [q, f3'] at e2; cases e2
        exact ⟨_, o, K6 _ _ cp (by show h.objs.size + 1 ≠ h.objs.size; omega) (E5 _ _ (but_of_same s4 _ _ (by show h.objs.size + 1 ≠ h.objs.size; omega) (E23 _ _ e2))), q⟩
      have pS : (p == sysModules) = false := notSys X f3
      -- cur, feed, shelf = ..
      refine Go.cons (Go.swap (names := [Str.ofString "cur", Str.ofString "feed", Str.ofString "shelf"]) rfl (by kernel_rfl) hA ?_)
      refine Go.tuple (Go.spc (Go.callE rfl rfl ?_))
      walk_at "e_name"
      refine Go.spc ?_
      walk_at "e_name"
      refine Go.spn ⟨keep_K X6 (by k_is), ?_⟩
      refine Go.immOf X6 hp6 y6 pS (by have := rows_len x; omega) hA (by show A.depth + 1 ≤ 600; omega) (by show A.units + 3 ≤ 600; omega) fun cur xd h₇ es7 ep7 E7 fi fxd hi7 y7 hxd7 => ?_
      rw [putAll_nil (rows_nodup x)] at y7
      have N7 := ns_keeps N6 E7
      have X7 := X6.keeps E7
      refine Go.spc (Go.callE rfl rfl ?_)
      walk_at "e_name"
      refine Go.spc (Go.slice12 ?_)
      walk_at "e_name"
      refine Go.constInt fun ta => Go.constInt fun tb => ?_
      have E67 := E6.trans E7
      refine ⟨sc, svs.toArray, _, _, _, _, rfl, rfl, rfl, hsc.at fun o e => E67 _ _ e, by rw [List.size_toArray]; omega, fun h₈ rs E8 frs hrs => ?_⟩
      refine Go.spn ⟨keep_plain (fun a e => by cases e), ?_⟩
      have ssz := fun a b => Nat.le_trans (slicePick_size_le svs.toArray a b none) (by rw [List.size_toArray]; exact hlen)
      refine Go.listSeq' (.inl rfl) hrs rfl rfl (Nat.le_trans (ssz _ _) (by decide)) fun FD h₉ fFD E9 ⟨nF, hFD⟩ => ?_
      refine Go.spc (Go.list (Go.spn ⟨Nat.le_of_ble_eq_true rfl, ?_⟩))
      refine Go.spn ⟨Nat.le_of_ble_eq_true rfl, ?_⟩
      -- the three names are stored
      refine ⟨_, _, rfl, ⟨_, Heap.get?_push_size _ rfl, rfl, _, rfl⟩, rfl, fun hT ET => ?_⟩
      have fSH := fresh_at h₉
      have hSH : (h₉.push ⟨.type "list", none, .seq #[], #[]⟩).get? h₉.objs.size = some ⟨.type "list", none, .seq #[], #[]⟩ := Heap.get?_push_size _ rfl
      have E9T : Ext h₉ hT := fun b o e => ET _ _ (Heap.get?_push_of_some _ (Heap.get?_push_of_some _ e))
      have hSHT : hT.get? h₉.objs.size = some ⟨.type "list", none, .seq #[], #[]⟩ := ET _ _ (Heap.get?_push_of_some _ hSH)
      generalize h₉.objs.size = SH at fSH hSHT
      have NT := ns_keeps N7 (E8.trans (E9.trans E9T))
      refine Go.aiocons (Go.bindName (Go.stl rfl (by kernel_rfl) NT fun ha Na sa => ?_))
      refine Go.aiocons (Go.bindName (Go.stl rfl (by kernel_rfl) Na fun hb Nb sb => ?_))
      refine Go.aiocons (Go.bindName (Go.stl rfl (by kernel_rfl) Nb fun hs Ns sS => ?_))
      refine Go.aionil ?_
      dsimp only
      have kTs : ∀ b o, b ≠ h.objs.size → hT.get? b = some o → hs.get? b = some o := fun b o n e => but_of_same sS _ _ n (but_of_same sb _ _ n (but_of_same sa _ _ n e))
      have E8T := E8.trans (E9.trans E9T)
      have ET6 : Ext h₆ hT := E7.trans E8T
      have curL : cur ≠ h.objs.size := ns_ne N6 fi
      have xdL : xd ≠ h.objs.size := ns_ne N6 fxd
      have FDL : FD ≠ h.objs.size := ns_ne (ns_keeps N7 E8) fFD
      have SHL : SH ≠ h.objs.size := ns_ne (ns_keeps N7 (E8.trans E9)) fSH
      obtain ⟨cv, co, ce, cq⟩ := XC6
      have curC : cur ≠ h.objs.size + 1 := by rintro rfl; rw [ce] at fi; cases fi
      have xdC : xd ≠ h.objs.size + 1 := by rintro rfl; rw [ce] at fxd; cases fxd
      have FDC : FD ≠ h.objs.size + 1 := by rintro rfl; rw [E8 _ _ (E7 _ _ ce)] at fFD; cases fFD
      have SHC : SH ≠ h.objs.size + 1 := by rintro rfl; rw [E9 _ _ (E8 _ _ (E7 _ _ ce))] at fSH; cases fSH
      have FDS : FD ≠ SH := by rintro rfl; rw [hFD] at fSH; cases fSH
      have curF : cur ≠ FD := by rintro rfl; rw [E8 _ _ hi7] at fFD; cases fFD
      have xdF : xd ≠ FD := by rintro rfl; rw [E8 _ _ hxd7] at fFD; cases fFD
      have curS : cur ≠ SH := by rintro rfl; rw [E9 _ _ (E8 _ _ hi7)] at fSH; cases fSH
      have xdS : xd ≠ SH := by rintro rfl; rw [E9 _ _ (E8 _ _ hxd7)] at fSH; cases fSH
      have hFDs := kTs _ _ FDL (E9T _ _ hFD)
      have hSHs := kTs _ _ SHL hSHT
      have hcurs := kTs _ _ curL (E8T _ _ hi7)
      have hxds := kTs _ _ xdL (E8T _ _ hxd7)
      have hcs := kTs _ _ (by omega) (ET6 _ _ ce)
      have fFD0 : h.get? FD = none := (E67.trans E8).fresh fFD
      have fSH0 : h.get? SH = none := ((E67.trans E8).trans E9).fresh fSH
      have Es : Ext h hs := fun b o e => kTs _ _ (fun q => by subst q; rw [f1] at e; cases e) (ET6 _ _ (E6 _ _ e))
      have hid0 : ∀ b ∈ [h.objs.size, h.objs.size + 1, FD, SH], h.get? b = none := by
        intro b hb
        simp only [List.mem_cons, List.not_mem_nil, or_false] at hb
        rcases hb with rfl | rfl | rfl | rfl
        · exact f1
        · exact f2
        · exact fFD0
        · exact fSH0
      have S0 : LS h h.objs.size FD SH (slicePick svs.toArray (some 1) (some 31) none).toList.length (hideAll hs [h.objs.size, h.objs.size + 1, FD, SH]) hs := by
        refine ⟨?_, ext_hide Es hid0, hide_ext _ _, hideAll_none _ (by simp), hideAll_none _ (by simp), hideAll_none _ (by simp), hideAll_none _ (by simp), ⟨cv, co, hcs, cq⟩, ⟨_, _, nF, by rw [Array.toArray_toList]; exact hFDs, hi.pick (some 1) (some 31) none, rfl⟩, ⟨[], ⟨_, 0, hSHs, rfl, rfl, rfl⟩, fun y hy => by simp at hy, ?_⟩,
          ⟨_, cur, rowsOf x, Ns, by walk_at "e_mv", by walk_at "e_mv", by walk_at "e_mv", ⟨xd, es7, ep7, hideAll_get _ hcurs ?_, hideAll_get _ hxds ?_, y7⟩, rows_nodup x, rows_five x, notSys X (E6.fresh fi)⟩⟩
        · simp [Ne.symm FDL, Ne.symm SHL, Ne.symm FDC, Ne.symm SHC, FDS]
        · have := ssz (some 1) (some 31)
          simp only [Array.length_toList, List.length_nil]; omega
        · simp only [List.mem_cons, List.not_mem_nil, or_false, not_or]; exact ⟨curL, curC, curF, curS⟩
        · simp only [List.mem_cons, List.not_mem_nil, or_false, not_or]; exact ⟨xdL, xdC, xdF, xdS⟩
      generalize (slicePick svs.toArray (some 1) (some 31) none).toList.length = n0 at S0
      refine Go.cons (Go.mono (Q := fun f h' => f = .next ∧ ∃ n g, LS h h.objs.size FD SH n g h') ?outer ?after)
      case after =>
        rintro f hh ⟨rfl, n, g, S⟩
        dsimp only
        obtain ⟨m, cur, kvs, Nm, v_cur, v_feed, v_shelf, Icur, knd, kfv, curSys⟩ := S.ns
        have Xg := X.keeps S.base
        have kvl := five_len knd kfv
        obtain ⟨ys, PS, hys, hyl⟩ := S.shelf
        have oldL : ∀ h', (∀ b o, b ≠ h.objs.size → hh.get? b = some o → h'.get? b = some o) → Ext g h' := fun h' K b o e => K b o (fun q => by subst q; rw [S.gL] at e; cases e) (S.G _ _ e)
        have SHL : SH ≠ h.objs.size := by
          obtain ⟨o, _, e, _, _, e2⟩ := PS
          exact ns_nd Nm e (by intro es ep q; rw [e2] at q; cases q)
        -- for was, rows in shelf
        refine Go.cons (Go.mono (Q := fun f h' => f = .next ∧ (∀ b o, b ≠ h.objs.size → hh.get? b = some o → h'.get? b = some o) ∧ ∃ m' : VMap, h'.Ns h.objs.size m' ∧ m' (Str.ofString "cur") = some (.ref cur)) ?loop ?c1)
        case loop =>
          refine Go.forS ?_ (hA := hA)
          walk_at "e_name"
          refine Go.iterList PS.isList fun h₂ it E2 => ?_
          have fit := fresh_at hh
          generalize hh.objs.size = itx at it fit
          have itL : itx ≠ h.objs.size := ns_ne Nm fit
          refine GoC.forLoop (fun i kh => (∀ b o, b ≠ h.objs.size → hh.get? b = some o → kh.get? b = some o) ∧ kh.IsListIter itx SH i ∧ ∃ m' : VMap, kh.Ns h.objs.size m' ∧ m' (Str.ofString "cur") = some (.ref cur)) (List.toArray ys).size ⟨fun b o _ e => E2 _ _ e, it, m, ns_keeps Nm E2, v_cur⟩ ?step ?fin
          case fin =>
            rintro kh ⟨K, ih, m', N', q⟩
            exact Go.endList ih (PS.isList.at fun o e => K _ _ SHL e) (by simp) (fun h' b => ⟨rfl, rfl, fun b' o a1 e => b b' o (fun z => by subst z; rw [fit] at e; cases e) (K b' o a1 e), m', ns_but N' b (Ne.symm itL), q⟩) hA
          case step =>
            rintro i kh hi ⟨K, ih, m', N', q⟩
            have hi' : i < ys.length := by simpa using hi
            refine Go.nextList ih (PS.isList.at fun o e => K _ _ SHL e) (v := ys[i]) (by simp [hi']) fun h' ih' s' => ⟨_, rfl, Go.letGoList ih' ?_⟩
            obtain ⟨ta, w, r, kv2, hv, htup, Iw, Rr, l5, kok, wS⟩ := hys ys[i] (List.getElem_mem hi')
            have b1 := but_of_same s'
            have Kh' : ∀ b o, b ≠ h.objs.size → hh.get? b = some o → h'.get? b = some o := fun b o a1 e => b1 b o (fun z => by subst z; rw [fit] at e; cases e) (K b o a1 e)
            rw [hv]
            refine Go.asgTup (htup.at fun o e => oldL h' Kh' _ _ e) rfl rfl (fun h₃ E3 => ?_) hA
            have N3 := ns_keeps (ns_but N' b1 (Ne.symm itL)) E3
            refine Go.aiocons ?_
            refine Go.asgName (Go.stl rfl (by kernel_rfl) N3 fun h₄ N4 s4 => ?_)
            refine Go.aiocons ?_
            refine Go.asgName (Go.stl rfl (by kernel_rfl) N4 fun h₅ N5 s5 => ?_)
            refine Go.aionil ?_
            have K5 : ∀ b o, b ≠ h.objs.size → hh.get? b = some o → h₅.get? b = some o := fun b o a1 e => but_of_same s5 _ _ a1 (but_of_same s4 _ _ a1 (E3 _ _ (Kh' b o a1 e)))
            have ih5 : h₅.IsListIter itx SH (i + 1) := let ⟨o', e', r'⟩ := ih'; ⟨o', but_of_same s5 _ _ itL (but_of_same s4 _ _ itL (E3 _ _ e')), r'⟩
            have G5 := oldL h₅ K5
            have X5 := Xg.keeps G5
            obtain ⟨xd, es, ep, hw, hxd, yw⟩ := id Iw
            refine Go.cons (Go.iff (Go.tcmp (Go.callE rfl rfl ?_)))
            walk_at "e_name"
            refine Go.spc (Go.method rfl rfl (by decide) rfl ?_)
            walk_at "e_name"
            refine gm_items X5 (G5 _ _ hw) (.i (G5 _ _ hxd)) ?_
            refine Go.spn ⟨keep_plain (fun a e => by cases e), ?_⟩
            refine Go.itemsView X5 (G5 _ _ hw) .i wS ?_
            refine Go.spn ⟨keep_plain (fun a e => by cases e), ?_⟩
            have Ev : Ext h₅ (h₅.push ⟨.type "dict_items", none, .fields #[.ref w], #[]⟩) := fun b o e => Heap.get?_push_of_some _ e
            refine Go.mono (Go.up (listItems (by simpa using wS) (Ev _ _ (G5 _ _ hw)) yw (.i (Ev _ _ (G5 _ _ hxd))) (by omega) (by simp) (Heap.get?_push_size _ rfl)) hA (by show A.depth + 1 ≤ 700; omega) (by show A.units + 3 ≤ 700; omega)) ?_
            rintro v h9 ⟨ll, rfl, fl, E9, hl9⟩
            have E59 := Ev.trans E9
            have N9 := ns_keeps N5 E59
            walk_at "e_name"
            refine Go.neRows (kvs := kv2) (hl9 h9 (New.self _ _)).rows ((Rr.keeps G5).keeps E59) kok (by show A.units + 3 ≤ 1000; omega) (Go.truthyBool ?_)
            rw [if_neg (by simp)]
            refine Go.nil (Go.nil ⟨fun b o a1 e => E59 _ _ (K5 b o a1 e), (let ⟨o', e', r'⟩ := ih5; ⟨o', E59 _ _ e', r'⟩), _, N9, ?_⟩)
            walk_at "e_mv"
        case c1 =>
          rintro f h2 ⟨rfl, K2, m2, N2, w_cur⟩
          dsimp only
          have G2 := oldL h2 K2
          have X2 := Xg.keeps G2
          obtain ⟨xd, es, ep, hc, hxd, yc⟩ := id Icur
          -- cur._union_other((None, immutabledict())) is not cur
          refine Go.cons (Go.mono (Q := fun f h' => f = .next ∧ Ext h2 h') ?if1 ?c2)
          case if1 =>
            refine Go.iff (Go.tcmp (Go.method rfl rfl (by decide) rfl ?_))
            walk_at "e_name"
            refine gm_union X2 (G2 _ _ hc) (G2 _ _ hxd) ?_
            refine Go.spc (Go.tuple (Go.spc (Go.constNone (Go.spc (Go.callE rfl rfl ?_)))))
            walk_at "e_name"
            refine Go.spn ⟨keep_K X2 (by k_is), ?_⟩
            refine Go.mono (Go.up (imm_nil X2) hA (by show A.depth + 1 ≤ 600; omega) (by show A.units + 3 ≤ 600; omega)) ?_
            rintro v h3 ⟨r, xr, er, rfl, E3, fr, fxr, hr, hxr⟩
            refine Go.spn ⟨Nat.le_of_ble_eq_true rfl, ?_⟩
            have E34 : Ext h3 (h3.push ⟨.type "tuple", none, .seq [.none, .ref r].toArray, #[]⟩) := fun b o e => Heap.get?_push_of_some _ e
            have hO : (h3.push ⟨.type "tuple", none, .seq [.none, .ref r].toArray, #[]⟩).get? h3.objs.size = some ⟨.type "tuple", none, .seq [.none, .ref r].toArray, #[]⟩ := Heap.get?_push_size _ rfl
            generalize h3.objs.size = o at hO
            generalize h3.push ⟨.type "tuple", none, .seq [.none, .ref r].toArray, #[]⟩ = h4 at E34 hO
            have E24 := E3.trans E34
            have X4 := X2.keeps E24
            have N4 := ns_keeps N2 E24
            refine Go.spn ⟨keep_K X4 (by k_is), ?_⟩
            have T2 : Thing h4 h4 ⟨.ref r, [], false, true⟩ := by
              have := Thing.dict (g := h4) (h := h4) (E34 _ _ hr) (.i (E34 _ _ hxr)) .nil (notSys X2 fr)
              simpa using this
            refine union_spec (g := h4) (ts := [⟨.none, [], false, false⟩, ⟨.ref r, [], false, true⟩]) X4 (Ext.refl _) (Icur.keeps (G2.trans E24)) curSys ⟨"tuple", _, #[], hO, .inl ⟨rfl, rfl⟩⟩ ?hts (by omega) ?hl (by simp) knd ?hn ?dist ?hself ?hone ?hnew hA (by show A.depth + 1 ≤ 400; omega) (by show A.units + 3 ≤ 400; omega)
            case hts =>
              intro t ht
              simp only [List.mem_cons, List.not_mem_nil, or_false] at ht
              rcases ht with rfl | rfl
              · exact .none
              · exact T2
            case hl =>
              intro t ht
              simp only [List.mem_cons, List.not_mem_nil, or_false] at ht
              rcases ht with rfl | rfl <;> simp
            case hn =>
              intro t ht
              simp only [List.mem_cons, List.not_mem_nil, or_false] at ht
              rcases ht with rfl | rfl <;> simp
            case dist =>
              intro i j s t hs ht hij e
              match i, j, hs, ht with
              | 0, _, hs, _ => cases hs; rfl
              | 1, 0, hs, ht => cases hs; cases ht; cases e
              | 1, 1, _, _ => exact absurd rfl hij
              | 1, _ + 2, _, ht => simp at ht
              | _ + 2, _, hs, _ => simp at hs
            case hself =>
              intro _ h' E'
              have N5 := ns_keeps N4 E'
              walk_at "e_name"
              refine Go.isNotSelf (Go.truthyBool ?_)
              rw [if_neg (by simp)]
              exact Go.nil ⟨rfl, E24.trans E'⟩
            case hone =>
              intro t _ e _
              simp at e
            case hnew =>
              intro wz
              unfold word at wz
              cases hk : kvs.isEmpty <;> simp [hk] at wz
          case c2 =>
            rintro f h3 ⟨rfl, E23⟩
            dsimp only
            have N3 := ns_keeps N2 E23
            have G3 := G2.trans E23
            have X3 := Xg.keeps G3
            -- last = ..
            refine Go.cons (Go.asg (Go.method rfl rfl (by decide) rfl ?_))
            walk_at "e_name"
            refine gm_union X3 (G3 _ _ hc) (G3 _ _ hxd) ?_
            refine Go.spc ?_
            refine Go.tuple ?_
            refine Go.spc ?_
            refine Go.dict1 ?_
            intro d h4 fd E4 hd4
            refine Go.constStr fun tz => Go.constInt fun t1 => ⟨hd4, _, tz, _, t1, rfl, rfl, fun h5 es5 ep5 hd5 y5 B5 => ?_⟩
            have E35 : Ext h3 h5 := E4.thru B5 fd
            refine Go.spn ⟨Nat.le_of_ble_eq_true rfl, ?_⟩
            have E56 : Ext h5 (h5.push ⟨.type "tuple", none, .seq [.ref d].toArray, #[]⟩) := fun b o e => Heap.get?_push_of_some _ e
            have hO : (h5.push ⟨.type "tuple", none, .seq [.ref d].toArray, #[]⟩).get? h5.objs.size = some ⟨.type "tuple", none, .seq [.ref d].toArray, #[]⟩ := Heap.get?_push_size _ rfl
            generalize h5.objs.size = o at hO
            generalize h5.push ⟨.type "tuple", none, .seq [.ref d].toArray, #[]⟩ = h6 at E56 hO
            have E36 := E35.trans E56
            have X6 := X3.keeps E36
            have N6 := ns_keeps N3 E36
            have zf : Str.ofString "z" ∉ five := by decide +kernel
            have znd : ((kvs ++ [(Str.ofString "z", (1 : Int))]).map (·.1)).Nodup := by
              rw [List.map_append, List.nodup_append]
              refine ⟨knd, by simp, fun a ha b hb => ?_⟩
              obtain ⟨q, hq, rfl⟩ := List.mem_map.mp ha
              have : b = Str.ofString "z" := by simpa using hb
              subst this
              intro e
              exact zf (e ▸ kfv q hq)
            refine Go.spn ⟨keep_K X6 (by k_is), ?_⟩
            refine union_spec (g := h6) (ts := [⟨.ref d, [(Str.ofString "z", 1)], true, false⟩]) X6 (Ext.refl _) (Icur.keeps (G3.trans E36)) curSys ⟨"tuple", _, #[], hO, .inl ⟨rfl, rfl⟩⟩ ?hts (by omega) ?hl (by simp) knd ?hn ?dist ?hself ?hone ?hnew hA (by show A.depth + 1 ≤ 400; omega) (by show A.units + 3 ≤ 400; omega)
            case hts =>
              intro t ht
              simp only [List.mem_cons, List.not_mem_nil, or_false] at ht
              subst ht
              have := Thing.dict (g := h6) (h := h6) (E56 _ _ hd5) .d y5 (notSys X3 fd)
              simpa using this
            case hl =>
              intro t ht
              simp only [List.mem_cons, List.not_mem_nil, or_false] at ht
              subst ht; simp
            case hn =>
              intro t ht
              simp only [List.mem_cons, List.not_mem_nil, or_false] at ht
              subst ht; simp
            case dist =>
              intro i j s t hs ht hij e
              match i, j, hs, ht with
              | 0, 0, _, _ => exact absurd rfl hij
              | 0, _ + 1, _, ht => simp at ht
              | _ + 1, _, hs, _ => simp at hs
            case hself => intro e; simp at e
            case hone =>
              intro t _ e hs
              have : t = ⟨.ref d, [(Str.ofString "z", 1)], true, false⟩ := by simpa using e.symm
              subst this
              cases hs
            case hnew =>
              intro _ last h7 fl Eg7 _ HI _
              have IL := HI h7 Eg7 (New.self _ _)
              have ej : joined kvs [⟨.ref d, [(Str.ofString "z", 1)], true, false⟩] = kvs ++ [(Str.ofString "z", 1)] := putAll_new znd
              rw [ej] at IL
              have lastS := notSys X6 fl
              refine Go.stl rfl (by kernel_rfl) (ns_keeps N6 Eg7) fun h8 N8 s8 => ?_
              have b8 : But h.objs.size h7 h8 := but_of_same s8
              dsimp only
              have lastL : last ≠ h.objs.size := ns_ne N6 fl
              obtain ⟨xl, esl, epl, hl7, hxl7, yl⟩ := IL
              have xlL : xl ≠ h.objs.size := by
                rintro rfl
                obtain ⟨o', es', ep', z, z2, _, z4⟩ := ns_keeps N6 Eg7
                rw [hxl7] at z; cases z
                cases z2
                have q := z4 (Str.ofString "cur")
                rw [w_cur] at q
                exact absurd ((show nsFind #[] (Str.ofString "cur") = none from rfl).symm.trans q) (by simp)
              have hl8 := b8 _ _ lastL hl7
              have hxl8 := b8 _ _ xlL hxl7
              have G8 : Ext g h8 := fun b o e => b8 b o (fun q => by subst q; rw [S.gL] at e; cases e) (Eg7 _ _ (E36 _ _ (G3 _ _ e)))
              have X8 := Xg.keeps G8
              refine Go.cons (Go.ret (Go.bothT (Go.cmp (Go.callE rfl rfl ?_))))
              walk_at "e_name"
              refine Go.spc (Go.method rfl rfl (by decide) rfl ?_)
              walk_at "e_name"
              refine gm_items X8 hl8 (.i hxl8) ?_
              refine Go.spn ⟨keep_plain (fun a e => by cases e), ?_⟩
              refine Go.itemsView X8 hl8 .i lastS ?_
              refine Go.spn ⟨keep_plain (fun a e => by cases e), ?_⟩
              have Ev : Ext h8 (h8.push ⟨.type "dict_items", none, .fields #[.ref last], #[]⟩) := fun b o e => Heap.get?_push_of_some _ e
              refine Go.mono (Go.up (listItems (by simpa using lastS) (Ev _ _ hl8) yl (.i (Ev _ _ hxl8)) (by simp; omega) (by simp) (Heap.get?_push_size _ rfl)) hA (by show A.depth + 1 ≤ 700; omega) (by show A.units + 3 ≤ 700; omega)) ?_
              rintro v h9 ⟨l1, rfl, fl1, E9, hl9⟩
              have E89 := Ev.trans E9
              have R1 := (hl9 h9 (New.self _ _)).rows
              have N9 := ns_keeps N8 E89
              have G9 := G8.trans E89
              have X9 := Xg.keeps G9
              refine Go.binop (Go.callE rfl rfl ?_)
              walk_at "e_name"
              refine Go.spc (Go.method rfl rfl (by decide) rfl ?_)
              walk_at "e_name"
              refine gm_items X9 (G9 _ _ hc) (.i (G9 _ _ hxd)) ?_
              refine Go.spn ⟨keep_plain (fun a e => by cases e), ?_⟩
              refine Go.itemsView X9 (G9 _ _ hc) .i curSys ?_
              refine Go.spn ⟨keep_plain (fun a e => by cases e), ?_⟩
              have Ew : Ext h9 (h9.push ⟨.type "dict_items", none, .fields #[.ref cur], #[]⟩) := fun b o e => Heap.get?_push_of_some _ e
              refine Go.mono (Go.up (listItems (by simpa using curSys) (Ew _ _ (G9 _ _ hc)) yc (.i (Ew _ _ (G9 _ _ hxd))) (by omega) (by simp) (Heap.get?_push_size _ rfl)) hA (by show A.depth + 1 ≤ 700; omega) (by show A.units + 3 ≤ 700; omega)) ?_
              rintro v hA0 ⟨l2, rfl, fl2, EA, hlA⟩
              obtain ⟨vs2, nn2, e2, r2⟩ := hlA hA0 (New.self _ _)
              have r2l := r2.length
              have E9A := Ew.trans EA
              refine Go.list (Go.spc (Go.tuple (Go.spc (Go.constStr fun tz2 => Go.spc (Go.constInt fun t12 => Go.spn ⟨Nat.le_of_ble_eq_true rfl, ?_⟩)))))
              have hTp : (hA0.push ⟨.type "tuple", none, .seq [.str (Str.ofString "z") tz2, .int 1 t12].toArray, #[]⟩).get? hA0.objs.size = some ⟨.type "tuple", none, .seq [.str (Str.ofString "z") tz2, .int 1 t12].toArray, #[]⟩ := Heap.get?_push_size _ rfl
              have EAB : Ext hA0 (hA0.push ⟨.type "tuple", none, .seq [.str (Str.ofString "z") tz2, .int 1 t12].toArray, #[]⟩) := fun b o e => Heap.get?_push_of_some _ e
              refine Go.spn ⟨Nat.le_of_ble_eq_true rfl, ?_⟩
              generalize hA0.objs.size = tp at hTp
              generalize hA0.push ⟨.type "tuple", none, .seq [.str (Str.ofString "z") tz2, .int 1 t12].toArray, #[]⟩ = hB at hTp EAB
              have hLb : (hB.push ⟨.type "list", none, .seq [.ref tp].toArray, #[]⟩).get? hB.objs.size = some ⟨.type "list", none, .seq [.ref tp].toArray, #[]⟩ := Heap.get?_push_size _ rfl
              have EBC : Ext hB (hB.push ⟨.type "list", none, .seq [.ref tp].toArray, #[]⟩) := fun b o e => Heap.get?_push_of_some _ e
              generalize hB.objs.size = lb at hLb
              generalize hB.push ⟨.type "list", none, .seq [.ref tp].toArray, #[]⟩ = hC at hLb EBC
              have EAC := EAB.trans EBC
              refine Go.addL (EAC _ _ e2) hLb (by simp; omega) fun l3 hD f3 ED hl3 => ?_
              have RZ : RowAt hD (.ref tp) (Str.ofString "z", 1) := ⟨tp, tz2, t12, rfl, _, ED _ _ (EBC _ _ hTp), rfl, _, rfl⟩
              have R3 : RowsAt hD l3 (kvs ++ [(Str.ofString "z", 1)]) := ⟨vs2 ++ [.ref tp], ⟨_, hl3, rfl, _, rfl⟩, (r2.keeps (EAC.trans ED)).append (.cons RZ .nil)⟩
              have E9D := E9A.trans (EAC.trans ED)
              have zok : KOk (kvs ++ [(Str.ofString "z", 1)]) := by
                intro q hq
                rcases List.mem_append.mp hq with hq | hq
                · exact five_ok kfv q hq
                · have : q = (Str.ofString "z", 1) := by simpa using hq
                  subst this
                  decide +kernel
              refine Go.eqRows (R1.keeps E9D) R3 zok (by show A.units + 3 ≤ 1000; omega) ⟨rfl, ?_⟩
              have ND := ns_keeps N9 E9D
              have GD := G9.trans E9D
              have XD := Xg.keeps GD
              -- _law_shut
              refine Go.callE rfl rfl ?_
              walk_at "e_name"
              refine Go.spc ?_
              walk_at "e_name"
              refine Go.spc (Go.method rfl rfl (by decide) rfl (Go.callE rfl rfl ?_))
              walk_at "e_name"
              refine Go.spc ?_
              refine Go.dict1 ?_
              intro dA hE fdA EE hdE
              refine Go.constStr fun tza => Go.constInt fun t1a => ⟨hdE, _, tza, _, t1a, rfl, rfl, fun hF esF epF hdF yF BF => ?_⟩
              have EDF : Ext hD hF := EE.thru BF fdA
              have XF := XD.keeps EDF
              refine Go.spn ⟨keep_K XF (by k_is), ?_⟩
              refine Go.mono (Go.up (prop_new (p := dA) XF) hA (by show A.depth + 1 ≤ 600; omega) (by show A.units + 3 ≤ 600; omega)) ?_
              rintro v hG ⟨px, pxd, rfl, EG, fpx, fpxd, hpx, hpxd⟩
              have XG := XF.keeps EG
              refine gm_roP XG hpx hpxd hA (by show A.depth + 1 ≤ 700; omega) (by show A.units + 3 ≤ 700; omega) fun mm hH EH hmm => ?_
              have XH := XG.keeps EH
              refine Go.spn ⟨?keep, ?_⟩
              case keep =>
                refine' keep_meth XH hmm ?e
                case e => k_is
              refine Go.mono (Go.up (ro_call XH hmm (EH _ _ hpx) (EH _ _ hpxd)) hA (by show A.depth + 1 ≤ 600; omega) (by show A.units + 3 ≤ 600; omega)) ?_
              rintro v hI ⟨vx, vxd, rfl, EI, fvx, fvxd, hvx, hvxd⟩
              have EDI := EDF.trans (EG.trans (EH.trans EI))
              have XI := XD.keeps EDI
              have NI := ns_keeps ND EDI
              have GI := GD.trans EDI
              have NH := ns_keeps ND (EDF.trans (EG.trans EH))
              have vxL : vx ≠ h.objs.size := ns_ne NH fvx
              have vxdL : vxd ≠ h.objs.size := ns_ne NH fvxd
              refine Go.spn ⟨keep_K XI (by k_is), ?_⟩
              have gL : ∀ b ∈ [h.objs.size], g.get? b = none := by
                intro b hb
                have eb : b = h.objs.size := by simpa using hb
                subst eb
                exact S.gL
              have Eh := ext_hide GI gL
              refine Go.mono (shut_spec (g := hideAll hI [h.objs.size]) (l := [envOfC (Str.ofString "law") _ _ _ _]) (Xg.keeps Eh) (hide_ext _ _) (Eh _ _ hc) (Eh _ _ hxd) (hideAll_get _ hvx (by simpa using vxL)) (hideAll_get _ hvxd (by simpa using vxdL)) hA (by show A.frames.map _ = _; rw [hf]; rfl) ?fok (by show A.depth + 1 ≤ 400; omega) (by show A.units + 3 ≤ 400; omega)) ?_
              case fok =>
                obtain ⟨o, eo, no⟩ := ns_nofields NI
                exact ⟨(by intro q; cases q), ⟨h.objs.size, o, rfl, hideAll_none _ (by simp), eo, no⟩, trivial⟩
              rintro r hZ ⟨rfl, EZ⟩
              refine ⟨rfl, fun b o e => EZ _ _ (Eh _ _ (S.base _ _ e))⟩
      case outer =>
        refine Go.whileS (fun n hh => ∃ g, LS h h.objs.size FD SH n g hh) n0 ⟨_, S0⟩ ?_
        rintro n hh ⟨g, S⟩
        obtain ⟨m, cur, kvs, Nm, v_cur, v_feed, v_shelf, Icur, knd, kfv, curSys⟩ := S.ns
        have Xg := X.keeps S.base
        have Cg : Calm g := Cm.keeps S.base
        have Bg : Ext h g := S.base
        have Xh := Xg.keeps S.G
        refine Go.tval ?_
        walk_at "e_name"
        obtain ⟨fvs, fns, fk, hfd, hfi, hfl⟩ := S.feed
        have hbd : fvs.length ≤ 100 := by obtain ⟨_, _, _, q⟩ := S.shelf; omega
        refine (fun tk => wpAny_truthy_list ⟨_, hfd, rfl, _, rfl⟩ (by rw [List.size_toArray]; omega) ⟨_, _, rfl, ?_⟩)
        cases hfi with
        | nil => rw [if_neg (by simp)]; exact ⟨rfl, n, g, S⟩
        | @cons r tr fvs' fns' hfi' =>
          rw [if_pos (by simp)]
          have nd := S.nd
          simp only [List.nodup_cons, List.mem_cons, List.not_mem_nil, or_false, not_or] at nd
          obtain ⟨⟨n1, n2, n3⟩, ⟨n5, n6⟩, n8, _⟩ := nd
          simp only [List.length_cons] at hfl hbd
          -- r = feed.pop(0)
          refine Go.cons (Go.asg (Go.method rfl rfl (by decide) rfl ?_))
          walk_at "e_name"
          refine gm_pop ⟨_, _, hfd, rfl, rfl, rfl⟩ ?_
          refine Go.spc (Go.constInt fun t0 => Go.spn ⟨keep_plain (fun a e => by cases e), ?_⟩)
          refine Go.pop0 hfd (by omega) fun k1 fk1 hf1 s1 => ?_
          have bs1 := but_of_same s1
          have N1 := ns_but Nm bs1 n2
          refine Go.stl rfl (by kernel_rfl) N1 fun k2 N2 s2 => ?_
          have bs2 : But h.objs.size k1 k2 := but_of_same s2
          dsimp only
          -- handed = []
          refine Go.cons (Go.asg (Go.list (Go.spn ⟨Nat.le_of_ble_eq_true rfl, ?_⟩)))
          have fHD := fresh_at k2
          have hHD : (k2.push ⟨.type "list", none, .seq #[], #[]⟩).get? k2.objs.size = some ⟨.type "list", none, .seq #[], #[]⟩ := Heap.get?_push_size _ rfl
          have E23 : Ext k2 (k2.push ⟨.type "list", none, .seq #[], #[]⟩) := fun b o e => Heap.get?_push_of_some _ e
          show Go c _ (storeName _ _ (.ref k2.objs.size)) _ (k2.push ⟨.type "list", none, .seq #[], #[]⟩)
          generalize k2.objs.size = HD at fHD hHD
          generalize k2.push ⟨.type "list", none, .seq #[], #[]⟩ = k3 at hHD E23
          refine Go.stl rfl (by kernel_rfl) (ns_keeps N2 E23) fun k4 N4 s4 => ?_
          have bs4 : But h.objs.size k3 k4 := but_of_same s4
          dsimp only
          have kk : ∀ b o, b ≠ FD → b ≠ h.objs.size → hh.get? b = some o → k4.get? b = some o := fun b o a1 a2 e => bs4 b o a2 (E23 _ _ (bs2 b o a2 (bs1 b o a1 e)))
          have fnone : ∀ b o, b ≠ h.objs.size → hh.get? b = some o → b ≠ HD := by
            rintro b o a2 e rfl
            by_cases q : b = FD
            · subst q; rw [bs2 _ _ a2 hf1] at fHD; cases fHD
            · rw [bs2 _ _ a2 (bs1 _ _ q e)] at fHD; cases fHD
          obtain ⟨cv, co, ce, cq⟩ := S.cell
          obtain ⟨ys, PS, hys, hyl⟩ := S.shelf
          have HDL : HD ≠ h.objs.size := ns_ne N2 fHD
          have HDC : HD ≠ h.objs.size + 1 := Ne.symm (fnone _ _ (by omega) ce)
          have HDF : HD ≠ FD := by rintro rfl; rw [bs2 _ _ HDL hf1] at fHD; cases fHD
          have HDS : HD ≠ SH := by
            obtain ⟨o, _, e, _⟩ := PS
            exact Ne.symm (fnone _ _ (Ne.symm n3) e)
          have gHD : g.get? HD = none := by
            cases q : g.get? HD with
            | none => rfl
            | some o => exact absurd rfl (fnone _ _ HDL (S.G _ _ q))
          have W0 : IW h.objs.size FD SH HD fvs'.length g g k4 [] [] := by
            refine ⟨?_, Ext.refl _, fun b o e => kk b o (fun q => by subst q; rw [S.gF] at e; cases e) (fun q => by subst q; rw [S.gL] at e; cases e) (S.G _ _ e), ?_, fun b hb => by simp at hb, fun b hb => by simp at hb, ⟨[], ⟨_, _, bs4 _ _ HDL hHD, rfl, rfl, rfl⟩, .nil⟩, fun t ht => by simp at ht, fun t ht => by simp at ht, fun i j s t hs => by simp at hs, by simp,
              ⟨_, _, fk1, bs4 _ _ (Ne.symm n2) (E23 _ _ (bs2 _ _ (Ne.symm n2) hf1)), hfi', rfl⟩, ⟨cv, co, kk _ _ n5 (Nat.succ_ne_self _) ce, cq⟩, ⟨ys, plainAt PS fun o e => kk _ _ (Ne.symm n8) (Ne.symm n3) e, hys, by omega⟩,
              ⟨_, cur, kvs, r, tr, N4, by walk_at "e_mv", by walk_at "e_mv", by walk_at "e_mv", by walk_at "e_mv", by walk_at "e_mv", Icur, knd, kfv, curSys⟩⟩
            · simp [n2, n3, n5, n6, n8, Ne.symm HDL, Ne.symm HDC, Ne.symm HDF, Ne.symm HDS]
            · intro b hb
              simp only [List.mem_cons, List.not_mem_nil, or_false] at hb
              rcases hb with rfl | rfl | rfl | rfl | rfl
              · exact S.gL
              · exact S.gC
              · exact S.gF
              · exact S.gS
              · exact gHD
          refine Go.cons (Go.mono (Q := fun f h' => f = .next ∧ ∃ n' gi ts ws, n' < n ∧ IW h.objs.size FD SH HD n' g gi h' ts ws) ?inner ?cont)
          case inner =>
            refine Go.whileS (fun k hh => k < n ∧ ∃ gi ts ws, IW h.objs.size FD SH HD k g gi hh ts ws) fvs'.length ⟨by omega, _, _, _, W0⟩ ?_
            rintro k kh ⟨hk, gi, ts, ws, S⟩
            obtain ⟨m, cur, kvs, r, tr, Nm, v_cur, v_feed, v_shelf, v_r, v_handed, Icur, knd, kfv, curSys⟩ := S.ns
            have Xi := Xg.keeps S.E
            have Xh := Xi.keeps S.G
            have nd := S.nd
            simp only [List.nodup_cons, List.mem_cons, List.not_mem_nil, or_false, not_or] at nd
            obtain ⟨⟨n1, n2, n3, n4⟩, ⟨n5, n6, n7⟩, ⟨n8, n9⟩, n10, _⟩ := nd
            refine Go.tand (Go.andcons (Go.tval ?_))
            walk_at "e_name"
            obtain ⟨fvs, fns, fk, hfd, hfi, hfl⟩ := S.feed
            obtain ⟨hvs, PH, hds⟩ := S.hand
            have hvl := hds.length
            have tsl := S.len
            have hbd : fvs.length ≤ 100 := by obtain ⟨_, _, _, q⟩ := S.shelf; omega
            refine (fun tk => wpAny_truthy_list ⟨_, hfd, rfl, _, rfl⟩ (by rw [List.size_toArray]; omega) ⟨_, _, rfl, ?_⟩)
            cases hfi with
            | nil =>
              rw [if_neg (by simp)]
              rw [if_neg (by simp)]
              exact ⟨rfl, k, gi, ts, ws, hk, S⟩
            | @cons x tx fvs' fns' hfi' =>
              rw [if_pos (by simp)]
              simp only [List.length_cons] at hfl hbd
              refine Go.andcons (Go.tcmp (Go.callE rfl rfl ?_))
              walk_at "e_name"
              refine Go.spc ?_
              walk_at "e_name"
              refine Go.spn ⟨keep_plain (fun a e => by cases e), ?_⟩
              refine Go.lenList PH.isList (by rw [List.size_toArray]; omega) fun t1 => ?_
              refine Go.binop ?_
              walk_at "e_name"
              refine Go.constInt fun t2 => Go.mod (by decide) fun t3 => Go.ltInt (Go.truthyBool ?_)
              by_cases hlt : ((hvs.toArray.size : Int) < r.fmod 4)
              · rw [if_pos (by simpa using hlt)]
                refine Go.andnil ?_
                rw [if_pos rfl]
                have hl3 : ts.length ≤ 3 := by
                  have := Int.fmod_lt_of_pos r (b := 4) (by decide)
                  rw [List.size_toArray] at hlt
                  omega
                refine Go.cons (Go.exprNone (Go.method rfl rfl (by decide) rfl ?_))
                walk_at "e_name"
                refine gm_append PH ?_
                refine Go.spc (Go.callE rfl rfl ?_)
                walk_at "e_name"
                refine Go.spc (Go.method rfl rfl (by decide) rfl ?_)
                walk_at "e_name"
                refine gm_pop ⟨_, _, hfd, rfl, rfl, rfl⟩ ?_
                refine Go.spc (Go.constInt fun t0 => Go.spn ⟨keep_plain (fun a e => by cases e), ?_⟩)
                refine Go.pop0 hfd (by omega) fun k1 fk1 hf1 s1 => ?_
                have bs1 := but_of_same s1
                have G1 : Ext gi k1 := S.G.thru bs1 (S.hid _ (by simp))
                have X1' := Xi.keeps G1
                refine Go.spn ⟨keep_K X1' (by k_is), ?_⟩
                refine other_spec (g := gi) Xi G1 (Cg.keeps S.E) hA (by show A.depth + 1 ≤ 390; omega) (by show A.frames.map _ = _; rw [hf]; rfl) (by show A.units + 3 ≤ 300; omega) fun v k2 th wk O => ?_
                refine Go.spn ⟨keep_plain (fun a e => by cases e), ?_⟩
                have PH2 := (plain_but PH bs1 (Ne.symm n9)).keeps O.1
                refine Go.append PH2 (by rw [List.size_toArray]; omega) fun k3 PH3 s3 => ⟨rfl, Go.nil ?_⟩
                subst hfl
                obtain ⟨gi', ws', S'⟩ := S.step hl3 bs1 ⟨_, _, fk1, hf1, hfi', rfl⟩ O hds (by simpa using PH3) s3
                exact ⟨fvs'.length, Nat.lt_succ_self _, by omega, gi', _, ws', S'⟩
              · rw [if_neg (by simpa using hlt)]
                rw [if_neg (by simp)]
                exact ⟨rfl, k, gi, ts, ws, hk, S⟩
          case cont =>
            rintro f kh ⟨rfl, n', gi, ts, ws, hn', S⟩
            dsimp only
            obtain ⟨g3, ys, hvs, R, Eg3, PH3, hds⟩ := S.round
            obtain ⟨m, cur, kvs, r, tr, Nm, v_cur, v_feed, v_shelf, v_r, v_handed, Icur, knd, kfv, curSys⟩ := S.ns
            have X3 := Xg.keeps (S.E.trans Eg3)
            have hvl := hds.length
            have tsl := R.len
            have kvl := five_len knd kfv
            have I3 := Icur.keeps (S.E.trans Eg3)
            have PHh := PH3.keeps R.G
            have hsz : hvs.toArray.size = ts.length := by rw [List.size_toArray]; exact hvl
            -- others
            refine Go.cons ?_
            refine Go.asgComp (cl := []) ?sw ?clos ?cell ?kind ?names ?k ?y ?H (hA := hA)
            case sw => rfl
            case clos => rfl
            case cell => kernel_rfl
            case kind => rfl
            case names => decide
            case k => rfl
            case y => kernel_rfl
            case H =>
              walk_at "e_name"
              refine ⟨⟨_, Nm⟩, CompAt.list g3 (fun i g' ys => ys = (ts.take i).map (·.v)) PHh.isList (by rw [hsz]; omega) ?ho R.G (fun _ _ => rfl) ?step ?fin hA⟩
              case ho => obtain ⟨o, _, _, e, _⟩ := Nm; exact ⟨o, e⟩
              case step =>
                intro C i v h₂ m' ys fC hi hv E2 hJ N2
                have hv' : hvs[i]? = some v := by simpa using hv
                obtain ⟨t, ht, ta, ra, rfl, hta, hra⟩ := hds.get hv'
                refine Go.asgName (Go.stl rfl (by kernel_rfl) N2 fun h₃ N3 s3 => ?_)
                have E3 : Ext kh h₃ := E2.thru (but_of_same s3) fC
                refine Go.testsNil ?_
                simp only [if_true]
                refine Go.subS ?_
                walk_at "e_name"
                refine Go.constInt fun t1 => ?_
                refine ⟨ta, _, _, _, _, rfl, rfl, .inl (hta.at fun o e => E3 _ _ (R.G _ _ e)), by decide, by decide, rfl, ?_⟩
                refine ⟨fun b o n e => but_of_same s3 b o n e, ⟨_, N3⟩, fun g' e1 _ J => ?_⟩
                rw [List.take_add_one, ht, J]; simp
              case fin =>
                intro OT h₂ os fOT E2 ly hJ lD h₃ mm N2 N3 s3
                have em := ns_unique N2 (ns_keeps Nm E2)
                subst em
                have hos : os = ts.map (·.v) := by
                  have := hJ h₂ (R.G.trans E2) (New.self _ _)
                  rwa [hsz, List.take_length] at this
                subst hos
                have N3' : h₃.Ns h.objs.size _ := N3
                have OTL : OT ≠ h.objs.size := ns_ne Nm fOT
                have K3 : ∀ b o, b ≠ h.objs.size → kh.get? b = some o → h₃.get? b = some o := fun b o a1 e => but_of_same s3 _ _ a1 (E2 _ _ e)
                have L3 : ∃ o, h₃.get? h.objs.size = some o := by obtain ⟨o, _, _, e, _⟩ := N3'; exact ⟨o, e⟩
                obtain ⟨R4, E34⟩ := R.move K3 L3
                have G3 := E34.trans R4.G
                have lOT : PlainL h₃ OT (ts.map (·.v)).toArray := plain_but lD (but_of_same s3) OTL
                dsimp only
                have Xc := X3.keeps G3
                -- rows, same
                refine Go.cons (Go.swap (names := [Str.ofString "rows", Str.ofString "same"]) rfl (by kernel_rfl) hA ?_)
                refine Go.tuple (Go.spc (Go.callE rfl rfl ?_))
                walk_at "e_name"
                refine Go.spc (Go.callE rfl rfl ?_)
                walk_at "e_name"
                refine Go.spc (Go.method rfl rfl (by decide) rfl ?_)
                walk_at "e_name"
                obtain ⟨xd, es, ep, hc, hxd, yc⟩ := id I3
                refine gm_items Xc (G3 _ _ hc) (.i (G3 _ _ hxd)) ?_
                refine Go.spn ⟨keep_plain (fun a e => by cases e), ?_⟩
                refine Go.itemsView Xc (G3 _ _ hc) .i curSys ?_
                refine Go.spn ⟨keep_plain (fun a e => by cases e), ?_⟩
                have Ev : Ext h₃ (h₃.push ⟨.type "dict_items", none, .fields #[.ref cur], #[]⟩) := fun b o e => Heap.get?_push_of_some _ e
                refine Go.mono (Go.up (listItems (by simpa using curSys) (Ev _ _ (G3 _ _ hc)) yc (.i (Ev _ _ (G3 _ _ hxd))) (by omega) (by simp) (Heap.get?_push_size _ rfl)) hA (by show A.depth + 1 ≤ 700; omega) (by show A.units + 3 ≤ 700; omega)) ?_
                rintro v h12 ⟨ll, rfl, fl, E12, hl12⟩
                have E3c := Ev.trans E12
                have N12 := ns_keeps N3' E3c
                have X12 := Xc.keeps E3c
                refine Go.spc ?_
                walk_at "e_name"
                refine Go.spn ⟨keep_K X12 (by k_is), ?_⟩
                have G12 := G3.trans E3c
                refine joined_spec (g := g3) X3 G12 (hl12 h12 (New.self _ _)) (PH3.isList.at fun o e => G12 _ _ e) (hds.keeps G12) (by omega) knd (by omega) (fun t ht => (R.th t ht).2.1) hA (by show A.depth + 1 ≤ 400; omega) (by show A.units + 3 ≤ 400; omega) fun rw h13 frw E13 hRW => ?_
                have G13 := G12.trans E13
                have X13 := X12.keeps E13
                have N13 := ns_keeps N12 E13
                refine Go.spc (Go.callE rfl rfl ?_)
                walk_at "e_name"
                refine Go.spc ?_
                walk_at "e_name"
                refine Go.spc ?_
                walk_at "e_name"
                refine Go.spn ⟨keep_K X13 (by k_is), ?_⟩
                refine Go.mono (same_spec X13 (I3.keeps G13) (PH3.isList.at fun o e => G13 _ _ e) (hds.keeps G13) (by omega) (by omega) hA (by show A.depth + 1 ≤ 400; omega) (by show A.units + 3 ≤ 400; omega)) ?_
                rintro sv h14 ⟨rfl, E14⟩
                refine Go.spn ⟨Nat.le_of_ble_eq_true rfl, ?_⟩
                refine ⟨_, _, rfl, ⟨_, Heap.get?_push_size _ rfl, rfl, _, rfl⟩, rfl, fun h15 E15 => ?_⟩
                have E1415 : Ext h14 h15 := fun b o e => E15 _ _ (Heap.get?_push_of_some _ e)
                have E1315 := E14.trans E1415
                have N15 := ns_keeps N13 E1315
                refine Go.aiocons (Go.bindName (Go.stl rfl (by kernel_rfl) N15 fun h16 N16 s16 => ?_))
                refine Go.aiocons (Go.bindName (Go.stl rfl (by kernel_rfl) N16 fun hU NU sU => ?_))
                refine Go.aionil ?_
                dsimp only
                have KU3 : ∀ b o, b ≠ h.objs.size → h₃.get? b = some o → hU.get? b = some o := fun b o a1 e => but_of_same sU _ _ a1 (but_of_same s16 _ _ a1 (E1315 _ _ (E13 _ _ (E3c _ _ e))))
                have NU' : hU.Ns h.objs.size _ := NU
                -- told
                have exh : ∀ b ∈ h.objs.size :: (h.objs.size + 1) :: FD :: SH :: ws, ∃ o, kh.get? b = some o := R.ex
                refine Go.cons (Go.mono (Q := fun f h' => f = .next ∧ ∃ td gU hV, RS h.objs.size FD SH n' gU hV ts ws ys ∧ Ext g3 gU ∧ RowsAt gU rw (joined kvs ts) ∧ (∃ n sl, gU.get? OT = some ⟨.type "list", none, .seq (ts.map (·.v)).toArray n, sl⟩) ∧ Ext hU hV ∧ h'.IsCell (h.objs.size + 1) (some (.ref td)) ∧ ∃ h6, UOut gU hV h.objs.size FD SH ts cur kvs td h6 ∧ Heap.SameBut (h.objs.size + 1) h6 h') ?tell ?checks)
                case tell =>
                  refine Go.asg (Go.method rfl rfl (by decide) rfl ?_)
                  walk_at "e_name"
                  have GU : Ext g3 hU := fun b o e => KU3 b o (fun q => by subst q; rw [R.hid _ (by simp)] at e; cases e) (G3 _ _ e)
                  have XU := X3.keeps GU
                  refine gm_union XU (GU _ _ hc) (GU _ _ hxd) ?_
                  refine Go.spc ?_
                  have pOT := plainAt lOT fun o e => KU3 _ _ OTL e
                  refine Go.mono (Q := fun v hV => ∃ o, v = .ref o ∧ Ext hU hV ∧ OthersAt hV o (ts.map (·.v)) ∧ kh.get? o = none) ?arg ?callu
                  case arg =>
                    refine Go.ifexp (Go.tcmp (Go.binop (Go.binop ?_)))
                    walk_at "e_name"
                    refine Go.constInt fun t1 => ?_
                    refine Go.floordiv (e := envOfC (Str.ofString "law") _ _ _ _) ((Cg.keeps (S.E.trans Eg3)).keeps GU) (by show A.depth + 1 + 100 < 1000; omega) (by show A.frames.map _ = _; rw [hf]; rfl) rfl rfl rfl rfl (by decide) fun t2 => ?_
                    refine Go.constInt fun t3 => Go.mod (by decide) fun t4 => ?_
                    refine Go.constInt fun t5 => Go.eqInt (Go.truthyBool ?_)
                    split
                    · walk_at "e_name"
                      refine ⟨OT, rfl, Ext.refl _, ?_, fOT⟩
                      obtain ⟨⟨oc, od, dat, osl⟩, n, e, hcl, hdn, hdd⟩ := pOT
                      cases hcl; cases hdn; cases hdd
                      exact ⟨"list", n, osl, e, .inr rfl⟩
                    · refine Go.callE rfl rfl ?_
                      walk_at "e_name"
                      refine Go.spc ?_
                      walk_at "e_name"
                      refine Go.spn ⟨keep_plain (fun a e => by cases e), ?_⟩
                      refine Go.tupleOf pOT.isList (by rw [List.size_toArray, List.length_map]; omega) fun tt hV ft EV htt => ?_
                      refine ⟨tt, rfl, EV, ⟨"tuple", _, #[], htt, .inl ⟨rfl, rfl⟩⟩, ?_⟩
                      cases q : kh.get? tt with
                      | none => rfl
                      | some o =>
                        have := KU3 _ _ (ns_ne NU' ft) (K3 _ _ (ns_ne NU' ft) q)
                        rw [ft] at this; cases this
                  case callu =>
                    rintro v hV ⟨o, rfl, EV, OV, fo⟩
                    have KV : ∀ b o, b ≠ h.objs.size → h₃.get? b = some o → hV.get? b = some o := fun b o a1 e => EV _ _ (KU3 b o a1 e)
                    have LV : ∃ o, hV.get? h.objs.size = some o := by obtain ⟨o, _, _, e, _⟩ := NU'; exact ⟨o, EV _ _ e⟩
                    obtain ⟨RV, EgV⟩ := R4.move KV LV
                    generalize hgV : hideAll hV (h.objs.size :: (h.objs.size + 1) :: FD :: SH :: ws) = gV at RV EgV
                    have getV : ∀ b o, b ∉ h.objs.size :: (h.objs.size + 1) :: FD :: SH :: ws → hV.get? b = some o → gV.get? b = some o := fun b o a1 e => by rw [← hgV]; exact hideAll_get _ e a1
                    have Eg3V := E34.trans EgV
                    have OV' : OthersAt gV o (ts.map (·.v)) := by
                      obtain ⟨T, n, sl, e, hT⟩ := OV
                      exact ⟨T, n, sl, getV _ _ (fun hb => by obtain ⟨o', z⟩ := exh _ hb; rw [fo] at z; cases z) e, hT⟩
                    refine Go.spn ⟨keep_K (XU.keeps EV) (by k_is), ?_⟩
                    refine Go.mono (union_out RV (X3.keeps Eg3V) (I3.keeps Eg3V) curSys knd kfv OV' hA (by show A.depth + 1 ≤ 400; omega) (by show A.units + 3 ≤ 400; omega)) ?_
                    rintro v h6 ⟨td, rfl, U⟩
                    obtain ⟨cv, co, ce, cq⟩ := RV.cell
                    have ce6 := U.2.1 _ _ (fun t ht e => (RV.off t ht _ e).1 (by simp)) ce
                    refine Go.stc rfl (by kernel_rfl) rfl ⟨co, ce6, cq⟩ fun h7 XC7 s7 => ?_
                    have hid12 : ∀ b ∈ h.objs.size :: (h.objs.size + 1) :: FD :: SH :: ws, ∃ o, h12.get? b = some o := fun b hb => by
                      by_cases q : b = h.objs.size
                      · subst q; obtain ⟨o, z⟩ := L3; exact ⟨o, E3c _ _ z⟩
                      · obtain ⟨o, z⟩ := exh b hb; exact ⟨o, E3c _ _ (K3 b o q z)⟩
                    refine ⟨rfl, td, gV, hV, RV, Eg3V, hRW gV Eg3V (fun b o f e => getV b o (fun hb => by obtain ⟨o', z⟩ := hid12 b hb; rw [f] at z; cases z) ?_), ?_, EV, XC7, h6, U, s7⟩
                    · have bL : b ≠ h.objs.size := by rintro rfl; obtain ⟨o', z⟩ := hid12 h.objs.size (by simp); rw [f] at z; cases z
                      exact EV _ _ (but_of_same sU _ _ bL (but_of_same s16 _ _ bL (E1315 _ _ e)))
                    · obtain ⟨⟨oc, od, dat, osl⟩, n, e, hcl, hdn, hdd⟩ := pOT
                      cases hcl; cases hdn; cases hdd
                      exact ⟨n, osl, getV _ _ (fun hb => by obtain ⟨o', z⟩ := exh _ hb; rw [fOT] at z; cases z) (EV _ _ e)⟩
                case checks =>
                  rintro f h7 ⟨rfl, td, gU, hV, RV, Eg3U, RW, ⟨nO, slO, hOT⟩, EV, XC7, h6, U, s7⟩
                  dsimp only
                  obtain ⟨GU6, KU6, gT, EUT, GT6, hid4, ITd, tdS, TS, hsame⟩ := U
                  have b7 := but_of_same s7
                  have GT7 : Ext gT h7 := fun b o e => b7 b o (fun q => by subst q; rw [hid4 _ (by simp)] at e; cases e) (GT6 _ _ e)
                  have Eg3T := Eg3U.trans EUT
                  have XT := X3.keeps Eg3T
                  have X7 := XT.keeps GT7
                  have offL : ∀ b ∈ [h.objs.size, h.objs.size + 1, FD, SH], ∀ t ∈ ts, .ref b ≠ t.v := fun b hb t ht e => (RV.off t ht b e).1 hb
                  have K67 : ∀ b o, b ∈ [h.objs.size, h.objs.size + 1, FD, SH] → b ≠ h.objs.size + 1 → hV.get? b = some o → h7.get? b = some o := fun b o hb n e => b7 b o n (KU6 b o (offL b hb) e)
                  have N7 : h7.Ns h.objs.size _ := (ns_keeps NU' EV).at fun o e => K67 _ o (by simp) (by omega) e
                  obtain ⟨xdT, esT, epT, hT, hxT, yT⟩ := id ITd
                  have jnd := joined_nodup (ts := ts) knd
                  have jfv := joined_five (ts := ts) kfv fun t ht => (R.th t ht).2.2.2
                  have jl := five_len jnd jfv
                  have TS7 : ∀ t ∈ ts, ThingS gT h7 t := fun t ht => (TS t ht).after fun b o e n hcl q => b7 b o (fun z => by subst z; exact offL _ (by simp) t ht e) q
                  refine Go.cons (Go.mono (Q := fun f h' => f = .next ∧ Ext h7 h') ?if1 ?c1)
                  case if1 =>
                    refine Go.iff (Go.tor (Go.orcons (Go.tnot (Go.tval (Go.callE rfl rfl ?_)))))
                    walk_at "e_name"
                    refine Go.spc ?_
                    walk_at "e_name"
                    refine Go.spc ?_
                    walk_at "e_name"
                    refine Go.spn ⟨keep_plain (fun a e => by cases e), ?_⟩
                    refine Go.mono (Go.up (isi_ai X7 (GT7 _ _ hT)) hA (by show A.depth + 1 ≤ 700; omega) (by show A.units + 3 ≤ 700; omega)) ?_
                    rintro v h8 ⟨rfl, E8⟩
                    refine Go.truthyBool ?_
                    rw [if_neg (by simp)]
                    have X8 := X7.keeps E8
                    have XC8 := cell_keeps XC7 E8
                    have GT8 := GT7.trans E8
                    have N8 := ns_keeps N7 E8
                    refine Go.orcons (Go.tcmp (Go.callE rfl rfl ?_))
                    walk_at "e_name"
                    refine Go.spc (Go.method rfl rfl (by decide) rfl ?_)
                    walk_at "e_name"
                    refine gm_items X8 (GT8 _ _ hT) (.i (GT8 _ _ hxT)) ?_
                    refine Go.spn ⟨keep_plain (fun a e => by cases e), ?_⟩
                    refine Go.itemsView X8 (GT8 _ _ hT) .i tdS ?_
                    refine Go.spn ⟨keep_plain (fun a e => by cases e), ?_⟩
                    have Ev : Ext h8 (h8.push ⟨.type "dict_items", none, .fields #[.ref td], #[]⟩) := fun b o e => Heap.get?_push_of_some _ e
                    refine Go.mono (Go.up (listItems (by simpa using tdS) (Ev _ _ (GT8 _ _ hT)) yT (.i (Ev _ _ (GT8 _ _ hxT))) (by omega) (by simp) (Heap.get?_push_size _ rfl)) hA (by show A.depth + 1 ≤ 700; omega) (by show A.units + 3 ≤ 700; omega)) ?_
                    rintro v h9 ⟨ll, rfl, fl, E9, hl9⟩
                    have E89 := Ev.trans E9
                    have N9 := ns_keeps N8 E89
                    have X9 := X8.keeps E89
                    have GT9 := GT8.trans E89
                    walk_at "e_name"
                    refine Go.neRows (kvs := joined kvs ts) (hl9 h9 (New.self _ _)).rows ((RW.keeps EUT).keeps GT9) (five_ok jfv) (by show A.units + 3 ≤ 1000; omega) (Go.truthyBool ?_)
                    rw [if_neg (by simp)]
                    refine Go.orcons (Go.tnot (Go.tval (Go.callE rfl rfl ?_)))
                    walk_at "e_name"
                    refine Go.spc ?_
                    walk_at "e_name"
                    refine Go.spn ⟨keep_K X9 (by k_is), ?_⟩
                    have E79 := E8.trans E89
                    refine Go.mono (stands_spec (g := gT) XT GT9 (PH3.isList.at fun o e => GT9 _ _ (Eg3T _ _ e)) ((hds.keeps Eg3T).keeps GT9) (fun t ht => (TS7 t ht).after fun b o e n hcl q => E79 _ _ q) (fun t ht => (R.th t ht).2.1) (fun t ht => five_ok (R.th t ht).2.2.2) hA (by show A.depth + 1 ≤ 400; omega) (by show A.units + 3 ≤ 400; omega)) ?_
                    rintro v h10 ⟨rfl, E10⟩
                    refine Go.truthyBool ?_
                    rw [if_neg (by simp)]
                    refine Go.ornil ?_
                    rw [if_neg (by simp)]
                    exact Go.nil ⟨rfl, E79.trans E10⟩
                  case c1 =>
                    rintro f h8 ⟨rfl, E8⟩
                    dsimp only
                    have XC8 := cell_keeps XC7 E8
                    have N8 := ns_keeps N7 E8
                    have X8 := X7.keeps E8
                    have GT8 := GT7.trans E8
                    have I8 := ((I3.keeps Eg3T).keeps GT8)
                    obtain ⟨xdc, esc, epc, hcc, hxc, ycc⟩ := id I8
                    refine Go.cons (Go.mono (Q := fun f h' => f = .next ∧ Ext h8 h') ?if2 ?c2)
                    case if2 =>
                      refine Go.iff (Go.tand (Go.andcons (Go.tcmp ?_)))
                      rcases hsame with hs | ⟨hs, tdn, tdo⟩
                      · rw [hs] at N8
                        walk_at "e_name"
                        refine Go.constNone (Go.isNotPlain rfl (Go.truthyBool ?_))
                        rw [if_pos (by simp)]
                        refine Go.andcons (Go.tcmp ?_)
                        walk_at "e_name"
                        walk_at "e_name"
                        refine Go.isNotSelf (Go.truthyBool ?_)
                        rw [if_neg (by simp)]
                        rw [if_neg (by simp)]
                        exact Go.nil ⟨rfl, Ext.refl _⟩
                      · rw [hs] at N8
                        walk_at "e_name"
                        refine Go.constNone (Go.isNotPlain rfl (Go.truthyBool ?_))
                        rw [if_neg (by simp)]
                        rw [if_neg (by simp)]
                        exact Go.nil ⟨rfl, Ext.refl _⟩
                    case c2 =>
                      rintro f h9 ⟨rfl, E9⟩
                      dsimp only
                      have XC9 := cell_keeps XC8 E9
                      have N9 := ns_keeps N8 E9
                      have X9 := X8.keeps E9
                      have GT9 := GT8.trans E9
                      refine Go.cons (Go.mono (Q := fun f h' => f = .next ∧ Ext h9 h') ?if3 ?c3)
                      case if3 =>
                        refine Go.iff (Go.tand (Go.andcons (Go.tcmp ?_)))
                        rcases hsame with hs | ⟨hs, tdn, tdo⟩
                        · rw [hs] at N9
                          walk_at "e_name"
                          refine Go.constNone (Go.isPlain rfl (Go.truthyBool ?_))
                          rw [if_neg (by simp)]
                          rw [if_neg (by simp)]
                          exact Go.nil ⟨rfl, Ext.refl _⟩
                        · rw [hs] at N9
                          walk_at "e_name"
                          refine Go.constNone (Go.isPlain rfl (Go.truthyBool ?_))
                          rw [if_pos (by simp)]
                          refine Go.andcons (Go.tor (Go.orcons (Go.tcmp ?_)))
                          walk_at "e_name"
                          walk_at "e_name"
                          refine Go.isOther tdn (GT9 _ _ hT) (E9 _ _ hcc) (by simp) (Go.truthyBool ?_)
                          rw [if_neg (by simp)]
                          refine Go.orcons (Go.tcmp (Go.callE rfl rfl ?_))
                          walk_at "e_name"
                          refine Go.spc (Go.compV (cl := [(Str.ofString "told", h.objs.size + 1)]) ?clos ?cell ?kind ?names ?H (hA := hA))
                          case clos => rfl
                          case cell => kernel_rfl
                          case kind => rfl
                          case names => decide
                          case H =>
                            walk_at "e_name"
                            have hOT9 := GT9 _ _ (EUT _ _ hOT)
                            refine CompAt.list (items := (ts.map (·.v)).toArray) gT (fun i g' ys => ys = []) ⟨_, hOT9, rfl, _, rfl⟩ (by rw [List.size_toArray, List.length_map]; omega) ?ho GT9 (fun _ _ => rfl) ?step ?fin hA
                            case ho => obtain ⟨o, _, _, e, _⟩ := N9; exact ⟨o, e⟩
                            case step =>
                              intro C i v h₂ m' ys fC hi hv E2 hJ N2
                              obtain ⟨t, ht, rfl⟩ : ∃ t, ts[i]? = some t ∧ t.v = v := by
                                have hv' : (ts.map (·.v))[i]? = some v := by simpa using hv
                                rw [List.getElem?_map] at hv'
                                cases q : ts[i]? with
                                | none => rw [q] at hv'; simp at hv'
                                | some t => rw [q] at hv'; exact ⟨t, rfl, by simpa using hv'⟩
                              have htm := List.mem_of_getElem? ht
                              refine Go.asgName (Go.stl rfl (by kernel_rfl) N2 fun h₃ N3 s3 => ?_)
                              have E3 : Ext h9 h₃ := E2.thru (but_of_same s3) fC
                              have XC3 := cell_keeps XC9 E3
                              have fin : ∀ A : Around, Go c A (compareOp .Is t.v (.ref td)) (fun v h' => v = .bool false ∧ h' = h₃) h₃ := by
                                intro A
                                have hb := TS7 t htm
                                rcases thing_v (R.th t htm).1 with q | ⟨b, q⟩
                                · rw [q]; exact Go.isPlain rfl ⟨rfl, rfl⟩
                                · obtain ⟨o, z⟩ := things_old GT7 hb q.symm
                                  rw [q]
                                  have n : b ≠ td := fun e => tdo t htm (by rw [q, e])
                                  exact Go.isOtherR n (E3 _ _ (E9 _ _ (E8 _ _ z))) (E3 _ _ (GT9 _ _ hT)) (by simp) ⟨rfl, rfl⟩
                              refine Go.testsOne (Go.tcmp ?_)
                              walk_at "e_name"
                              walk_at "e_name"
                              refine (fin _).mono ?_
                              rintro v h' ⟨rfl, rfl⟩
                              refine Go.truthyBool ?_
                              rw [if_neg (by simp)]
                              exact ⟨fun b o n e => but_of_same s3 b o n e, ⟨_, N3⟩, fun g' e1 _ J => J⟩
                            case fin =>
                              intro D h₂ ys fD E2 ly hJ lD
                              have ey : ys = [] := hJ h₂ (GT9.trans E2) (New.self _ _)
                              subst ey
                              refine Go.spn ⟨keep_plain (fun a e => by cases e), ?_⟩
                              refine Go.lenList lD.isList (by simp) fun tl => ?_
                              refine Go.constInt fun t0 => Go.gtInt (Go.truthyBool ?_)
                              rw [if_neg (by simp)]
                              refine Go.ornil ?_
                              rw [if_neg (by simp)]
                              rw [if_neg (by simp)]
                              exact Go.nil ⟨rfl, E2⟩
                      case c3 =>
                        rintro f hA0 ⟨rfl, EA⟩
                        dsimp only
                        have XCA := cell_keeps XC9 EA
                        have NA := ns_keeps N9 EA
                        have XA := X9.keeps EA
                        have GTA := GT9.trans EA
                        have E7A := E8.trans (E9.trans EA)
                        have EcA : Ext h8 hA0 := E9.trans EA
                        have KVA : ∀ b o, b ∈ [h.objs.size, h.objs.size + 1, FD, SH] → b ≠ h.objs.size + 1 → hV.get? b = some o → hA0.get? b = some o := fun b o hb n e => E7A _ _ (K67 b o hb n e)
                        have nd := RV.nd
                        simp only [List.nodup_cons, List.mem_cons, List.not_mem_nil, or_false, not_or] at nd
                        obtain ⟨⟨n1, n2, n3⟩, ⟨n5, n6⟩, n8, _⟩ := nd
                        have PSA : PlainL hA0 SH (List.toArray ys) := plainAt RV.shelf fun o e => KVA _ _ (by simp) (Ne.symm n6) e
                        have hFDA : FeedAt hA0 FD n' := RV.feed.at fun o e => KVA _ _ (by simp) (Ne.symm n5) e
                        -- shelf.append((cur, list(cur.items())))
                        refine Go.cons (Go.exprNone (Go.method rfl rfl (by decide) rfl ?_))
                        walk_at "e_name"
                        refine gm_append PSA ?_
                        refine Go.spc (Go.tuple (Go.spc ?_))
                        walk_at "e_name"
                        refine Go.spc (Go.callE rfl rfl ?_)
                        walk_at "e_name"
                        refine Go.spc (Go.method rfl rfl (by decide) rfl ?_)
                        walk_at "e_name"
                        refine gm_items XA (EcA _ _ hcc) (.i (EcA _ _ hxc)) ?_
                        refine Go.spn ⟨keep_plain (fun a e => by cases e), ?_⟩
                        refine Go.itemsView XA (EcA _ _ hcc) .i curSys ?_
                        refine Go.spn ⟨keep_plain (fun a e => by cases e), ?_⟩
                        have Ev : Ext hA0 (hA0.push ⟨.type "dict_items", none, .fields #[.ref cur], #[]⟩) := fun b o e => Heap.get?_push_of_some _ e
                        refine Go.mono (Go.up (listItems (by simpa using curSys) (Ev _ _ (EcA _ _ hcc)) ycc (.i (Ev _ _ (EcA _ _ hxc))) (by omega) (by simp) (Heap.get?_push_size _ rfl)) hA (by show A.depth + 1 ≤ 700; omega) (by show A.units + 3 ≤ 700; omega)) ?_
                        rintro v hB ⟨ll, rfl, fl, EB, hlB⟩
                        have EAB := Ev.trans EB
                        refine Go.spn ⟨Nat.le_of_ble_eq_true rfl, ?_⟩
                        have fTp := fresh_at hB
                        have hTp : (hB.push ⟨.type "tuple", none, .seq [.ref cur, .ref ll].toArray, #[]⟩).get? hB.objs.size = some ⟨.type "tuple", none, .seq [.ref cur, .ref ll].toArray, #[]⟩ := Heap.get?_push_size _ rfl
                        have EBC : Ext hB (hB.push ⟨.type "tuple", none, .seq [.ref cur, .ref ll].toArray, #[]⟩) := fun b o e => Heap.get?_push_of_some _ e
                        generalize hB.objs.size = tp at fTp hTp
                        generalize hB.push ⟨.type "tuple", none, .seq [.ref cur, .ref ll].toArray, #[]⟩ = hC at hTp EBC
                        refine Go.spn ⟨keep_plain (fun a e => by cases e), ?_⟩
                        have EAC := EAB.trans EBC
                        have ysb := RV.bound
                        refine Go.append (PSA.keeps EAC) (by rw [List.size_toArray]; omega) fun hD PD sD => ⟨rfl, ?_⟩
                        have bD := but_of_same sD
                        dsimp only
                        have ND := ns_but (ns_keeps NA EAC) bD n3
                        have XCD : hD.IsCell (h.objs.size + 1) (some (.ref td)) := by
                          obtain ⟨o, e, q⟩ := cell_keeps XCA EAC
                          exact ⟨o, bD _ _ n6 e, q⟩
                        -- cur = told
                        refine Go.cons (Go.asg ?_)
                        walk_at "e_name"
                        refine Go.stl rfl (by kernel_rfl) ND fun hE NE sE => ?_
                        have bE : But h.objs.size hD hE := but_of_same sE
                        refine Go.nil ?_
                        have kAE : ∀ b o, b ≠ h.objs.size → b ≠ SH → hA0.get? b = some o → hE.get? b = some o := fun b o a1 a2 e => bE b o a1 (bD b o a2 (EAC _ _ e))
                        have kCE : ∀ b o, b ≠ h.objs.size → b ≠ SH → hC.get? b = some o → hE.get? b = some o := fun b o a1 a2 e => bE b o a1 (bD b o a2 e)
                        have GTE : Ext gT hE := fun b o e => kAE b o (fun q => by subst q; rw [hid4 _ (by simp)] at e; cases e) (fun q => by subst q; rw [hid4 _ (by simp)] at e; cases e) (GTA _ _ e)
                        have Egn := ext_hide GTE hid4
                        have exA : ∀ b ∈ [h.objs.size, h.objs.size + 1, FD, SH], ∃ o, hA0.get? b = some o := by
                          intro b hb
                          simp only [List.mem_cons, List.not_mem_nil, or_false] at hb
                          rcases hb with rfl | rfl | rfl | rfl
                          · obtain ⟨o, _, _, e, _⟩ := NA; exact ⟨o, e⟩
                          · obtain ⟨o, e, _⟩ := XCA; exact ⟨o, e⟩
                          · obtain ⟨_, _, _, e, _⟩ := hFDA; exact ⟨_, e⟩
                          · obtain ⟨o, _, e, _⟩ := PSA; exact ⟨o, e⟩
                        have newA : ∀ b o, hA0.get? b = none → hC.get? b = some o → (hideAll hE [h.objs.size, h.objs.size + 1, FD, SH]).get? b = some o := fun b o f e => by
                          have nb : b ∉ [h.objs.size, h.objs.size + 1, FD, SH] := fun hb => by obtain ⟨o', z⟩ := exA b hb; rw [f] at z; cases z
                          refine hideAll_get _ (kCE b o (fun q => nb (by simp [q])) (fun q => nb (by simp [q])) e) nb
                        refine ⟨n', hn', hideAll hE [h.objs.size, h.objs.size + 1, FD, SH], RV.nd, ((Bg.trans (S.E.trans Eg3)).trans Eg3T).trans Egn, hide_ext _ _, hideAll_none _ (by simp), hideAll_none _ (by simp), hideAll_none _ (by simp), hideAll_none _ (by simp), ?_, ?_, ?_, ?_⟩
                        · obtain ⟨o, e, q⟩ := XCD
                          exact ⟨_, o, bE _ _ (Nat.succ_ne_self _) e, q⟩
                        · exact hFDA.at fun o e => kAE _ _ (Ne.symm n2) n8 e
                        · refine ⟨ys ++ [.ref tp], ?_, fun y hy => ?_, by simp; omega⟩
                          · have := plain_but PD bE (Ne.symm n3)
                            simpa using this
                          · rcases List.mem_append.mp hy with hy | hy
                            · exact (RV.stages y hy).keeps (EUT.trans Egn)
                            · have ey : y = .ref tp := by simpa using hy
                              subst ey
                              refine ⟨tp, cur, ll, kvs, rfl, ⟨_, newA _ _ (EAB.fresh fTp) hTp, rfl, _, rfl⟩, (I3.keeps Eg3T).keeps Egn, (hlB _ fun b o f e => newA b o (Ev.fresh f) (EBC _ _ e)).rows, kvl, five_ok kfv, curSys⟩
                        · exact ⟨_, td, joined kvs ts, NE, by walk_at "e_mv", by walk_at "e_mv", by walk_at "e_mv", ITd.keeps Egn, jnd, jfv, tdS⟩
end
end Mine
namespace Mine
theorem limOf {c : Cx} {h : Heap} (X : (Mine.hd.heap_39 c.w.params).In h) : h.NoLimit := by
  refine' lim_of X ?a ?b
  case a => kernel_rfl
  case b => k_is
end Mine
theorem PySem.Challenge.cw_ep5041_01_holds : PySem.Challenge.rw_ep5041_01.Holds := by
  refine Mine.hd ?_
  k_fill
  intro w s₀ s₁ mg mb G Y fa o pm cd doc dV kV ho hd hcd hD hmg hg args vals as hpre hlay hrd hwl hlo
  have KX := kIn_of Y
  refine Ground.open G ?_
  intro T B D TE TW
  wrow_args hpre hlay hrd hwl hlo
  x_fa T KX hmg
  all_lens
  rename_i w5 _ _ _ _ _ _ _ w2 w1 _ hL _ _ _ _ hcond _ hi9 hb9
  have lim : s₁.heap.NoLimit := Mine.limOf (c := ⟨w, s₁.gens, s₁.drawn, s₁.os⟩) KX
  have seer : s₁.heap.NoSeer := PyProof.Rows.Top.seer T (by decide +kernel)
  have spec := Mine.law_spec (c := ⟨w, s₁.gens, s₁.drawn, s₁.os⟩) (A := callerA) KX ⟨lim, seer⟩ hL hi9 (by omega) rfl (by decide) rfl (by decide) s₁.toks
  refine wpAny_mono spec (fun v s' ⟨h', tk', e, ev, E⟩ => ?_) fun _ _ x => x.elim
  subst e ev
  refine ⟨.inl ⟨_, _, [], rfl, fun _ => rfl, ReadsW.bool true, ?post, fun _ => ⟨List.nodup_nil, fun _ hm => (nomatch hm)⟩⟩, ?old, rfl, ?gens⟩
  case gens => exact .of_eq hg
  case old => exact .of_keep E
  case post => first | rfl | wrow_post
