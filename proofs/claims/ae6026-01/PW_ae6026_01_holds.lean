import PyProof.Rows.All
import Wide.All
import OpenK.AllK
import Wide.FinOn
import PySem.Challenge.RW_ae6026_01
open PySem PySem.W PyProof.Rows PySem.Calls
set_option Elab.async false
set_option maxRecDepth 100000
set_option linter.unusedVariables false
namespace Mine

/-! ## values, objects, ledgers -/
inductive V where
  | none
  | bool (b : Bool)
  | int (i : Int)
  | ref (a : Addr)
  | val (v : Value)

def VR : V → Value → Prop
  | .none, v => v = .none
  | .bool b, v => v = .bool b
  | .int i, v => ∃ t, v = .int i t
  | .ref a, v => v = .ref a
  | .val u, v => v = u

inductive VRs : List V → List Value → Prop
  | nil : VRs [] []
  | cons {x : V} {v : Value} {xs : List V} {vs : List Value} (h : VR x v) (t : VRs xs vs) : VRs (x :: xs) (v :: vs)

inductive O where
  | list (xs : List V)
  | tup (xs : List V)
  | inst (c d : Addr) (fs : List (Nat × V))
  | sub (c d : Addr) (xs : List V)
  | idict (es : List (Int × V)) (ep : Nat)
  | slice (l u st : V)
  | liter (l : Addr) (k : Nat)
  | rng (lo hi : Int)

abbrev Led := List (Addr × O)
abbrev Loc := List (Option V)

def kf : Addr × O → List Addr
  | (a, .inst _ d _) => [a, d]
  | (a, .sub _ d _) => [a, d]
  | (a, _) => [a]
def keys (Γ : Led) : List Addr := Γ.flatMap kf

structure Cx where
  prog : Program
  w : World
  K : Frag
  hB : Heap
  mg : Str → Option Value
  mb : Str → Option Value
  /-- the names behind dots, by number -/
  at_ : List Str

abbrev Cx.M (X : Cx) : Model := model X.prog X.w

structure Cx.Ok (X : Cx) : Prop where
  kin : X.K.In X.hB
  nolimit : X.hB.NoLimit
  g : X.hB.Ns mainGlobals X.mg
  b : X.hB.Ns builtinsNs X.mb

/-- the entries of an object's dict -/
inductive FsR (X : Cx) : List (Nat × V) → List DictEntry → Prop
  | nil : FsR X [] []
  | cons {k : Nat} {x : Str} {v : V} {v' : Value} {t : Tok} {fs : List (Nat × V)} {es : List DictEntry} (hx : X.at_[k]? = some x) (h : VR v v') (r : FsR X fs es) :
      FsR X ((k, v) :: fs) (⟨PyData.keyHash X.w.params x, .str x t, v'⟩ :: es)
inductive EsR : List (Int × V) → List (Int × Value) → Prop
  | nil : EsR [] []
  | cons {i : Int} {v : V} {v' : Value} {fs : List (Int × V)} {es : List (Int × Value)} (h : VR v v') (r : EsR fs es) :
      EsR ((i, v) :: fs) ((i, v') :: es)

def OR (X : Cx) (h : Heap) (a : Addr) : O → Prop
  | .list xs => ∃ vs n, h.get? a = some { cls := .type "list", data := .seq vs.toArray n } ∧ VRs xs vs
  | .tup xs => ∃ vs n, h.get? a = some { cls := .type "tuple", data := .seq vs.toArray n } ∧ VRs xs vs
  | .inst c d fs => h.get? a = some (instObj c d) ∧ ∃ es n, h.get? d = some { cls := .type "dict", data := .dict es.toArray n } ∧ FsR X fs es
  | .sub c d xs => (∃ vs n, h.get? a = some { cls := .ref c, dict := some d, data := .seq vs.toArray n } ∧ VRs xs vs) ∧ ∃ o, h.get? d = some o
  | .idict fs ep => X.hB.objs.size ≤ a ∧ ∃ kvs, h.DictAt (PySem.intKind X.prog X.w) a kvs ep ∧ EsR fs kvs
  | .slice l u st => ∃ l' u' st', h.get? a = some { cls := .type "slice", data := .fields #[l', u', st'] } ∧ VR l l' ∧ VR u u' ∧ VR st st'
  | .liter l k => h.IsListIter a l k
  | .rng lo hi => ∃ t u v, h.get? a = some { cls := .type "range", data := .fields #[.int lo t, .int hi u, .int 1 v] }

theorem OR.same {X : Cx} {h h' : Heap} {a : Addr} {o : O} (r : OR X h a o) (k : ∀ b ∈ kf (a, o), h'.get? b = h.get? b) : OR X h' a o := by
  cases o with
  | list xs => obtain ⟨vs, n, e, q⟩ := r; exact ⟨vs, n, (k a (by simp [kf])).trans e, q⟩
  | tup xs => obtain ⟨vs, n, e, q⟩ := r; exact ⟨vs, n, (k a (by simp [kf])).trans e, q⟩
  | inst c d fs => obtain ⟨e, es, n, e', q⟩ := r; exact ⟨(k a (by simp [kf])).trans e, es, n, (k d (by simp [kf])).trans e', q⟩
  | sub c d xs => obtain ⟨⟨vs, n, e, q⟩, o, e'⟩ := r; exact ⟨⟨vs, n, (k a (by simp [kf])).trans e, q⟩, o, (k d (by simp [kf])).trans e'⟩
  | idict fs ep => obtain ⟨l, vs, d, q⟩ := r; exact ⟨l, vs, d.at' fun o e => (k a (by simp [kf])).trans e, q⟩
  | slice l u st => obtain ⟨l', u', st', e, q⟩ := r; exact ⟨l', u', st', (k a (by simp [kf])).trans e, q⟩
  | liter l i => obtain ⟨o, e, q⟩ := r; exact ⟨o, (k a (by simp [kf])).trans e, q⟩
  | rng lo hi => obtain ⟨x, y, z, e⟩ := r; exact ⟨x, y, z, (k a (by simp [kf])).trans e⟩
theorem OR.keep {X : Cx} {h h' : Heap} {a : Addr} {o : O} (r : OR X h a o) (k : ∀ b ∈ kf (a, o), ∀ x, h.get? b = some x → h'.get? b = some x) : OR X h' a o := by
  cases o with
  | list xs => obtain ⟨vs, n, e, q⟩ := r; exact ⟨vs, n, k a (by simp [kf]) _ e, q⟩
  | tup xs => obtain ⟨vs, n, e, q⟩ := r; exact ⟨vs, n, k a (by simp [kf]) _ e, q⟩
  | inst c d fs => obtain ⟨e, es, n, e', q⟩ := r; exact ⟨k a (by simp [kf]) _ e, es, n, k d (by simp [kf]) _ e', q⟩
  | sub c d xs => obtain ⟨⟨vs, n, e, q⟩, o, e'⟩ := r; exact ⟨⟨vs, n, k a (by simp [kf]) _ e, q⟩, o, k d (by simp [kf]) _ e'⟩
  | idict fs ep => obtain ⟨l, vs, d, q⟩ := r; exact ⟨l, vs, d.at' fun o e => k a (by simp [kf]) _ e, q⟩
  | slice l u st => obtain ⟨l', u', st', e, q⟩ := r; exact ⟨l', u', st', k a (by simp [kf]) _ e, q⟩
  | liter l i => obtain ⟨o, e, q⟩ := r; exact ⟨o, k a (by simp [kf]) _ e, q⟩
  | rng lo hi => obtain ⟨x, y, z, e⟩ := r; exact ⟨x, y, z, k a (by simp [kf]) _ e⟩
/-- each key of an entry is there -/
theorem OR.there {X : Cx} {h : Heap} {a : Addr} {o : O} (r : OR X h a o) : ∀ b ∈ kf (a, o), ∃ x, h.get? b = some x := by
  intro b hb
  cases o with
  | list xs => obtain ⟨vs, n, e, q⟩ := r; simp [kf] at hb; subst hb; exact ⟨_, e⟩
  | tup xs => obtain ⟨vs, n, e, q⟩ := r; simp [kf] at hb; subst hb; exact ⟨_, e⟩
  | inst c d fs =>
    obtain ⟨e, es, n, e', q⟩ := r
    simp [kf] at hb
    rcases hb with hb | hb <;> subst hb
    · exact ⟨_, e⟩
    · exact ⟨_, e'⟩
  | sub c d xs =>
    obtain ⟨⟨vs, n, e, q⟩, o, e'⟩ := r
    simp [kf] at hb
    rcases hb with hb | hb <;> subst hb
    · exact ⟨_, e⟩
    · exact ⟨_, e'⟩
  | idict fs ep => obtain ⟨l, vs, ⟨o, es, ho, _⟩, q⟩ := r; simp [kf] at hb; subst hb; exact ⟨_, ho⟩
  | slice l u st => obtain ⟨l', u', st', e, q⟩ := r; simp [kf] at hb; subst hb; exact ⟨_, e⟩
  | liter l i => obtain ⟨o, e, q⟩ := r; simp [kf] at hb; subst hb; exact ⟨_, e⟩
  | rng lo hi => obtain ⟨x, y, z, e⟩ := r; simp [kf] at hb; subst hb; exact ⟨_, e⟩

theorem mem_keys {Γ : Led} {e : Addr × O} {k : Addr} (he : e ∈ Γ) (hk : k ∈ kf e) : k ∈ keys Γ := List.mem_flatMap.mpr ⟨e, he, hk⟩

/-! ## frames -/
def slotsOf (sc : Scope) : List Str := sc.names.filterMap fun (x, k) => if k == .local || k == .cell || k == .free then some x else none

def footF (env : Env) (a : Addr) : Prop := a = env.locals ∨ ∃ x, env.kindOf x = some .cell ∧ env.cells.lookup x = some a

structure LocR (env : Env) (loc : Loc) (h : Heap) : Prop where
  m : ∃ m, h.Ns env.locals m ∧ ∀ (i : Nat) (x : Str) (v : V), (slotsOf env.scope)[i]? = some x → env.kindOf x = some .local → loc[i]? = some (some v) → ∃ v', m x = some v' ∧ VR v v'
  c : ∀ x, env.kindOf x = some .cell → ∃ c v₀, env.cells.lookup x = some c ∧ h.IsCell c v₀
  cv : ∀ (i : Nat) (x : Str) (v : V), (slotsOf env.scope)[i]? = some x → env.kindOf x = some .cell → loc[i]? = some (some v) → ∃ c v', env.cells.lookup x = some c ∧ h.IsCell c (some v') ∧ VR v v'

/-- what is fixed of a frame -/
structure EnvOk (X : Cx) (env : Env) : Prop where
  kind : env.scope.kind = .function
  gl : env.globals = mainGlobals
  bl : env.builtins = builtinsNs
  nd : (slotsOf env.scope).Nodup
  apart : ∀ x c, env.kindOf x = some .cell → env.cells.lookup x = some c → c ≠ env.locals
  inj : ∀ x y c, env.kindOf x = some .cell → env.kindOf y = some .cell → env.cells.lookup x = some c → env.cells.lookup y = some c → x = y
  size : X.hB.objs.size ≤ env.locals
  new : ∀ a, footF env a → X.hB.get? a = none

structure Invt (X : Cx) (env : Env) (loc : Loc) (Γ : Led) (h : Heap) : Prop where
  base : ∀ b o, X.hB.get? b = some o → h.get? b = some o
  loc : LocR env loc h
  led : ∀ e ∈ Γ, OR X h e.1 e.2
  nd : (keys Γ).Nodup
  ap : ∀ k ∈ keys Γ, X.hB.get? k = none ∧ ¬ footF env k

structure Tr (env : Env) (Γ : Led) (s : Shared) (Γ' : Led) (s' : Shared) : Prop where
  keep : ∀ b o, s.heap.get? b = some o → ¬ footF env b → b ∉ keys Γ → s'.heap.get? b = some o
  fresh : ∀ k ∈ keys Γ', k ∈ keys Γ ∨ s.heap.get? k = none
  gens : s'.gens = s.gens
  os : s'.os = s.os

theorem Tr.refl {env : Env} {Γ : Led} {s : Shared} : Tr env Γ s Γ s := ⟨fun _ _ e _ _ => e, fun _ h => .inl h, rfl, rfl⟩
theorem Tr.trans {X : Cx} {env : Env} {loc : Loc} {Γ Γ₁ Γ₂ : Led} {s s₁ s₂ : Shared} (x : Tr env Γ s Γ₁ s₁) (y : Tr env Γ₁ s₁ Γ₂ s₂) (i : Invt X env loc Γ₂ s₂.heap) : Tr env Γ s Γ₂ s₂ where
  keep := fun b o e hf hk => by
    have e1 := x.keep b o e hf hk
    refine y.keep b o e1 hf fun hk1 => ?_
    rcases x.fresh b hk1 with h | h
    · exact hk h
    · rw [e] at h; cases h
  fresh := fun k hk => by
    rcases y.fresh k hk with h | h
    · exact x.fresh k h
    · cases q : s.heap.get? k with
      | none => exact .inr rfl
      | some o =>
        by_cases hk' : k ∈ keys Γ
        · exact .inl hk'
        · have := x.keep k o q (i.ap k hk).2 hk'
          rw [h] at this; cases this
  gens := y.gens.trans x.gens
  os := y.os.trans x.os

structure Room (n : Nat) (A : Around) : Prop where
  hd : A.handled = none
  depth : A.depth + n < recursionLimit
  units : A.units + 8 * n < cLine

theorem Room.le {n m : Nat} {A : Around} (r : Room n A) (h : m ≤ n) : Room m A := ⟨r.hd, by have := r.depth; omega, by have := r.units; omega⟩

def never : Value → Shared → Prop := fun _ _ => False

/-- the judgement -/
def Tri {α β : Type} (X : Cx) (n : Nat) (env : Env) (R : β → α → Prop) (t : Sem α) (loc : Loc) (Γ : Led) (Q : β → Loc → Led → Prop) : Prop :=
  ∀ A s (Qc : α → Shared → Prop), X.Ok → EnvOk X env → Room n A → Invt X env loc Γ s.heap →
    (∀ b a loc' Γ' s', Q b loc' Γ' → R b a → Invt X env loc' Γ' s'.heap → Tr env Γ s Γ' s' → Qc a s') → wpAny X.M A t Qc never s

section
variable {α β γ δ : Type} {X : Cx} {n : Nat} {env : Env} {R : β → α → Prop} {loc : Loc} {Γ : Led}

theorem Tri.pure {a : α} {b : β} {Q : β → Loc → Led → Prop} (r : R b a) (q : Q b loc Γ) : Tri X n env R (pure a) loc Γ Q :=
  fun _ _ _ _ _ _ I k => wpAny_pure (k b a loc Γ _ q r I .refl)
theorem Tri.mono {t : Sem α} {Q Q' : β → Loc → Led → Prop} (h : Tri X n env R t loc Γ Q) (hq : ∀ b l g, Q b l g → Q' b l g) : Tri X n env R t loc Γ Q' :=
  fun A s Qc ok eo rm I k => h A s Qc ok eo rm I fun b a l g s' q => k b a l g s' (hq b l g q)
theorem Tri.bind {R' : δ → γ → Prop} {t : Sem α} {k : α → Sem γ} {Q : β → Loc → Led → Prop} {Q' : δ → Loc → Led → Prop} (h : Tri X n env R t loc Γ Q)
    (hk : ∀ b a l g, Q b l g → R b a → Tri X n env R' (k a) l g Q') : Tri X n env R' (t >>= k) loc Γ Q' :=
  fun A s Qc ok eo rm I q => wpAny_bind (h A s _ ok eo rm I fun b a l g s' qb r I' T => hk b a l g qb r A s' Qc ok eo rm I' fun b' a' l' g' s'' q' r' I'' T' => q b' a' l' g' s'' q' r' I'' (T.trans T' I''))
theorem Tri.eq {t t' : Sem α} {Q : β → Loc → Led → Prop} (e : t = t') (h : Tri X n env R t' loc Γ Q) : Tri X n env R t loc Γ Q := e ▸ h
theorem Tri.holding {vs : List Value} {t : Sem α} {Q : β → Loc → Led → Prop} (h : Tri X n env R t loc Γ Q) : Tri X n env R (holding vs t) loc Γ Q :=
  fun A s Qc ok eo rm I k => wpAny_holding (h A s Qc ok eo rm I k)
theorem Tri.at {pos : Pos} {t : Sem α} {Q : β → Loc → Led → Prop} (h : Tri X n env R t loc Γ Q) : Tri X n env R (do standAt pos; t) loc Γ Q :=
  fun A s Qc ok eo rm I k => wpAny_bind (wpAny_standAt (h A s Qc ok eo rm I k))
theorem Tri.point {t : Sem α} {Q : β → Loc → Led → Prop} (h : Tri X n env R t loc Γ Q) : Tri X n env R (do point; t) loc Γ Q :=
  fun A s Qc ok eo rm I k => wpAny_bind (wpAny_point (h A s Qc ok eo rm I k))
/-- from a plain rule: a tree that turns nothing that we know of -/
theorem Tri.quiet {t : Sem α} {b : β} {Q : β → Loc → Led → Prop}
    (h : ∀ A s (Qc : α → Shared → Prop), X.Ok → EnvOk X env → Room n A → Invt X env loc Γ s.heap → (∀ a tk, R b a → Qc a { s with toks := tk }) → wpAny X.M A t Qc never s) (q : Q b loc Γ) : Tri X n env R t loc Γ Q :=
  fun A s Qc ok eo rm I k => h A s Qc ok eo rm I fun a tk r => k b a loc Γ _ q r I ⟨fun _ _ e _ _ => e, fun _ h => .inl h, rfl, rfl⟩
end

theorem Tri.operate {X : Cx} {n : Nat} {env : Env} {loc : Loc} {Γ : Led} {β : Type} {R : β → Value → Prop} {vs : List Value} {t : Sem Value} {Q : β → Loc → Led → Prop} (h : Tri X n env R t loc Γ Q) : Tri X n env R (operate vs t) loc Γ Q :=
  fun A s Qc ok eo rm I k Γ' p hΓ => by
    rw [Sem.wp_operate]
    exact h A s Qc ok eo rm I k Γ' p hΓ

abbrev TE (X : Cx) (n : Nat) (env : Env) (t : Sem Value) (loc : Loc) (Γ : Led) (Q : V → Led → Prop) : Prop := Tri X n env VR t loc Γ (fun v l g => l = loc ∧ Q v g)
theorem TE.mono {X : Cx} {n : Nat} {env : Env} {t : Sem Value} {loc : Loc} {Γ : Led} {Q Q' : V → Led → Prop} (h : TE X n env t loc Γ Q) (hq : ∀ b g, Q b g → Q' b g) : TE X n env t loc Γ Q' :=
  Tri.mono h fun b _ g q => ⟨q.1, hq b g q.2⟩
theorem TE.bind {X : Cx} {n : Nat} {env : Env} {γ δ : Type} {R' : δ → γ → Prop} {t : Sem Value} {k : Value → Sem γ} {loc : Loc} {Γ : Led} {Q : V → Led → Prop} {Q' : δ → Loc → Led → Prop} (h : TE X n env t loc Γ Q)
    (hk : ∀ b a g, Q b g → VR b a → Tri X n env R' (k a) loc g Q') : Tri X n env R' (t >>= k) loc Γ Q' :=
  Tri.bind h fun b a l g q r => by obtain ⟨rfl, q⟩ := q; exact hk b a g q r

end Mine


open PySem PySem.W PyProof.Rows PySem.Calls
set_option Elab.async false
set_option maxRecDepth 100000
set_option linter.unusedVariables false
namespace Mine

/-! ## what is forgotten -/
inductive Pick : Led → Addr × O → Led → Prop
  | here {e : Addr × O} {Γ : Led} : Pick (e :: Γ) e Γ
  | there {e x : Addr × O} {Γ Γ₁ : Led} (h : Pick Γ e Γ₁) : Pick (x :: Γ) e (x :: Γ₁)
inductive SubP : Led → Led → Prop
  | refl {Γ : Led} : SubP Γ Γ
  | nil {Γ : Led} : SubP [] Γ
  | cons {e : Addr × O} {Γ Γ₁ R : Led} (h : Pick Γ e Γ₁) (r : SubP R Γ₁) : SubP (e :: R) Γ
theorem Pick.perm {Γ Γ₁ : Led} {e : Addr × O} (h : Pick Γ e Γ₁) : Γ.Perm (e :: Γ₁) := by
  induction h with
  | here => exact .refl _
  | there _ ih => exact (List.Perm.cons _ ih).trans (.swap ..)
theorem SubP.perm {Γ Γ' : Led} (h : SubP Γ' Γ) : ∃ R, (Γ' ++ R).Perm Γ := by
  induction h with
  | refl => exact ⟨[], by rw [List.append_nil]⟩
  | nil => exact ⟨_, .refl _⟩
  | cons h _ ih => obtain ⟨R, p⟩ := ih; exact ⟨R, (List.Perm.cons _ p).trans h.perm.symm⟩
def LocLe (l' l : Loc) : Prop := ∀ (i : Nat) v, l'[i]? = some (some v) → l[i]? = some (some v)
theorem LocLe.refl {l : Loc} : LocLe l l := fun _ _ h => h

/-! ## the small language -/
inductive MTg where
  | loc (i : Nat)
  | two (i j : Nat)

mutual
inductive ME where
  | int (i : Int)
  | bool (b : Bool)
  | none
  | loc (i : Nat)
  | val (v : Value)
  | bin (op : Operator) (a b : ME)
  | neg (a : ME)
  | cmp (op : CmpOp) (a b : ME)
  | ite (t : MT) (a b : ME)
  | call (f : ME) (as : MEs)
  | meth (o : ME) (k : Nat) (as : MEs)
  | attr (o : ME) (k : Nat)
  | sub (o i : ME)
  | slice (o l u st : ME)
  | list (as : MEs)
  | tup (as : MEs)
  | dict
  | comp (cap : List (Option Nat)) (t : MTg) (it : MI) (c : MT) (e : ME)
  | comp2 (cap : List (Option Nat)) (t : MTg) (it : MI) (t2 : MTg) (it2 : MI) (e : ME)
inductive MEs where
  | nil
  | cons (e : ME) (r : MEs)
inductive MT where
  | tt
  | ff
  | cmp (op : CmpOp) (a b : ME)
  | and (a r : MT)
  | or (a r : MT)
  | not (a : MT)
  | val (e : ME)
inductive MI where
  | rng (e : ME)
  | rng2 (a b : ME)
  | over (e : ME)
  | enum (e : ME)
  | zip (a b : ME)
  | rev (e : ME)
end

mutual
inductive MS where
  | expr (e : ME)
  | asg (i : Nat) (e : ME)
  | asgSub (o i e : ME)
  | asgAttr (o : ME) (k : Nat) (e : ME)
  | aug (i : Nat) (op : Operator) (e : ME)
  | augSub (o i : ME) (op : Operator) (e : ME)
  | augAttr (o : ME) (k : Nat) (op : Operator) (e : ME)
  | ite (t : MT) (a b : MSs)
  | loop (t : MTg) (it : MI) (b : MSs)
  | ret (e : ME)
  | brk
  | pass
  | never
inductive MSs where
  | nil
  | cons (s : MS) (r : MSs)
end

/-! ## what a loop draws from -/
inductive Src where
  | rng (lo hi : Int)
  | list (a : Addr)
  | tup (a : Addr)
  | enum (a : Addr)
  | zip (a b : Addr)
  | rev (a : Addr) (n : Nat)
  | dict (a : Addr) (ep n : Nat)

/-- the k-th draw -/
def nextW (Γ : Led) (k : Nat) : Src → (Option (List V) → Prop) → Prop
  | .rng lo hi, Q => (lo + k < hi → Q (some [.int (lo + k)])) ∧ (hi ≤ lo + k → Q none)
  | .list a, Q => ∃ xs, (a, O.list xs) ∈ Γ ∧ (∀ v, xs[k]? = some v → Q (some [v])) ∧ (xs.length ≤ k → Q none)
  | .tup a, Q => ∃ xs, (a, O.tup xs) ∈ Γ ∧ (∀ v, xs[k]? = some v → Q (some [v])) ∧ (xs.length ≤ k → Q none)
  | .enum a, Q => ∃ xs, (a, O.list xs) ∈ Γ ∧ (∀ v, xs[k]? = some v → Q (some [.int k, v])) ∧ (xs.length ≤ k → Q none)
  | .zip a b, Q => ∃ xs ys, (a, O.list xs) ∈ Γ ∧ (b, O.list ys) ∈ Γ ∧ (∀ x y, xs[k]? = some x → ys[k]? = some y → Q (some [x, y])) ∧ (xs.length ≤ k ∨ ys.length ≤ k → Q none)
  | .rev a n, Q => ∃ xs, (a, O.list xs) ∈ Γ ∧ xs.length = n ∧ (∀ v, k < n → xs[n - 1 - k]? = some v → Q (some [v])) ∧ (n ≤ k → Q none)
  | .dict a ep n, Q => ∃ es, (a, O.idict es ep) ∈ Γ ∧ es.length = n ∧ (∀ p : Int × V, es[k]? = some p → Q (some [.int p.1])) ∧ (n ≤ k → Q none)

def tgW (Γ : Led) (loc : Loc) : MTg → List V → (Loc → Prop) → Prop
  | .loc i, [v], Q => Q (loc.set i (some v))
  | .two i j, [x, y], Q => Q ((loc.set i (some x)).set j (some y))
  | .two i j, [.ref t], Q => ∃ x y, (t, O.tup [x, y]) ∈ Γ ∧ Q ((loc.set i (some x)).set j (some y))
  | _, _, _ => False

/-! ## semantic words -/
def LooksQ (X : Cx) {α : Type} (t : Sem α) : Prop := ∀ A s (Qc : α → Shared → Prop), (∀ b o, X.hB.get? b = some o → s.heap.get? b = some o) → (∀ k, Qc k s) → wpAny X.M A t Qc never s

/-- a call -/
def callW (X : Cx) (n : Nat) (fv : V) (vs : List V) (Γ : Led) (Q : V → Led → Prop) : Prop :=
  ∀ fv' vs', VR fv fv' → VRs vs vs' → ∀ env loc, TE X n env (call fv' vs') loc Γ Q
/-- it may be called by a call's expression -/
def keepsW (X : Cx) (fv : V) : Prop := ∀ fv', VR fv fv' → X.Ok → LooksQ X (keeperOf fv')

def methR (X : Cx) (n : Nat) (Γ : Led) (ov : V) (k : Nat) (fv : Value) (bd : Bool) : Prop :=
  ∀ ov' x, VR ov ov' → X.at_[k]? = some x → ∀ env loc pl, Tri X n env Eq (getMethod ov' x pl) loc Γ (fun r l g => r = (fv, if bd then [ov'] else []) ∧ l = loc ∧ g = Γ)
def attrW (X : Cx) (n : Nat) (ov : V) (k : Nat) (Γ : Led) (Q : V → Led → Prop) : Prop :=
  ∀ ov' x, VR ov ov' → X.at_[k]? = some x → ∀ env loc, TE X n env (getAttr ov' x true) loc Γ Q
def binS (X : Cx) (n : Nat) (op : Operator) (a b : V) (Γ : Led) (Q : V → Led → Prop) : Prop :=
  ∀ a' b', VR a a' → VR b b' → ∀ env loc, TE X n env (binaryOp op a' b') loc Γ Q
def cmpS (X : Cx) (n : Nat) (op : CmpOp) (a b : V) (Γ : Led) (Q : V → Led → Prop) : Prop :=
  ∀ a' b', VR a a' → VR b b' → ∀ env loc, TE X n env (compareOp op a' b') loc Γ Q
def truthS (X : Cx) (n : Nat) (a : V) (Γ : Led) (Q : Bool → Led → Prop) : Prop :=
  ∀ a', VR a a' → ∀ env loc, Tri X n env Eq (truthy a') loc Γ (fun b l g => l = loc ∧ Q b g)
/-- x[i], by a written index or a slice -/
def subW (X : Cx) (n : Nat) (o i : V) (Γ : Led) (Q : V → Led → Prop) : Prop :=
  ∀ o' i', VR o o' → VR i i' → ∀ env loc (sl : PySem.Expr), (∀ q, subscripted sl q o' i' = if q then runValue (.builtin "lifetime.subscript" ⟨[o', i'], []⟩) else operate [o', i'] (getItem o' i')) →
    TE X n env (do let q ← getitemInPython o'; subscripted sl q o' i') loc Γ Q
def slW (X : Cx) (n : Nat) (o l u st : V) (Γ : Led) (Q : V → Led → Prop) : Prop :=
  ∀ o' l' u' st', VR o o' → VR l l' → VR u u' → VR st st' → ∀ env loc (sl : PySem.Expr), (∀ sv, (∀ q, subscripted sl q o' sv = if q then runValue (.builtin "lifetime.subscript" ⟨[o', sv], []⟩) else operate [o', sv] (getItem o' sv)) ∨ (∀ q, subscripted sl q o' sv = operate [sv, o'] (getItem o' sv))) →
    ∀ pos, TE X n env (do let i ← newFields "slice" [l', u', st']; standAt pos; let q ← getitemInPython o'; subscripted sl q o' i) loc Γ Q
def getW (X : Cx) (n : Nat) (o i : V) (Γ : Led) (Q : V → Led → Prop) : Prop :=
  ∀ o' i', VR o o' → VR i i' → ∀ env loc, TE X n env (getItem o' i') loc Γ Q
def setW (X : Cx) (n : Nat) (o i v : V) (Γ : Led) (Q : Led → Prop) : Prop :=
  ∀ o' i' v', VR o o' → VR i i' → VR v v' → ∀ env loc, Tri X n env (fun (_ : Unit) (_ : Unit) => True) (setItem o' i' v') loc Γ (fun _ l g => l = loc ∧ Q g)
def setAttrW (X : Cx) (n : Nat) (o : V) (k : Nat) (v : V) (Γ : Led) (Q : Led → Prop) : Prop :=
  ∀ o' x v', VR o o' → X.at_[k]? = some x → VR v v' → ∀ env loc, Tri X n env (fun (_ : Unit) (_ : Unit) => True) (setAttr o' x v') loc Γ (fun _ l g => l = loc ∧ Q g)

/-- iteration over v is iteration over the list at a -/
def iterL (X : Cx) (n : Nat) (Γ : Led) (v : V) (a : Addr) : Prop :=
  ∀ v', VR v v' → ∀ env loc A s (Qc : Value → Shared → Prop), X.Ok → EnvOk X env → Room n A → Invt X env loc Γ s.heap →
    (∀ I s', s.heap.get? I = none → s'.heap.IsListIter I a 0 → Invt X env loc Γ s'.heap → Tr env Γ s Γ s' → Qc (.ref I) s') → wpAny X.M A (pyIter v') Qc never s

def binW (X : Cx) (n : Nat) (op : Operator) (a b : V) (Γ : Led) (Q : V → Led → Prop) : Prop :=
  match op, a, b with
  | .Add, .int a, .int b => Q (.int (a + b)) Γ
  | .Sub, .int a, .int b => Q (.int (a - b)) Γ
  | .BitXor, .int a, .int b => Q (.int (Builtin.bitXor a b)) Γ
  | .BitAnd, .int a, .int b => Q (.int (Builtin.bitAnd a b)) Γ
  | .BitOr, .int a, .int b => Q (.int (Builtin.bitOr a b)) Γ
  | .Mult, .int a, .int b => ((-(2 ^ 64) < a ∧ a < 2 ^ 64) ∨ (-(2 ^ 64) < b ∧ b < 2 ^ 64)) ∧ Q (.int (a * b)) Γ
  | .Mod, .int a, .int b => b ≠ 0 ∧ Q (.int (a.fmod b)) Γ
  | .FloorDiv, .int a, .int b => b ≠ 0 ∧ Builtin.divisionGoesByPylong a b = false ∧ Q (.int (a.fdiv b)) Γ
  | .RShift, .int a, .int b => 0 ≤ b ∧ Q (.int (a.fdiv (2 ^ b.toNat))) Γ
  | .LShift, .int a, .int b => 0 ≤ b ∧ b ≤ 1000000 ∧ a.natAbs < 2 ^ 64 ∧ Q (.int (a * 2 ^ b.toNat)) Γ
  | op, a, b => binS X n op a b Γ Q
/-- in place: ints alone -/
def inW (op : Operator) (a b : V) (Γ : Led) (Q : V → Led → Prop) : Prop :=
  match op, a, b with
  | .Add, .int a, .int b => Q (.int (a + b)) Γ
  | .BitXor, .int a, .int b => Q (.int (Builtin.bitXor a b)) Γ
  | .BitOr, .int a, .int b => Q (.int (Builtin.bitOr a b)) Γ
  | _, _, _ => False
def cmpW (X : Cx) (n : Nat) (op : CmpOp) (a b : V) (Γ : Led) (Q : V → Led → Prop) : Prop :=
  match op, a, b with
  | .Eq, .int a, .int b => Q (.bool (a == b)) Γ
  | .NotEq, .int a, .int b => Q (.bool (a != b)) Γ
  | .Lt, .int a, .int b => Q (.bool (decide (a < b))) Γ
  | .LtE, .int a, .int b => Q (.bool (decide (a ≤ b))) Γ
  | .Gt, .int a, .int b => Q (.bool (decide (b < a))) Γ
  | .GtE, .int a, .int b => Q (.bool (decide (b ≤ a))) Γ
  | op, a, b => cmpS X n op a b Γ Q
def truthW (X : Cx) (n : Nat) (a : V) (Γ : Led) (Q : Bool → Led → Prop) : Prop :=
  match a with
  | .bool b => Q b Γ
  | .int i => Q (i != 0) Γ
  | a => truthS X n a Γ Q

/-! ## the weakest precondition -/
def capOf (loc : Loc) (cap : List (Option Nat)) : Loc := cap.map fun o => o.bind fun i => (loc[i]?).join

mutual
def wpE (X : Cx) (n : Nat) : ME → Loc → Led → (V → Led → Prop) → Prop
  | .int i, _, Γ, Q => Q (.int i) Γ
  | .bool b, _, Γ, Q => Q (.bool b) Γ
  | .none, _, Γ, Q => Q .none Γ
  | .loc i, loc, Γ, Q => ∃ v, loc[i]? = some (some v) ∧ Q v Γ
  | .val v, _, Γ, Q => Q (.val v) Γ
  | .bin op a b, loc, Γ, Q => wpE X n a loc Γ fun x Γ => wpE X n b loc Γ fun y Γ => binW X n op x y Γ Q
  | .neg a, loc, Γ, Q => wpE X n a loc Γ fun x Γ => ∃ i, x = .int i ∧ Q (.int (-i)) Γ
  | .cmp op a b, loc, Γ, Q => wpE X n a loc Γ fun x Γ => wpE X n b loc Γ fun y Γ => cmpW X n op x y Γ Q
  | .ite t a b, loc, Γ, Q => wpT X n t loc Γ fun r Γ => (r = true → wpE X n a loc Γ Q) ∧ (r = false → wpE X n b loc Γ Q)
  | .call f as, loc, Γ, Q => wpE X n f loc Γ fun fv Γ => wpEs X n as loc Γ fun vs Γ => keepsW X fv ∧ callW X n fv vs Γ Q
  | .meth o k as, loc, Γ, Q => wpE X n o loc Γ fun ov Γ => ∃ fv bd, methR X n Γ ov k fv bd ∧ wpEs X n as loc Γ fun vs Γ => keepsW X (.val fv) ∧ callW X n (.val fv) (if bd then ov :: vs else vs) Γ Q
  | .attr o k, loc, Γ, Q => wpE X n o loc Γ fun ov Γ => attrW X n ov k Γ Q
  | .sub o i, loc, Γ, Q => wpE X n o loc Γ fun ov Γ => wpE X n i loc Γ fun iv Γ => subW X n ov iv Γ Q
  | .slice o l u st, loc, Γ, Q => wpE X n o loc Γ fun ov Γ => wpE X n l loc Γ fun lv Γ => wpE X n u loc Γ fun uv Γ => wpE X n st loc Γ fun sv Γ => slW X n ov lv uv sv Γ Q
  | .list as, loc, Γ, Q => wpEs X n as loc Γ fun vs Γ => vs.length ≤ 1000 ∧ ∀ a, Q (.ref a) ((a, .list vs) :: Γ)
  | .tup as, loc, Γ, Q => wpEs X n as loc Γ fun vs Γ => vs.length ≤ 1000 ∧ ∀ a, Q (.ref a) ((a, .tup vs) :: Γ)
  | .dict, _, Γ, Q => ∀ a ep, Q (.ref a) ((a, .idict [] ep) :: Γ)
  | .comp cap t it c e, loc, Γ, Q => wpI X n it loc Γ fun src Γ => ∀ acc, ∃ (N : Nat) (I : Nat → List V → Led → Prop),
      I 0 [] Γ ∧ (∀ k ys Γ, I k ys Γ → k ≤ N ∧ ys.length ≤ 1000000 ∧ nextW Γ k src fun
        | none => Q (.ref acc) ((acc, .list ys) :: Γ)
        | some vs => tgW Γ (capOf loc cap) t vs fun loc' => wpT X n c loc' ((acc, .list ys) :: Γ) fun r Γ' => (r = false → ∃ Γ'', SubP ((acc, .list ys) :: Γ'') Γ' ∧ I (k + 1) ys Γ'') ∧
            (r = true → wpE X n e loc' Γ' fun v Γ' => ∃ Γ'', SubP ((acc, .list ys) :: Γ'') Γ' ∧ I (k + 1) (ys ++ [v]) Γ''))
  | .comp2 cap t it t2 it2 e, loc, Γ, Q => wpI X n it loc Γ fun src Γ => ∀ acc, ∃ (N : Nat) (I : Nat → List V → Led → Prop),
      I 0 [] Γ ∧ (∀ k ys Γ, I k ys Γ → k ≤ N ∧ nextW Γ k src fun
        | none => Q (.ref acc) ((acc, .list ys) :: Γ)
        | some vs => tgW Γ (capOf loc cap) t vs fun l => wpI X n it2 l ((acc, .list ys) :: Γ) fun src2 Γ' => ∃ (N2 : Nat) (J : Nat → List V → Led → Prop),
          (∃ Γ'', SubP ((acc, .list ys) :: Γ'') Γ' ∧ J 0 ys Γ'') ∧ (∀ j zs Γ'', J j zs Γ'' → j ≤ N2 ∧ zs.length ≤ 1000000 ∧ nextW Γ'' j src2 fun
            | none => I (k + 1) zs Γ''
            | some vs2 => tgW Γ'' l t2 vs2 fun l2 => LocLe l l2 ∧ wpE X n e l2 ((acc, .list zs) :: Γ'') fun v Γ3 => ∃ Γ4, SubP ((acc, .list zs) :: Γ4) Γ3 ∧ J (j + 1) (zs ++ [v]) Γ4))
def wpEs (X : Cx) (n : Nat) : MEs → Loc → Led → (List V → Led → Prop) → Prop
  | .nil, _, Γ, Q => Q [] Γ
  | .cons e r, loc, Γ, Q => wpE X n e loc Γ fun v Γ => wpEs X n r loc Γ fun vs Γ => Q (v :: vs) Γ
def wpT (X : Cx) (n : Nat) : MT → Loc → Led → (Bool → Led → Prop) → Prop
  | .tt, _, Γ, Q => Q true Γ
  | .ff, _, Γ, Q => Q false Γ
  | .cmp op a b, loc, Γ, Q => wpE X n a loc Γ fun x Γ => wpE X n b loc Γ fun y Γ => cmpW X n op x y Γ fun r Γ => truthW X n r Γ Q
  | .and a r, loc, Γ, Q => wpT X n a loc Γ fun x Γ => (x = false → Q false Γ) ∧ (x = true → wpT X n r loc Γ Q)
  | .or a r, loc, Γ, Q => wpT X n a loc Γ fun x Γ => (x = true → Q true Γ) ∧ (x = false → wpT X n r loc Γ Q)
  | .not a, loc, Γ, Q => wpT X n a loc Γ fun x Γ => Q (!x) Γ
  | .val e, loc, Γ, Q => wpE X n e loc Γ fun x Γ => truthW X n x Γ Q
def wpI (X : Cx) (n : Nat) : MI → Loc → Led → (Src → Led → Prop) → Prop
  | .rng e, loc, Γ, Q => wpE X n e loc Γ fun v Γ => ∃ i, v = .int i ∧ -(2 ^ 62) ≤ i ∧ i < 2 ^ 62 ∧ Q (.rng 0 i) Γ
  | .rng2 a b, loc, Γ, Q => wpE X n a loc Γ fun u Γ => wpE X n b loc Γ fun v Γ => ∃ i j, u = .int i ∧ v = .int j ∧ -(2 ^ 62) ≤ i ∧ i < 2 ^ 62 ∧ -(2 ^ 62) ≤ j ∧ j < 2 ^ 62 ∧ Q (.rng i j) Γ
  | .over e, loc, Γ, Q => wpE X n e loc Γ fun v Γ => ∃ a, v = .ref a ∧ ((∃ xs, (a, O.list xs) ∈ Γ ∧ Q (.list a) Γ) ∨ (∃ xs, (a, O.tup xs) ∈ Γ ∧ Q (.tup a) Γ) ∨ (∃ es ep, (a, O.idict es ep) ∈ Γ ∧ Q (.dict a ep es.length) Γ))
  | .enum e, loc, Γ, Q => wpE X n e loc Γ fun v Γ => ∃ m a xs, n = m + 1 ∧ iterL X m Γ v a ∧ (a, O.list xs) ∈ Γ ∧ Q (.enum a) Γ
  | .zip a b, loc, Γ, Q => wpE X n a loc Γ fun u Γ => wpE X n b loc Γ fun v Γ => ∃ m a b xs ys, n = m + 1 ∧ iterL X m Γ u a ∧ iterL X m Γ v b ∧ (a, O.list xs) ∈ Γ ∧ (b, O.list ys) ∈ Γ ∧ Q (.zip a b) Γ
  | .rev e, loc, Γ, Q => wpE X n e loc Γ fun v Γ => ∃ a xs, v = .ref a ∧ (a, O.list xs) ∈ Γ ∧ Q (.rev a xs.length) Γ
end

inductive Fl where
  | next
  | brk
  | ret (v : V)

mutual
def wpS (X : Cx) (n : Nat) : MS → Loc → Led → (Fl → Loc → Led → Prop) → Prop
  | .expr e, loc, Γ, Q => wpE X n e loc Γ fun v Γ => v = .none ∧ Q .next loc Γ
  | .asg i e, loc, Γ, Q => wpE X n e loc Γ fun v Γ => Q .next (loc.set i (some v)) Γ
  | .asgSub o i e, loc, Γ, Q => wpE X n e loc Γ fun v Γ => wpE X n o loc Γ fun ov Γ => wpE X n i loc Γ fun iv Γ => setW X n ov iv v Γ fun Γ => Q .next loc Γ
  | .asgAttr o k e, loc, Γ, Q => wpE X n e loc Γ fun v Γ => wpE X n o loc Γ fun ov Γ => setAttrW X n ov k v Γ fun Γ => Q .next loc Γ
  | .aug i op e, loc, Γ, Q => ∃ u, loc[i]? = some (some u) ∧ wpE X n e loc Γ fun v Γ => inW op u v Γ fun r Γ => Q .next (loc.set i (some r)) Γ
  | .augSub o i op e, loc, Γ, Q => wpE X n o loc Γ fun ov Γ => wpE X n i loc Γ fun iv Γ => getW X n ov iv Γ fun u Γ => wpE X n e loc Γ fun v Γ => inW op u v Γ fun r Γ => setW X n ov iv r Γ fun Γ => Q .next loc Γ
  | .augAttr o k op e, loc, Γ, Q => wpE X n o loc Γ fun ov Γ => attrW X n ov k Γ fun u Γ => wpE X n e loc Γ fun v Γ => inW op u v Γ fun r Γ => setAttrW X n ov k r Γ fun Γ => Q .next loc Γ
  | .ite t a b, loc, Γ, Q => wpT X n t loc Γ fun r Γ => (r = true → wpSs X n a loc Γ Q) ∧ (r = false → wpSs X n b loc Γ Q)
  | .loop t it b, loc, Γ, Q => wpI X n it loc Γ fun src Γ => ∃ (N : Nat) (I : Nat → Loc → Led → Prop), I 0 loc Γ ∧ (∀ k loc Γ, I k loc Γ → k ≤ N ∧ nextW Γ k src fun
        | none => Q .next loc Γ
        | some vs => tgW Γ loc t vs fun loc => wpSs X n b loc Γ fun
            | .next, loc, Γ => ∃ loc' Γ', LocLe loc' loc ∧ SubP Γ' Γ ∧ I (k + 1) loc' Γ'
            | .brk, loc, Γ => Q .next loc Γ
            | .ret v, loc, Γ => Q (.ret v) loc Γ)
  | .ret e, loc, Γ, Q => wpE X n e loc Γ fun v Γ => Q (.ret v) loc Γ
  | .brk, loc, Γ, Q => Q .brk loc Γ
  | .pass, loc, Γ, Q => Q .next loc Γ
  | .never, _, _, _ => False
def wpSs (X : Cx) (n : Nat) : MSs → Loc → Led → (Fl → Loc → Led → Prop) → Prop
  | .nil, loc, Γ, Q => Q .next loc Γ
  | .cons s r, loc, Γ, Q => wpS X n s loc Γ fun
      | .next, loc, Γ => wpSs X n r loc Γ Q
      | .brk, loc, Γ => Q .brk loc Γ
      | .ret v, loc, Γ => Q (.ret v) loc Γ
end

/-! ## the translation -/
structure Tab where
  glob : List (Str × Value)
  at_ : List Str

def idxOf (l : List Str) (x : Str) : Option Nat := l.findIdx? (· == x)
def trName (T : Tab) (sc : Scope) (x : Str) : Option ME :=
  if x == "__debug__" then none else
  match sc.names.lookup x with
  | some .local | some .cell => (idxOf (slotsOf sc) x).map .loc
  | some .globalImplicit => (T.glob.lookup x).map .val
  | _ => none
def globIs (T : Tab) (sc : Scope) (x : Str) (v : Value) : Bool := x != "__debug__" && sc.names.lookup x == some .globalImplicit && T.glob.lookup x == some v
def isSlice : PySem.Expr → Bool
  | .Slice .. => true
  | _ => false
def plainArg : PySem.Expr → Bool
  | .Starred .. => false
  | _ => true
def plainBase : PySem.Expr → Bool
  | .Call .. => false
  | _ => true
def noSet : PySem.Expr → Bool
  | .Set .. => false
  | _ => true
def relab (inner outer : Scope) : Scope := { inner with names := inner.names.map fun (n, k) => if k == .free && outer.kind == .function && outer.names.lookup n == some .cell then (n, .cell) else (n, k) }
def capIdx (inner outer : Scope) : List (Option Nat) := (slotsOf inner).map fun x => if (inner.names.lookup x) == some .free then idxOf (slotsOf outer) x else none
/-- a comprehension's scope as we know it -/
def compOk (inner outer : Scope) : Bool := inner.kind == .function && !inner.isGenerator && !inner.isCoroutine &&
  decide (slotsOf inner).Nodup && inner.names.all fun (x, k) => inner.names.lookup x == some k && (match k with
    | .local => true
    | .globalImplicit => true
    | .free => outer.names.lookup x == some .cell
    | _ => false)
def trTg (sc : Scope) : PySem.Expr → Option MTg
  | .Name x _ => if sc.names.lookup x == some .local || sc.names.lookup x == some .cell then (idxOf (slotsOf sc) x).map .loc else none
  | .Tuple [.Name x _, .Name y _] _ _ =>
    if (sc.names.lookup x == some .local || sc.names.lookup x == some .cell) && (sc.names.lookup y == some .local || sc.names.lookup y == some .cell) then
      (match idxOf (slotsOf sc) x, idxOf (slotsOf sc) y with
        | some i, some j => some (.two i j)
        | _, _ => none) else none
  | _ => none

mutual
def trE (T : Tab) : Nat → Scope → PySem.Expr → Option ME
  | 0, _, _ => none
  | f + 1, sc, e => match e with
    | .Constant c _ _ => (match c with | .int i => some (.int i) | .bool b => some (.bool b) | .none => some .none | _ => none)
    | .Name x _ => trName T sc x
    | .BinOp l op r _ => (trE T f sc l).bind fun a => (trE T f sc r).map fun b => .bin op a b
    | .UnaryOp op x _ => if op == .USub then (trE T f sc x).map .neg else none
    | .Compare l ops rs _ => (match ops, rs with
      | [op], [r] => if behindInMarks op r then none else (trE T f sc l).bind fun a => (trE T f sc r).map fun b => .cmp op a b
      | _, _ => none)
    | .IfExp t a b _ => (trT T f sc t).bind fun t => (trE T f sc a).bind fun a => (trE T f sc b).map fun b => .ite t a b
    | .Call fn args kws pos => if kws.isEmpty && args.all plainArg && decide (args.length < 30) then (match fn with
        | .Attribute o name apos => if plainBase o && apos.endLine == pos.line then (trE T f sc o).bind fun o => (idxOf T.at_ name).bind fun k => (trEs T f sc args).map fun as => .meth o k as else none
        | fn => (trE T f sc fn).bind fun fn => (trEs T f sc args).map fun as => .call fn as) else none
    | .Attribute o name _ => if plainBase o then (trE T f sc o).bind fun o => (idxOf T.at_ name).map fun k => .attr o k else none
    | .Subscript o i _ => (trE T f sc o).bind fun o => (match i with
        | .Slice l u st _ => (trO T f sc l).bind fun l => (trO T f sc u).bind fun u => (trO T f sc st).map fun st => .slice o l u st
        | i => (trE T f sc i).map fun i => .sub o i)
    | .List es _ => if es.all plainArg then (trEs T f sc es).map .list else none
    | .Tuple es _ _ => if es.all plainArg then (trEs T f sc es).map .tup else none
    | .Dict ks vs _ => if ks.isEmpty && vs.isEmpty then some .dict else none
    | .ListComp e gens isc _ => if compOk isc sc then (match gens with
        | [⟨t, it, ifs, 0⟩] => if noSet it then (trTg isc t).bind fun t => (trI T f sc it).bind fun it => (trIfs T f (relab isc sc) ifs).bind fun c => (trE T f (relab isc sc) e).map fun e => .comp (capIdx isc sc) t it c e else none
        | [⟨t, it, [], 0⟩, ⟨t2, it2, [], 0⟩] => if noSet it && noSet it2 then (trTg isc t).bind fun t => (trI T f sc it).bind fun it => (trTg isc t2).bind fun t2 => (trI T f (relab isc sc) it2).bind fun it2 => (trE T f (relab isc sc) e).map fun e => .comp2 (capIdx isc sc) t it t2 it2 e else none
        | _ => none) else none
    | _ => none
def trO (T : Tab) : Nat → Scope → Option PySem.Expr → Option ME
  | 0, _, _ => none
  | f + 1, sc, o => match o with
    | none => some .none
    | some e => trE T f sc e
def trEs (T : Tab) : Nat → Scope → List PySem.Expr → Option MEs
  | 0, _, _ => none
  | f + 1, sc, l => match l with
    | [] => some .nil
    | e :: r => (trE T f sc e).bind fun e => (trEs T f sc r).map fun r => .cons e r
def trT (T : Tab) : Nat → Scope → PySem.Expr → Option MT
  | 0, _, _ => none
  | f + 1, sc, e => match e with
    | .UnaryOp op x _ => if op == .Not then (trT T f sc x).map .not else none
    | .BoolOp op vs _ => trTs T f sc op vs
    | .IfExp .. => none
    | .Compare l ops rs _ => (match ops, rs with
      | [op], [r] => if behindInMarks op r then none else (trE T f sc l).bind fun a => (trE T f sc r).map fun b => .cmp op a b
      | _, _ => none)
    | e => (trE T f sc e).map .val
def trTs (T : Tab) : Nat → Scope → BoolOp → List PySem.Expr → Option MT
  | 0, _, _, _ => none
  | f + 1, sc, op, l => match l with
    | [] => some (match op with | .And => .tt | .Or => .ff)
    | e :: r => (trT T f sc e).bind fun e => (trTs T f sc op r).map fun r => match op with | .And => .and e r | .Or => .or e r
def trIfs (T : Tab) : Nat → Scope → List PySem.Expr → Option MT
  | 0, _, _ => none
  | f + 1, sc, l => match l with
    | [] => some .tt
    | [e] => trT T f sc e
    | _ => none
def trI (T : Tab) : Nat → Scope → PySem.Expr → Option MI
  | 0, _, _ => none
  | f + 1, sc, e => match e with
    | .Call (.Name x _) [a] [] _ =>
      if globIs T sc x (.type "range") && plainArg a then (trE T f sc a).map .rng
      else if globIs T sc x (.type "enumerate") && plainArg a then (trE T f sc a).map .enum
      else if globIs T sc x (.type "reversed") && plainArg a then (trE T f sc a).map .rev
      else (trE T f sc e).map .over
    | .Call (.Name x _) [a, b] [] _ =>
      if globIs T sc x (.type "range") && plainArg a && plainArg b then (trE T f sc a).bind fun a => (trE T f sc b).map fun b => .rng2 a b
      else if globIs T sc x (.type "zip") && plainArg a && plainArg b then (trE T f sc a).bind fun a => (trE T f sc b).map fun b => .zip a b
      else (trE T f sc e).map .over
    | e => if noSet e then (trE T f sc e).map .over else none
end

def slotOf (sc : Scope) (x : Str) : Option Nat := if sc.names.lookup x == some .local || sc.names.lookup x == some .cell then idxOf (slotsOf sc) x else none
def twoGens : PySem.Expr → Bool
  | .ListComp _ gens _ _ => gens.length != 1
  | _ => false
def isComp : PySem.Expr → Bool
  | .ListComp .. | .SetComp .. | .DictComp .. => true
  | _ => false
mutual
def trS (T : Tab) : Nat → Scope → Stmt → Option MS
  | 0, _, _ => none
  | f + 1, sc, s => match s with
    | .Expr (.Constant (.str _) _ _) _ => some .pass
    | .Expr e _ => if isComp e then none else (trE T f sc e).map .expr
    | .Assign ts e pos => (match ts with
      | [.Name x tp] => if (isComp e && pos.line != tp.line) || twoGens e then none else (slotOf sc x).bind fun i => (trE T f sc e).map fun e => .asg i e
      | [.Attribute o name _] => if isComp e then none else (trE T f sc o).bind fun o => (idxOf T.at_ name).bind fun k => (trE T f sc e).map fun e => .asgAttr o k e
      | [.Subscript o i _] => if isComp e || isSlice i then none else (trE T f sc o).bind fun o => (trE T f sc i).bind fun i => (trE T f sc e).map fun e => .asgSub o i e
      | _ => none)
    | .AugAssign t op e _ => (match t with
      | .Name x _ => (slotOf sc x).bind fun i => (trE T f sc e).map fun e => .aug i op e
      | .Attribute o name _ => (trE T f sc o).bind fun o => (idxOf T.at_ name).bind fun k => (trE T f sc e).map fun e => .augAttr o k op e
      | .Subscript o i _ => if isSlice i then none else (trE T f sc o).bind fun o => (trE T f sc i).bind fun i => (trE T f sc e).map fun e => .augSub o i op e
      | _ => none)
    | .If t a b _ => (trT T f sc t).bind fun t => (trSs T f sc a).bind fun a => (trSs T f sc b).map fun b => .ite t a b
    | .For t it b oe _ => if oe.isEmpty && noSet it then (trTg sc t).bind fun t => (trI T f sc it).bind fun it => (trSs T f sc b).map fun b => .loop t it b else none
    | .Return (some e) _ => (trE T f sc e).map .ret
    | .Return none _ => some (.ret .none)
    | .Break _ => some .brk
    | .Raise .. => some .never
    | _ => none
def trSs (T : Tab) : Nat → Scope → List Stmt → Option MSs
  | 0, _, _ => none
  | f + 1, sc, l => match l with
    | [] => some .nil
    | s :: r => (trS T f sc s).bind fun s => (trSs T f sc r).map fun r => .cons s r
end
end Mine


open PySem PySem.W PyProof.Rows PySem.Calls
set_option Elab.async false
set_option maxRecDepth 100000
set_option linter.unusedVariables false
namespace Mine
variable {X : Cx} {n : Nat} {env : Env} {loc : Loc} {Γ : Led}

/-! ## names -/
theorem tri_slot {i : Nat} {x : Str} {v : V} {Q : V → Led → Prop} (hx : (slotsOf env.scope)[i]? = some x) (hk : env.kindOf x = some .local ∨ env.kindOf x = some .cell)
    (hv : loc[i]? = some (some v)) (q : Q v Γ) : TE X n env (loadName env x) loc Γ Q := by
  intro A s Qc ok eo rm I k
  rcases hk with hk | hk
  · obtain ⟨m, hn, hm⟩ := I.loc.m
    obtain ⟨v', e, r⟩ := hm i x v hx hk hv
    exact wpAny_loadName_local eo.kind hk hn e (k v v' loc Γ _ ⟨rfl, q⟩ r I .refl)
  · obtain ⟨c, v', e, hc, r⟩ := I.loc.cv i x v hx hk hv
    exact wpAny_loadName_cell eo.kind hk e hc (k v v' loc Γ _ ⟨rfl, q⟩ r I .refl)
theorem tri_glob {x : Str} {v : Value} {Q : V → Led → Prop} (hk : env.kindOf x = some .globalImplicit) (hv : X.Ok → X.mg x = some v ∨ (X.mg x = none ∧ X.mb x = some v)) (q : Q (.val v) Γ) :
    TE X n env (loadName env x) loc Γ Q := by
  intro A s Qc ok eo rm I k
  rw [loadName_read eo.kind hk]
  have g : s.heap.Ns env.globals X.mg := by rw [eo.gl]; exact ok.g.keeps I.base
  have b : s.heap.Ns env.builtins X.mb := by rw [eo.bl]; exact ok.b.keeps I.base
  rcases hv ok with h | ⟨h1, h2⟩
  · exact loadGlobal_global g h (k (.val v) v loc Γ _ ⟨rfl, q⟩ rfl I .refl)
  · exact loadGlobal_builtin g h1 b h2 (k (.val v) v loc Γ _ ⟨rfl, q⟩ rfl I .refl)

theorem isCell_same {h h' : Heap} {c a : Addr} {v : Option Value} (hc : h.IsCell c v) (hs : Heap.SameBut a h h') (ne : c ≠ a) : h'.IsCell c v := by
  obtain ⟨o, ho, hd⟩ := hc
  exact ⟨o, (hs.2 c ne).trans ho, hd⟩
theorem getElem?_nodup {l : List Str} (nd : l.Nodup) {i j : Nat} {x : Str} (hi : l[i]? = some x) (hj : l[j]? = some x) : i = j := by
  obtain ⟨h1, e1⟩ := List.getElem?_eq_some_iff.mp hi
  obtain ⟨h2, e2⟩ := List.getElem?_eq_some_iff.mp hj
  exact (List.getElem_inj nd).mp (e1.trans e2.symm)
theorem set_get {loc : Loc} {i j : Nat} {u v : V} (h : (loc.set i (some u))[j]? = some (some v)) : (j = i ∧ v = u) ∨ (j ≠ i ∧ loc[j]? = some (some v)) := by
  by_cases e : i = j
  · subst e
    left
    rw [List.getElem?_set_self'] at h
    cases q : loc[i]? with
    | none => rw [q] at h; cases h
    | some z => rw [q] at h; simp at h; exact ⟨rfl, h.symm⟩
  · rw [List.getElem?_set_ne e] at h
    exact .inr ⟨fun z => e z.symm, h⟩

/-- a change of the frame's dict alone, or of a cell alone -/
theorem Invt.foot {a : Addr} {h h' : Heap} {loc' : Loc} (I : Invt X env loc Γ h) (eo : EnvOk X env) (ha : footF env a) (hs : Heap.SameBut a h h') (hl : LocR env loc' h') : Invt X env loc' Γ h' where
  base := fun b o e => (hs.2 b fun z => by have := eo.new a ha; rw [← z, e] at this; cases this).trans (I.base b o e)
  loc := hl
  led := fun e he => (I.led e he).same fun b hb => hs.2 b fun z => (I.ap b (mem_keys he hb)).2 (z ▸ ha)
  nd := I.nd
  ap := I.ap

theorem tri_store {i : Nat} {x : Str} {u : V} {u' : Value} (hx : (slotsOf env.scope)[i]? = some x) (hk : env.kindOf x = some .local ∨ env.kindOf x = some .cell) (r : VR u u') {Q : Unit → Loc → Led → Prop} (q : Q () (loc.set i (some u)) Γ) :
    Tri X n env (fun _ _ => True) (storeName env x u') loc Γ Q := by
  intro A s Qc ok eo rm I k
  have fin : ∀ a h' tk, footF env a → Heap.SameBut a s.heap h' → LocR env (loc.set i (some u)) h' → Qc () { s with heap := h', toks := tk } := fun a h' tk ha hs hl =>
    k () () _ Γ _ q trivial (I.foot eo ha hs hl) ⟨fun b o e hf _ => (hs.2 b fun z => hf (z ▸ ha)).trans e, fun _ h => .inl h, rfl, rfl⟩
  rcases hk with hk | hk
  · obtain ⟨m, hn, hm⟩ := I.loc.m
    refine wpAny_storeName_local hk hn (fun h' hn' hs => fin env.locals h' _ (.inl rfl) hs ⟨⟨_, hn', fun j y v hj hkj hv => ?_⟩, fun y hy => ?_, fun j y v hj hkj hv => ?_⟩)
      (by rw [eo.kind]; rfl)
    · rcases set_get hv with ⟨rfl, rfl⟩ | ⟨ne, hv⟩
      · rw [hx] at hj; cases hj
        exact ⟨u', by simp, r⟩
      · have hne : y ≠ x := fun z => ne (getElem?_nodup eo.nd hj (z ▸ hx))
        simp only [hne, if_false]
        exact hm j y v hj hkj hv
    · obtain ⟨c, v₀, e, hc⟩ := I.loc.c y hy
      exact ⟨c, v₀, e, isCell_same hc hs (eo.apart y c hy e)⟩
    · rcases set_get hv with ⟨rfl, rfl⟩ | ⟨ne, hv⟩
      · rw [hx] at hj; cases hj; rw [hk] at hkj; cases hkj
      · obtain ⟨c, v', e, hc, rv⟩ := I.loc.cv j y v hj hkj hv
        exact ⟨c, v', e, isCell_same hc hs (eo.apart y c hkj e), rv⟩
  · obtain ⟨c, v₀, e, hc⟩ := I.loc.c x hk
    refine wpAny_storeName_cell eo.kind hk e hc fun h' hc' hs => fin c h' s.toks (.inr ⟨x, hk, e⟩) hs ⟨?_, fun y hy => ?_, fun j y v hj hkj hv => ?_⟩
    · obtain ⟨m, hn, hm⟩ := I.loc.m
      refine ⟨m, hn.sameBut hs (Ne.symm (eo.apart x c hk e)), fun j y v hj hkj hv => ?_⟩
      rcases set_get hv with ⟨rfl, rfl⟩ | ⟨ne, hv⟩
      · rw [hx] at hj; cases hj; rw [hk] at hkj; cases hkj
      · exact hm j y v hj hkj hv
    · obtain ⟨d, w₀, ed, hd⟩ := I.loc.c y hy
      by_cases z : d = c
      · subst z; exact ⟨d, _, ed, hc'⟩
      · exact ⟨d, w₀, ed, isCell_same hd hs z⟩
    · rcases set_get hv with ⟨rfl, rfl⟩ | ⟨ne, hv⟩
      · rw [hx] at hj; cases hj
        exact ⟨c, u', e, hc', r⟩
      · obtain ⟨d, v', ed, hd, rv⟩ := I.loc.cv j y v hj hkj hv
        refine ⟨d, v', ed, isCell_same hd hs fun z => ?_, rv⟩
        subst z
        have := eo.inj x y d hk hkj e ed
        subst this
        exact ne (getElem?_nodup eo.nd hj hx)

/-! ## arithmetic -/
theorem VR.int_out {i : Int} {v : Value} (h : VR (.int i) v) : ∃ t, v = .int i t := h

theorem tri_int {t : Sem Value} {i : Int} {Q : V → Led → Prop} (h : ∀ A s (Qc : Value → Shared → Prop), Room n A → (∀ a tk, (∃ t, a = .int i t) → Qc a { s with toks := tk }) → wpAny X.M A t Qc never s) (q : Q (.int i) Γ) : TE X n env t loc Γ Q :=
  Tri.quiet (b := .int i) (fun A s Qc _ _ rm _ k => h A s Qc rm fun a tk ha => k a tk (show VR (.int i) a from ha)) ⟨rfl, q⟩
theorem tri_bool {t : Sem Value} {i : Bool} {Q : V → Led → Prop} (h : ∀ A s (Qc : Value → Shared → Prop), Room n A → (∀ tk, Qc (.bool i) { s with toks := tk }) → wpAny X.M A t Qc never s) (q : Q (.bool i) Γ) : TE X n env t loc Γ Q :=
  Tri.quiet (b := .bool i) (fun A s Qc _ _ rm _ k => h A s Qc rm fun tk => k _ tk (show VR (.bool i) (.bool i) from rfl)) ⟨rfl, q⟩

theorem tri_bin {op : Operator} {a b : V} {a' b' : Value} (ra : VR a a') (rb : VR b b') {Q : V → Led → Prop} (h : binW X n op a b Γ Q) : TE X n env (binaryOp op a' b') loc Γ Q := by
  unfold binW at h
  split at h
  · obtain ⟨t, rfl⟩ := ra; obtain ⟨u, rfl⟩ := rb
    exact tri_int (fun A s Qc _ k => add_int (k _ _ ⟨_, rfl⟩)) h
  · obtain ⟨t, rfl⟩ := ra; obtain ⟨u, rfl⟩ := rb
    exact tri_int (fun A s Qc _ k => sub_int (k _ _ ⟨_, rfl⟩)) h
  · obtain ⟨t, rfl⟩ := ra; obtain ⟨u, rfl⟩ := rb
    exact tri_int (fun A s Qc _ k => xor_int (k _ _ ⟨_, rfl⟩)) h
  · obtain ⟨t, rfl⟩ := ra; obtain ⟨u, rfl⟩ := rb
    exact tri_int (fun A s Qc _ k => and_int (k _ _ ⟨_, rfl⟩)) h
  · obtain ⟨t, rfl⟩ := ra; obtain ⟨u, rfl⟩ := rb
    exact tri_int (fun A s Qc _ k => or_int (k _ _ ⟨_, rfl⟩)) h
  · obtain ⟨t, rfl⟩ := ra; obtain ⟨u, rfl⟩ := rb
    refine tri_int (fun A s Qc _ k => mul_int (k _ _ ⟨_, rfl⟩) (hm := ?_)) h.2
    rcases h.1 with z | z
    · exact .of_left (intBits_le_64 z.1 z.2)
    · exact .of_right (intBits_le_64 z.1 z.2)
  · obtain ⟨t, rfl⟩ := ra; obtain ⟨u, rfl⟩ := rb
    exact tri_int (fun A s Qc _ k => mod_int h.1 (k _ _ ⟨_, rfl⟩)) h.2
  · obtain ⟨t, rfl⟩ := ra; obtain ⟨u, rfl⟩ := rb
    exact tri_int (fun A s Qc _ k => floordiv_int h.1 (k _ _ ⟨_, rfl⟩) (.inl h.2.1)) h.2.2
  · obtain ⟨t, rfl⟩ := ra; obtain ⟨u, rfl⟩ := rb
    exact tri_int (fun A s Qc _ k => rshift_int h.1 (k _ _ ⟨_, rfl⟩)) h.2
  · obtain ⟨t, rfl⟩ := ra; obtain ⟨u, rfl⟩ := rb
    exact tri_int (fun A s Qc _ k => lshift_int_small h.1 h.2.1 h.2.2.1 (k _ _ ⟨_, rfl⟩)) h.2.2.2
  · exact h a' b' ra rb env loc

theorem tri_cmp {op : CmpOp} {a b : V} {a' b' : Value} (ra : VR a a') (rb : VR b b') {Q : V → Led → Prop} (h : cmpW X n op a b Γ Q) : TE X n env (compareOp op a' b') loc Γ Q := by
  unfold cmpW at h
  split at h
  · obtain ⟨t, rfl⟩ := ra; obtain ⟨u, rfl⟩ := rb
    exact tri_bool (fun A s Qc _ k => PyProof.Rows.eq_int (k s.toks)) h
  · obtain ⟨t, rfl⟩ := ra; obtain ⟨u, rfl⟩ := rb
    exact tri_bool (fun A s Qc _ k => PyProof.Rows.ne_int (k s.toks)) h
  · obtain ⟨t, rfl⟩ := ra; obtain ⟨u, rfl⟩ := rb
    exact tri_bool (fun A s Qc _ k => PyProof.Rows.lt_int (k s.toks)) h
  · obtain ⟨t, rfl⟩ := ra; obtain ⟨u, rfl⟩ := rb
    exact tri_bool (fun A s Qc _ k => PyProof.Rows.le_int (k s.toks)) h
  · obtain ⟨t, rfl⟩ := ra; obtain ⟨u, rfl⟩ := rb
    exact tri_bool (fun A s Qc _ k => PyProof.Rows.gt_int (k s.toks)) h
  · obtain ⟨t, rfl⟩ := ra; obtain ⟨u, rfl⟩ := rb
    exact tri_bool (fun A s Qc _ k => PyProof.Rows.ge_int (k s.toks)) h
  · exact h a' b' ra rb env loc

theorem tri_truth {a : V} {a' : Value} (ra : VR a a') {Q : Bool → Led → Prop} (h : truthW X n a Γ Q) : Tri X n env Eq (truthy a') loc Γ (fun b l g => l = loc ∧ Q b g) := by
  unfold truthW at h
  split at h
  · rename_i b
    cases (show a' = .bool b from ra)
    exact Tri.quiet (b := b) (fun A s Qc _ _ _ _ k => wpAny_truthy_bool (k b s.toks rfl)) ⟨rfl, h⟩
  · rename_i i
    obtain ⟨t, rfl⟩ := ra
    exact Tri.quiet (b := (i != 0)) (fun A s Qc _ _ _ _ k => truthy_int (k _ s.toks rfl)) ⟨rfl, h⟩
  · exact h a' ra env loc
end Mine


open PySem PySem.W PyProof.Rows PySem.Calls
set_option Elab.async false
set_option maxRecDepth 100000
set_option linter.unusedVariables false
namespace Mine
variable {X : Cx} {n : Nat} {env : Env} {loc : Loc} {Γ : Led}

/-! ## forgetting -/
theorem keys_perm {Γ Γ' : Led} (p : Γ.Perm Γ') : (keys Γ).Perm (keys Γ') := p.flatMap_right _
theorem keys_append (Γ Γ' : Led) : keys (Γ ++ Γ') = keys Γ ++ keys Γ' := List.flatMap_append
theorem keys_cons (e : Addr × O) (Γ : Led) : keys (e :: Γ) = kf e ++ keys Γ := List.flatMap_cons
theorem SubP.mem {Γ Γ' : Led} (h : SubP Γ' Γ) : ∀ e ∈ Γ', e ∈ Γ := fun e he => by
  obtain ⟨R, p⟩ := h.perm
  exact p.mem_iff.mp (List.mem_append_left _ he)
theorem SubP.kle {Γ Γ' : Led} (h : SubP Γ' Γ) : ∀ k ∈ keys Γ', k ∈ keys Γ := fun k hk => by
  obtain ⟨e, he, hke⟩ := List.mem_flatMap.mp hk
  exact mem_keys (h.mem e he) hke
theorem SubP.nodup {Γ Γ' : Led} (h : SubP Γ' Γ) (nd : (keys Γ).Nodup) : (keys Γ').Nodup := by
  obtain ⟨R, p⟩ := h.perm
  have := (keys_perm p).nodup_iff.mpr nd
  rw [keys_append] at this
  exact (List.nodup_append.mp this).1
theorem LocR.le {loc' : Loc} {h : Heap} (r : LocR env loc h) (le : LocLe loc' loc) : LocR env loc' h :=
  ⟨let ⟨m, a, b⟩ := r.m; ⟨m, a, fun i x v hx hk hv => b i x v hx hk (le i v hv)⟩, r.c, fun i x v hx hk hv => r.cv i x v hx hk (le i v hv)⟩
theorem Invt.weak {loc' : Loc} {Γ' : Led} {h : Heap} (I : Invt X env loc Γ h) (le : LocLe loc' loc) (sp : SubP Γ' Γ) : Invt X env loc' Γ' h :=
  ⟨I.base, I.loc.le le, fun e he => I.led e (sp.mem e he), sp.nodup I.nd, fun k hk => I.ap k (sp.kle k hk)⟩
theorem Tr.weak {Γ₁ Γ' : Led} {s s' : Shared} (T : Tr env Γ s Γ₁ s') (sp : SubP Γ' Γ₁) : Tr env Γ s Γ' s' :=
  ⟨T.keep, fun k hk => T.fresh k (sp.kle k hk), T.gens, T.os⟩
theorem Tri.weak {α β : Type} {R : β → α → Prop} {t : Sem α} {Q Q' : β → Loc → Led → Prop} (h : Tri X n env R t loc Γ Q')
    (hw : ∀ b l g, Q' b l g → ∃ l' g', LocLe l' l ∧ SubP g' g ∧ Q b l' g') : Tri X n env R t loc Γ Q :=
  fun A s Qc ok eo rm I k => h A s Qc ok eo rm I fun b a l g s' q r I' T => by
    obtain ⟨l', g', le, sp, q'⟩ := hw b l g q
    exact k b a l' g' s' q' r (I'.weak le sp) (T.weak sp)

/-! ## a new object -/
theorem Heap.get?_none_of_le {h : Heap} {a : Addr} (e : h.objs.size ≤ a) : h.get? a = none := by
  cases q : h.get? a with
  | none => rfl
  | some o => exact absurd (Heap.lt_size q) (Nat.not_lt.mpr e)
theorem IsCell.push {h : Heap} {c : Addr} {v : Option Value} (hc : h.IsCell c v) (o : Obj) : (h.push o).IsCell c v := by
  obtain ⟨o', ho, hd⟩ := hc
  exact ⟨o', Heap.get?_push_of_some _ ho, hd⟩
theorem LocR.keeps {h h' : Heap} (r : LocR env loc h) (k : ∀ b o, footF env b → h.get? b = some o → h'.get? b = some o) : LocR env loc h' where
  m := let ⟨m, ⟨o, es, ep, a, b⟩, c⟩ := r.m; ⟨m, ⟨o, es, ep, k _ _ (.inl rfl) a, b⟩, c⟩
  c := fun x hx => let ⟨c, v₀, e, ⟨o, ho, hd⟩⟩ := r.c x hx; ⟨c, v₀, e, o, k _ _ (.inr ⟨x, hx, e⟩) ho, hd⟩
  cv := fun i x v hx hk hv => let ⟨c, v', e, ⟨o, ho, hd⟩, rv⟩ := r.cv i x v hx hk hv; ⟨c, v', e, ⟨o, k _ _ (.inr ⟨x, hk, e⟩) ho, hd⟩, rv⟩
theorem LocR.foot_lt {h : Heap} (r : LocR env loc h) {a : Addr} (ha : footF env a) : ∃ o, h.get? a = some o := by
  rcases ha with rfl | ⟨x, hx, e⟩
  · obtain ⟨m, ⟨o, es, ep, a, b⟩, c⟩ := r.m
    exact ⟨o, a⟩
  · obtain ⟨c, v₀, e', ⟨o, ho, hd⟩⟩ := r.c x hx
    rw [e] at e'; cases e'
    exact ⟨o, ho⟩
theorem Invt.keyThere {h : Heap} (I : Invt X env loc Γ h) {k : Addr} (hk : k ∈ keys Γ) : ∃ o, h.get? k = some o := by
  obtain ⟨e, he, hke⟩ := List.mem_flatMap.mp hk
  exact (I.led e he).there k hke
/-- everything stands, and one more object -/
theorem Invt.grow {h h' : Heap} {a : Addr} {ob : O} (I : Invt X env loc Γ h) (k : ∀ b o, h.get? b = some o → h'.get? b = some o) (hf : ∀ b ∈ kf (a, ob), h.get? b = none) (nd : (kf (a, ob)).Nodup) (r : OR X h' a ob) : Invt X env loc ((a, ob) :: Γ) h' where
  base := fun b o e => k b o (I.base b o e)
  loc := I.loc.keeps fun b o _ e => k b o e
  led := fun e he => by
    rcases List.mem_cons.mp he with rfl | he
    · exact r
    · exact (I.led e he).keep fun b _ x hx => k b x hx
  nd := by
    rw [keys_cons]
    refine List.nodup_append.mpr ⟨nd, I.nd, fun x hx y hy z => ?_⟩
    subst z
    obtain ⟨o, ho⟩ := I.keyThere hy
    rw [hf x hx] at ho; cases ho
  ap := fun x hx => by
    rw [keys_cons] at hx
    rcases List.mem_append.mp hx with hx | hx
    · have hn := hf x hx
      refine ⟨?_, fun z => ?_⟩
      · cases q : X.hB.get? x with
        | none => rfl
        | some o => rw [I.base x o q] at hn; cases hn
      · obtain ⟨o, ho⟩ := I.loc.foot_lt z
        rw [hn] at ho; cases ho
    · exact I.ap x hx
theorem Tr.grow {s s' : Shared} {a : Addr} {ob : O} (k : ∀ b o, s.heap.get? b = some o → s'.heap.get? b = some o) (hf : ∀ b ∈ kf (a, ob), s.heap.get? b = none) (hg : s'.gens = s.gens) (ho : s'.os = s.os) : Tr env Γ s ((a, ob) :: Γ) s' where
  keep := fun b o e _ _ => k b o e
  fresh := fun x hx => by
    rw [keys_cons] at hx
    rcases List.mem_append.mp hx with hx | hx
    · exact .inr (hf x hx)
    · exact .inl hx
  gens := hg
  os := ho
/-- everything stands -/
theorem Invt.still {h h' : Heap} (I : Invt X env loc Γ h) (k : ∀ b o, h.get? b = some o → h'.get? b = some o) : Invt X env loc Γ h' where
  base := fun b o e => k b o (I.base b o e)
  loc := I.loc.keeps fun b o _ e => k b o e
  led := fun e he => (I.led e he).keep fun b _ x hx => k b x hx
  nd := I.nd
  ap := I.ap
theorem Tr.still {s s' : Shared} (k : ∀ b o, s.heap.get? b = some o → s'.heap.get? b = some o) (hg : s'.gens = s.gens) (ho : s'.os = s.os) : Tr env Γ s Γ s' :=
  ⟨fun b o e _ _ => k b o e, fun _ h => .inl h, hg, ho⟩

theorem VRs.length {xs : List V} {vs : List Value} (h : VRs xs vs) : vs.length = xs.length := by
  induction h with
  | nil => rfl
  | cons _ _ ih => simp [ih]

/-- a plain allocation -/
theorem tri_new {t : Sem Value} {o : Obj} {ob : O} {Q : V → Led → Prop}
    (h : ∀ A s (Qc : Value → Shared → Prop), Qc (.ref s.heap.objs.size) { s with heap := s.heap.push o } → wpAny X.M A t Qc never s) (hf : o.isFreed = false)
    (hk : ∀ a, kf (a, ob) = [a]) (ho : ∀ h a, h.get? a = some o → OR X h a ob) (q : ∀ a, Q (.ref a) ((a, ob) :: Γ)) : TE X n env t loc Γ Q := by
  intro A s Qc ok eo rm I k
  have fr : ∀ b ∈ kf (s.heap.objs.size, ob), s.heap.get? b = none := fun b hb => by
    rw [hk] at hb; rw [List.mem_singleton.mp hb]; exact Heap.get?_none_of_le (Nat.le_refl _)
  have kp : ∀ b o', s.heap.get? b = some o' → (s.heap.push o).get? b = some o' := fun b o' e => Heap.get?_push_of_some _ e
  exact h A s Qc (k (.ref s.heap.objs.size) _ loc _ _ ⟨rfl, q _⟩ rfl (I.grow kp fr (by rw [hk]; simp) (ho _ _ (Heap.get?_push_size _ hf))) (Tr.grow kp fr rfl rfl))

theorem tri_newList {vs : List V} {vs' : List Value} (r : VRs vs vs') (hsz : vs.length ≤ sizeLine) {Q : V → Led → Prop} (q : ∀ a, Q (.ref a) ((a, .list vs) :: Γ)) : TE X n env (newList vs') loc Γ Q :=
  tri_new (o := { cls := .type "list", data := .seq vs'.toArray }) (ob := .list vs) (fun A s Qc h => wpAny_newObj_type h (by show vs'.toArray.size ≤ sizeLine; rw [List.size_toArray, r.length]; exact hsz)) rfl (fun _ => rfl) (fun h a e => ⟨vs', 0, e, r⟩) q
theorem tri_newTuple {vs : List V} {vs' : List Value} (r : VRs vs vs') (hsz : vs.length ≤ sizeLine) {Q : V → Led → Prop} (q : ∀ a, Q (.ref a) ((a, .tup vs) :: Γ)) : TE X n env (newTuple vs') loc Γ Q :=
  tri_new (o := { cls := .type "tuple", data := .seq vs'.toArray }) (ob := .tup vs) (fun A s Qc h => wpAny_newObj_type h (by show vs'.toArray.size ≤ sizeLine; rw [List.size_toArray, r.length]; exact hsz)) rfl (fun _ => rfl) (fun h a e => ⟨vs', 0, e, r⟩) q
/-- a plain allocation, above all that stood -/
theorem tri_newB {t : Sem Value} {o : Obj} {ob : O} {Q : V → Led → Prop}
    (h : ∀ A s (Qc : Value → Shared → Prop), Qc (.ref s.heap.objs.size) { s with heap := s.heap.push o } → wpAny X.M A t Qc never s) (hf : o.isFreed = false)
    (hk : ∀ a, kf (a, ob) = [a]) (ho : ∀ h a, X.hB.objs.size ≤ a → h.get? a = some o → OR X h a ob) (q : ∀ a, Q (.ref a) ((a, ob) :: Γ)) : TE X n env t loc Γ Q := by
  intro A s Qc ok eo rm I k
  have fr : ∀ b ∈ kf (s.heap.objs.size, ob), s.heap.get? b = none := fun b hb => by
    rw [hk] at hb; rw [List.mem_singleton.mp hb]; exact Heap.get?_none_of_le (Nat.le_refl _)
  have hB : X.hB.objs.size ≤ s.heap.objs.size := by
    have h1 := eo.size
    obtain ⟨o, ho⟩ := I.loc.foot_lt (a := env.locals) (.inl rfl)
    exact Nat.le_trans h1 (Nat.le_of_lt (Heap.lt_size ho))
  have kp : ∀ b o', s.heap.get? b = some o' → (s.heap.push o).get? b = some o' := fun b o' e => Heap.get?_push_of_some _ e
  exact h A s Qc (k (.ref s.heap.objs.size) _ loc _ _ ⟨rfl, q _⟩ rfl (I.grow kp fr (by rw [hk]; simp) (ho _ _ hB (Heap.get?_push_size _ hf))) (Tr.grow kp fr rfl rfl))

/-! ## the arguments -/
theorem starEach_cons {e : PySem.Expr} {r : List PySem.Expr} (h : plainArg e = true) : starEach (e :: r) env = (false, eval e env) :: starEach r env := by
  cases e <;> first | rfl | cases h
abbrev TEs (X : Cx) (n : Nat) (env : Env) (t : Sem (List Value)) (loc : Loc) (Γ : Led) (Q : List V → Led → Prop) : Prop := Tri X n env VRs t loc Γ (fun v l g => l = loc ∧ Q v g)
theorem tri_spliced_nil {pos : Pos} {Q : List V → Led → Prop} (q : Q [] Γ) : TEs X n env (spliced (backTo pos (starEach [] env))) loc Γ Q := Tri.pure .nil ⟨rfl, q⟩
theorem tri_spliced_cons {pos : Pos} {e : PySem.Expr} {r : List PySem.Expr} {Q : List V → Led → Prop} (hp : plainArg e = true)
    (h : TE X n env (eval e env) loc Γ fun v g => TEs X n env (spliced (backTo pos (starEach r env))) loc g fun vs g => Q (v :: vs) g) : TEs X n env (spliced (backTo pos (starEach (e :: r) env))) loc Γ Q := by
  rw [starEach_cons hp]
  show TEs X n env (do
    let v ← eval e env
    let here ← if false = true then (do
        if ← notIterableAtAll v then
          rule "star.not-iterable"; raiseError "TypeError" s!"Value after * must be an iterable, not {← typeNameOf v}"
        collect v)
      else pure [v]
    return here ++ (← holding here (spliced (backTo pos (starEach r env))))) loc Γ Q
  refine TE.bind h fun v v' g hv rv => ?_
  simp only [Bool.false_eq_true, if_false]
  refine Tri.eq (pure_bind _ _) ?_
  refine Tri.bind (Tri.holding hv) fun vs vs' l g' q rvs => ?_
  obtain ⟨rfl, q⟩ := q
  exact Tri.pure (.cons rv rvs) ⟨rfl, q⟩

theorem backTo_plain {pos : Pos} : ∀ {es : List PySem.Expr}, es.all plainArg = true → (backTo pos (starEach es env)).any (·.1) = false
  | [], _ => rfl
  | e :: r, h => by
    rw [List.all_cons, Bool.and_eq_true] at h
    rw [starEach_cons h.1]
    show (false || (backTo pos (starEach r env)).any (·.1)) = false
    rw [backTo_plain h.2]; rfl
theorem backTo_plain' {pos : Pos} : ∀ {es : List PySem.Expr}, es.all plainArg = true → (backTo pos (starEach es env)).all (fun x => !x.1) = true
  | [], _ => rfl
  | e :: r, h => by
    rw [List.all_cons, Bool.and_eq_true] at h
    rw [starEach_cons h.1]
    show (!false && (backTo pos (starEach r env)).all (fun x => !x.1)) = true
    rw [backTo_plain' h.2]; rfl
theorem tri_evalArgs {f : Value} {pos : Pos} : ∀ {es : List PySem.Expr} {Q : List V → Led → Prop}, es.all plainArg = true → TEs X n env (spliced (backTo pos (starEach es env))) loc Γ Q →
    Tri X n env (fun (vs : List V) (a : Args) => a.kw = [] ∧ VRs vs a.pos) (evalArgs f true (backTo pos (starEach es env)) []) loc Γ (fun v l g => l = loc ∧ Q v g)
  | [], Q, _, h => fun A s Qc ok eo rm I k => h A s (fun vs s' => Qc ⟨vs, []⟩ s') ok eo rm I fun b a l g s' q r I' T => k b ⟨a, []⟩ l g s' q ⟨rfl, r⟩ I' T |> fun z => by
      exact z
  | e :: r, Q, hp, h => by
    rw [List.all_cons, Bool.and_eq_true] at hp
    intro A s Qc ok eo rm I k
    have h' := h A s (fun vs s' => Qc ⟨vs, []⟩ s') ok eo rm I fun b a l g s' q r I' T => k b ⟨a, []⟩ l g s' q ⟨rfl, r⟩ I' T
    rw [starEach_cons hp.1] at h' ⊢
    exact evalArgs_plain h'
end Mine


open PySem PySem.W PyProof.Rows PySem.Calls
set_option Elab.async false
set_option maxRecDepth 100000
set_option linter.unusedVariables false
namespace Mine
variable {X : Cx} {n : Nat} {env : Env} {loc : Loc} {Γ : Led}

/-! ## one node -/
/-- a translated expression means what it says -/
def SE (X : Cx) (n : Nat) (env : Env) (e : PySem.Expr) (m : ME) : Prop := ∀ loc Γ Q, wpE X n m loc Γ Q → TE X n env (eval e env) loc Γ Q
def SEs (X : Cx) (n : Nat) (env : Env) (es : List PySem.Expr) (m : MEs) : Prop := ∀ pos loc Γ Q, wpEs X n m loc Γ Q → TEs X n env (spliced (backTo pos (starEach es env))) loc Γ Q
def ST (X : Cx) (n : Nat) (env : Env) (e : PySem.Expr) (m : MT) : Prop := ∀ loc Γ Q, wpT X n m loc Γ Q → Tri X n env Eq (isTrue e env (eval e env)) loc Γ (fun b l g => l = loc ∧ Q b g)
def STs (X : Cx) (n : Nat) (env : Env) (op : BoolOp) (es : List PySem.Expr) (m : MT) : Prop := ∀ loc Γ Q, wpT X n m loc Γ Q → Tri X n env Eq (allTrue op es env) loc Γ (fun b l g => l = loc ∧ Q b g)

theorem se_const {c : Const} {k : Nat} {pos : Pos} {m : ME} (h : (match c with | .int i => some (ME.int i) | .bool b => some (.bool b) | .none => some .none | _ => none) = some m) : SE X n env (.Constant c k pos) m := by
  intro loc Γ Q q
  cases c <;> simp at h <;> subst h
  · exact Tri.pure (b := V.none) rfl ⟨rfl, q⟩
  · rename_i b; exact Tri.pure (b := V.bool b) rfl ⟨rfl, q⟩
  · exact tri_int (fun A s Qc _ k => wpAny_mkInt (k _ _ ⟨_, rfl⟩)) q

/-- what the table says of the globals is so -/
structure TabOk (T : Tab) (X : Cx) : Prop where
  at_ : T.at_ = X.at_
  glob : X.Ok → ∀ x v, T.glob.lookup x = some v → X.mg x = some v ∨ (X.mg x = none ∧ X.mb x = some v)

theorem idxOf_some {l : List Str} {x : Str} {i : Nat} (h : idxOf l x = some i) : l[i]? = some x := by
  unfold idxOf at h
  obtain ⟨hi, hp, _⟩ := List.findIdx?_eq_some_iff_getElem.mp h
  rw [List.getElem?_eq_getElem hi, eq_of_beq hp]
theorem kindOf_eq (env : Env) (x : Str) : env.kindOf x = env.scope.names.lookup x := rfl

theorem se_name {T : Tab} (ok : TabOk T X) {x : Str} {pos : Pos} {m : ME} (h : trName T env.scope x = some m) : SE X n env (.Name x pos) m := by
  intro loc Γ Q q
  unfold trName at h
  split at h
  · cases h
  rename_i hd
  rw [eval_Name env x pos (by simpa using hd)]
  refine Tri.at ?_
  split at h
  · rename_i hk
    obtain ⟨i, hi, rfl⟩ := Option.map_eq_some_iff.mp h
    obtain ⟨v, hv, q⟩ := q
    exact tri_slot (idxOf_some hi) (.inl hk) hv q
  · rename_i hk
    obtain ⟨i, hi, rfl⟩ := Option.map_eq_some_iff.mp h
    obtain ⟨v, hv, q⟩ := q
    exact tri_slot (idxOf_some hi) (.inr hk) hv q
  · rename_i hk
    obtain ⟨v, hv, rfl⟩ := Option.map_eq_some_iff.mp h
    exact tri_glob hk (fun o => ok.glob o x v hv) q
  · cases h

theorem se_bin {l r : PySem.Expr} {op : Operator} {pos : Pos} {a b : ME} (ha : SE X n env l a) (hb : SE X n env r b) : SE X n env (.BinOp l op r pos) (.bin op a b) := by
  intro loc Γ Q q
  rw [eval_BinOp]
  refine TE.bind (ha loc Γ _ q) fun x x' g hx rx => ?_
  refine TE.bind (Tri.holding (hb loc g _ hx)) fun y y' g hy ry => ?_
  exact Tri.at (Tri.operate (tri_bin rx ry hy))
theorem se_neg {x : PySem.Expr} {pos : Pos} {a : ME} (ha : SE X n env x a) : SE X n env (.UnaryOp .USub x pos) (.neg a) := by
  intro loc Γ Q q
  rw [arm_eval_UnaryOp]
  refine TE.bind (ha loc Γ _ q) fun x x' g hx rx => ?_
  obtain ⟨i, rfl, hx⟩ := hx
  obtain ⟨t, rfl⟩ := rx
  exact Tri.at (Tri.holding (tri_int (fun A s Qc _ k => PyProof.Rows.neg_int (k _ _ ⟨_, rfl⟩)) hx))
theorem se_cmp {l r : PySem.Expr} {op : CmpOp} {pos : Pos} {a b : ME} (hm : behindInMarks op r = false) (ha : SE X n env l a) (hb : SE X n env r b) : SE X n env (.Compare l [op] [r] pos) (.cmp op a b) := by
  intro loc Γ Q q
  rw [eval_Compare1, markedBehindIn_of_false hm]
  refine TE.bind (ha loc Γ _ q) fun x x' g hx rx => ?_
  refine TE.bind (Tri.holding (hb loc g _ hx)) fun y y' g hy ry => ?_
  exact Tri.at (Tri.operate (tri_cmp rx ry hy))
theorem se_ite {t l r : PySem.Expr} {pos : Pos} {c : MT} {a b : ME} (hc : ST X n env t c) (ha : SE X n env l a) (hb : SE X n env r b) : SE X n env (.IfExp t l r pos) (.ite c a b) := by
  intro loc Γ Q q
  rw [arm_eval_IfExp]
  refine Tri.bind (hc loc Γ _ q) fun x x' l' g hx rx => ?_
  obtain ⟨rfl, hx⟩ := hx
  subst rx
  cases x with
  | true => exact ha _ _ _ (hx.1 rfl)
  | false => exact hb _ _ _ (hx.2 rfl)

theorem looksQ_tri {α : Type} {t : Sem α} (h : X.Ok → LooksQ X t) : Tri X n env (fun (_ : Unit) (_ : α) => True) t loc Γ (fun _ l g => l = loc ∧ g = Γ) :=
  fun A s Qc ok eo rm I k => h ok A s Qc I.base fun a => k () a loc Γ s ⟨rfl, rfl⟩ trivial I .refl
theorem tri_keepV {R : V → Value → Prop} {Q : V → Loc → Led → Prop} {vs : List Value} {t : Sem Value} (h : Tri X n env R t loc Γ Q) : Tri X n env R (t.keep vs) loc Γ Q :=
  fun A s Qc ok eo rm I k => wpAny_keep (h A s Qc ok eo rm I k)

theorem tri_callWith {pos : Pos} {fv : Value} {first : List Value} {es : List PySem.Expr} {p2 : Pos} {as : MEs} {Q : List V → Led → Prop} {Q' : V → Led → Prop} (hp : es.all plainArg = true) (hes : SEs X n env es as) (q : wpEs X n as loc Γ Q)
    (hk : ∀ vs g, Q vs g → X.Ok → LooksQ X (keeperOf fv)) (hc : ∀ vs vs' g, Q vs g → VRs vs vs' → TE X n env (call fv (first ++ vs')) loc g Q') :
    TE X n env (callWith pos fv first (backTo p2 (starEach es env)) []) loc Γ Q' := by
  unfold callWith
  refine Tri.bind (Tri.holding (tri_evalArgs hp (hes p2 loc Γ Q q))) fun vs a l g hq hr => ?_
  obtain ⟨rfl, hq⟩ := hq
  obtain ⟨hkw, hr⟩ := hr
  refine Tri.at ?_
  simp only [backTo_plain hp, List.any_nil, Bool.or_false]
  rw [hkw]
  have tail : ∀ {t : Sem Value}, TE X n env t l g Q' → TE X n env (t >>= fun r => holding [r] point >>= fun _ => pure r) l g Q' := fun ht =>
    TE.bind ht fun v v' g' hv rv => fun A s Qc ok eo rm I k => wpAny_bind (wpAny_holding (wpAny_point (wpAny_pure (k v v' l g' s ⟨rfl, hv⟩ rv I .refl))))
  refine Tri.bind (looksQ_tri (hk vs g hq)) fun _ kp l' g' h' _ => ?_
  obtain ⟨rfl, rfl⟩ := h'
  have base := hc vs a.pos g' hq hr
  cases kp <;> dsimp only <;> (try split) <;> first
    | exact tail base
    | exact tail (tri_keepV base)
    | exact tail (Tri.operate base)

theorem se_call {fn : PySem.Expr} {es : List PySem.Expr} {pos : Pos} {f : ME} {as : MEs} (hn : ∀ o a p, fn ≠ .Attribute o a p) (hp : es.all plainArg = true) (hf : SE X n env fn f) (hes : SEs X n env es as) : SE X n env (.Call fn es [] pos) (.call f as) := by
  intro loc Γ Q q
  have e : eval (.Call fn es [] pos) env = (do callWith pos (← eval fn env) [] (backTo pos (starEach es env)) []) := by
    cases fn <;> first | rfl | exact absurd rfl (hn _ _ _)
  rw [e]
  refine TE.bind (hf loc Γ _ q) fun fv fv' g hv rv => ?_
  refine tri_callWith (Q := fun vs Γ => keepsW X fv ∧ callW X n fv vs Γ Q) hp hes hv (fun vs g h => h.1 fv' rv) fun vs vs' g' h rvs => h.2 fv' vs' rv rvs env loc

theorem base_plain {o : PySem.Expr} {name : Str} {w : Sem Value} (h : plainBase o = true) : attributeBase o name env w = w := by
  cases o <;> first | rfl | cases h
theorem tri_letGo {base : PySem.Expr} {o r : Value} {v : V} {Q : V → Led → Prop} (rv : VR v r) (q : Q v Γ) : TE X n env (do letTemporaryGo base o r; pure r) loc Γ Q :=
  fun A s Qc ok eo rm I k => wpAny_bind (wpAny_letTemporaryGo (wpAny_pure (k v r loc Γ s ⟨rfl, q⟩ rv I .refl)))
theorem se_attr {o : PySem.Expr} {name : Str} {pos : Pos} {a : ME} {k : Nat} (hb : plainBase o = true) (hk : X.at_[k]? = some name) (ha : SE X n env o a) : SE X n env (.Attribute o name pos) (.attr a k) := by
  intro loc Γ Q q
  rw [arm_eval_Attribute, base_plain hb]
  refine TE.bind (ha loc Γ _ q) fun x x' g hx rx => Tri.at ?_
  refine TE.bind (Tri.holding (hx x' name rx hk env loc)) fun r r' g hr rr => ?_
  exact tri_letGo rr hr
theorem tri_hold_bind {α β γ δ : Type} {R : δ → γ → Prop} {vs : List Value} {m : Sem α} {f : α → Sem β} {k : β → Sem γ} {Q : δ → Loc → Led → Prop} (h : Tri X n env R (m >>= fun a => f a >>= k) loc Γ Q) : Tri X n env R (holding vs (m >>= f) >>= k) loc Γ Q :=
  fun A s Qc ok eo rm I q Γ' p hΓ => by
    have z := h A s Qc ok eo rm I q Γ' p hΓ
    simpa only [Sem.wp_bind', Sem.wp_holding] using z
theorem se_sub {o i : PySem.Expr} {pos : Pos} {a b : ME} (hs : isSlice i = false) (ha : SE X n env o a) (hb : SE X n env i b) : SE X n env (.Subscript o i pos) (.sub a b) := by
  intro loc Γ Q q
  rw [arm_eval_Subscript]
  refine TE.bind (ha loc Γ _ q) fun x x' g hx rx => ?_
  refine TE.bind (Tri.holding (hb loc g _ hx)) fun y y' g hy ry => Tri.at ?_
  have hsl : ∀ q, subscripted i q x' y' = if q then runValue (.builtin "lifetime.subscript" ⟨[x', y'], []⟩) else operate [x', y'] (getItem x' y') := by
    intro q
    cases i <;> first | (cases q <;> rfl) | cases hs
  have h := hy x' y' rx ry env loc i hsl
  have e : (do let r ← subscripted i (← getitemInPython x') x' y'; letTemporaryGo o x' r; pure r : Sem Value) = (do let r ← (do let q ← getitemInPython x'; subscripted i q x' y' : Sem Value); letTemporaryGo o x' r; pure r : Sem Value) := by
    simp only [bind_assoc]
  exact Tri.eq e (TE.bind h fun r r' g hr rr => tri_letGo rr hr)
def SO (X : Cx) (n : Nat) (env : Env) (e : Option PySem.Expr) (m : ME) : Prop := ∀ loc Γ Q, wpE X n m loc Γ Q → TE X n env (valueOrNone (evalOpt e env)) loc Γ Q
theorem so_none : SO X n env none .none := fun loc Γ Q q => Tri.pure (b := V.none) rfl ⟨rfl, q⟩
theorem so_some {e : PySem.Expr} {m : ME} (h : SE X n env e m) : SO X n env (some e) m := fun loc Γ Q q => h loc Γ Q q
theorem se_slice {o : PySem.Expr} {l u st : Option PySem.Expr} {p1 pos : Pos} {a b c d : ME} (ha : SE X n env o a) (hl : SO X n env l b) (hu : SO X n env u c) (hst : SO X n env st d) : SE X n env (.Subscript o (.Slice l u st p1) pos) (.slice a b c d) := by
  intro loc Γ Q q
  rw [arm_eval_Subscript]
  refine TE.bind (ha loc Γ _ q) fun x x' g hx rx => ?_
  have hsl : ∀ sv, (∀ q, subscripted (.Slice l u st p1) q x' sv = if q then runValue (.builtin "lifetime.subscript" ⟨[x', sv], []⟩) else operate [x', sv] (getItem x' sv)) ∨ (∀ q, subscripted (.Slice l u st p1) q x' sv = operate [sv, x'] (getItem x' sv)) := by
    intro sv
    cases st with
    | none => exact .inr fun q => by cases q <;> rfl
    | some z => exact .inl fun q => by cases q <;> rfl
  rw [arm_eval_Slice]
  have e : (do
      let i ← holding [x'] (do
        let l ← valueOrNone (evalOpt l env)
        let u ← holding [l] (valueOrNone (evalOpt u env))
        let s ← holding [l, u] (valueOrNone (evalOpt st env))
        newFields "slice" [l, u, s])
      standAt pos
      let r ← subscripted (.Slice l u st p1) (← getitemInPython x') x' i
      letTemporaryGo o x' r
      pure r : Sem Value) = (do
      let r ← (do
        let i ← holding [x'] (do
          let l ← valueOrNone (evalOpt l env)
          let u ← holding [l] (valueOrNone (evalOpt u env))
          let s ← holding [l, u] (valueOrNone (evalOpt st env))
          newFields "slice" [l, u, s])
        standAt pos
        subscripted (.Slice l u st p1) (← getitemInPython x') x' i : Sem Value)
      letTemporaryGo o x' r
      pure r : Sem Value) := by simp only [bind_assoc]
  refine Tri.eq e (TE.bind (Q := Q) ?_ fun r r' g hr rr => tri_letGo rr hr)
  refine tri_hold_bind ?_
  refine TE.bind (hl loc g _ hx) fun lv lv' g hlv rl => ?_
  refine Tri.eq (bind_assoc _ _ _) ?_
  refine TE.bind (Tri.holding (hu loc g _ hlv)) fun uv uv' g huv ru => ?_
  refine Tri.eq (bind_assoc _ _ _) ?_
  refine TE.bind (Tri.holding (hst loc g _ huv)) fun sv sv' g hsv rs => ?_
  exact hsv x' lv' uv' sv' rx rl ru rs env loc _ hsl pos
theorem se_list {es : List PySem.Expr} {pos : Pos} {as : MEs} (hes : SEs X n env es as) : SE X n env (.List es pos) (.list as) := by
  intro loc Γ Q q
  rw [arm_eval_List]
  refine Tri.at (Tri.bind (hes pos loc Γ _ q) fun vs vs' l g h r => ?_)
  obtain ⟨rfl, h1, h⟩ := h
  exact tri_newList r (Nat.le_trans h1 (by decide)) h
theorem se_tup {es : List PySem.Expr} {k : Nat} {pos : Pos} {as : MEs} (hes : SEs X n env es as) : SE X n env (.Tuple es k pos) (.tup as) := by
  intro loc Γ Q q
  rw [arm_eval_Tuple]
  refine Tri.at (Tri.bind (hes pos loc Γ _ q) fun vs vs' l g h r => ?_)
  obtain ⟨rfl, h1, h⟩ := h
  exact tri_newTuple r (Nat.le_trans h1 (by decide)) h
theorem ses_nil : SEs X n env [] .nil := fun pos loc Γ Q q => tri_spliced_nil q
theorem ses_cons {e : PySem.Expr} {r : List PySem.Expr} {m : ME} {ms : MEs} (hp : plainArg e = true) (h : SE X n env e m) (hr : SEs X n env r ms) : SEs X n env (e :: r) (.cons m ms) :=
  fun pos loc Γ Q q => tri_spliced_cons hp (TE.mono (h loc Γ _ q) fun v g hv => hr pos loc g _ hv)

/-! ## the method call -/
theorem se_meth {o : PySem.Expr} {name : Str} {apos pos : Pos} {es : List PySem.Expr} {a : ME} {k : Nat} {as : MEs} (hb : plainBase o = true) (hl : (apos.endLine == pos.line) = true) (hk : X.at_[k]? = some name) (hp : es.all plainArg = true) (hlen : es.length < 30)
    (ha : SE X n env o a) (hes : SEs X n env es as) : SE X n env (.Call (.Attribute o name apos) es [] pos) (.meth a k as) := by
  intro loc Γ Q q
  rw [arm_eval_Call, base_plain hb]
  refine TE.bind (ha loc Γ _ q) fun ov ov' g hov rov => Tri.at ?_
  obtain ⟨fv, bd, hm, hov⟩ := hov
  unfold methodCall
  have few : methodCallForm (es.length + ([] : List Keyword).length) (backTo pos (starEach es env)) (backToKw pos (keywordEach [] env)) = true := by
    unfold methodCallForm
    rw [backTo_plain' hp]
    show (true && true && decide (es.length + 0 + 0 < 30)) = true
    simp [hlen]
  rw [few]
  unfold calleeOf
  simp only [if_true]
  refine Tri.bind (Tri.holding (hm ov' name rov hk env loc _)) fun r r' l g' h e => ?_
  obtain ⟨rfl, rfl, rfl⟩ := h
  subst e
  unfold methodCallPos
  rw [hl]
  simp only [Bool.not_true, Bool.or_true, if_true]
  refine Tri.eq (pure_bind _ _) ?_
  refine tri_callWith (Q := fun vs Γ => keepsW X (.val fv) ∧ callW X n (.val fv) (if bd then ov :: vs else vs) Γ Q) hp hes hov (fun vs g h => h.1 fv rfl) fun vs vs' g' h rvs => ?_
  cases bd with
  | true => exact h.2 fv (ov' :: vs') rfl (.cons rov rvs) env l
  | false => exact h.2 fv vs' rfl rvs env l

/-! ## tests -/
theorem st_not {x : PySem.Expr} {pos : Pos} {a : MT} (h : ST X n env x a) : ST X n env (.UnaryOp .Not x pos) (.not a) := by
  intro loc Γ Q q
  rw [arm_isTrue_UnaryOp]
  refine Tri.bind (h loc Γ _ q) fun b b' l g hb e => ?_
  obtain ⟨rfl, hb⟩ := hb
  subst e
  exact Tri.pure (b := !b) rfl ⟨rfl, hb⟩
theorem st_bool {op : BoolOp} {es : List PySem.Expr} {pos : Pos} {a : MT} (h : STs X n env op es a) : ST X n env (.BoolOp op es pos) a := fun loc Γ Q q => h loc Γ Q q
theorem sts_and_nil : STs X n env .And [] .tt := fun loc Γ Q q => Tri.pure (b := true) rfl ⟨rfl, q⟩
theorem sts_or_nil : STs X n env .Or [] .ff := fun loc Γ Q q => Tri.pure (b := false) rfl ⟨rfl, q⟩
theorem sts_and {e : PySem.Expr} {r : List PySem.Expr} {a b : MT} (ha : ST X n env e a) (hb : STs X n env .And r b) : STs X n env .And (e :: r) (.and a b) := by
  intro loc Γ Q q
  rw [arm_allTrue_cons]
  refine Tri.bind (ha loc Γ _ q) fun x x' l g hx e => ?_
  obtain ⟨rfl, hx⟩ := hx
  subst e
  cases x with
  | true => exact hb _ _ _ (hx.2 rfl)
  | false => exact Tri.pure (b := false) rfl ⟨rfl, hx.1 rfl⟩
theorem sts_or {e : PySem.Expr} {r : List PySem.Expr} {a b : MT} (ha : ST X n env e a) (hb : STs X n env .Or r b) : STs X n env .Or (e :: r) (.or a b) := by
  intro loc Γ Q q
  rw [arm_allTrue_cons]
  refine Tri.bind (ha loc Γ _ q) fun x x' l g hx e => ?_
  obtain ⟨rfl, hx⟩ := hx
  subst e
  cases x with
  | true => exact Tri.pure (b := true) rfl ⟨rfl, hx.1 rfl⟩
  | false => exact hb _ _ _ (hx.2 rfl)
theorem st_cmp {l r : PySem.Expr} {op : CmpOp} {pos : Pos} {a b : ME} (hm : behindInMarks op r = false) (ha : SE X n env l a) (hb : SE X n env r b) : ST X n env (.Compare l [op] [r] pos) (.cmp op a b) := by
  intro loc Γ Q q
  rw [isTrue_Compare1, markedBehindIn_of_false hm]
  refine TE.bind (ha loc Γ _ q) fun x x' g hx rx => ?_
  refine TE.bind (Tri.holding (hb loc g _ hx)) fun y y' g hy ry => Tri.at ?_
  refine TE.bind (Tri.operate (tri_cmp rx ry hy)) fun z z' g hz rz => ?_
  exact Tri.holding (tri_truth rz hz)
def plainTest : PySem.Expr → Bool
  | .UnaryOp .. | .BoolOp .. | .IfExp .. | .Compare .. => false
  | _ => true
theorem st_val {e : PySem.Expr} {a : ME} (hp : plainTest e = true) (ha : SE X n env e a) : ST X n env e (.val a) := by
  intro loc Γ Q q
  have eq : isTrue e env (eval e env) = (do let v ← eval e env; standAt e.pos; holding [v] (truthy v)) := by
    cases e <;> first | rfl | cases hp
  rw [eq]
  refine TE.bind (ha loc Γ _ q) fun x x' g hx rx => Tri.at ?_
  exact Tri.holding (tri_truth rx hx)

end Mine


open PySem PySem.W PyProof.Rows PySem.Calls
set_option Elab.async false
set_option maxRecDepth 100000
set_option linter.unusedVariables false
namespace Mine
variable {X : Cx} {n : Nat} {env : Env} {loc : Loc} {Γ : Led}

/-! ## assignment to a target -/
theorem slot_kind {sc : Scope} {x : Str} (h : (sc.names.lookup x == some .local || sc.names.lookup x == some .cell) = true) : sc.names.lookup x = some .local ∨ sc.names.lookup x = some .cell := by
  rcases Bool.or_eq_true_iff.mp h with h | h
  · exact .inl (eq_of_beq h)
  · exact .inr (eq_of_beq h)
theorem tri_assignName {i : Nat} {x : Str} {pos : Pos} {u : V} {u' : Value} (hx : (slotsOf env.scope)[i]? = some x) (hk : env.kindOf x = some .local ∨ env.kindOf x = some .cell) (r : VR u u') {Q : Unit → Loc → Led → Prop} (q : Q () (loc.set i (some u)) Γ) :
    Tri X n env (fun _ _ => True) (assign (.Name x pos) env u') loc Γ Q := by
  rw [arm_assign_Name]
  refine Tri.at fun A s Qc ok eo rm I k => wpAny_bindName (tri_store hx hk r q A s Qc ok eo rm I k)

theorem Heap.ExtBut.all {a : Addr} {h h' : Heap} (x : Heap.ExtBut a h h') (e : a = h.objs.size) : ∀ b o, h.get? b = some o → h'.get? b = some o :=
  fun b o q => x b o (fun z => absurd (Heap.lt_size q) (by rw [z, e]; exact Nat.lt_irrefl _)) q

theorem tri_assignTwo {i j : Nat} {x y : Str} {px py pos : Pos} {k : Nat} {u v : V} {u' v' : Value} {t : Addr} {m : Nat} (hx : (slotsOf env.scope)[i]? = some x) (hkx : env.kindOf x = some .local ∨ env.kindOf x = some .cell)
    (hy : (slotsOf env.scope)[j]? = some y) (hky : env.kindOf y = some .local ∨ env.kindOf y = some .cell) (ru : VR u u') (rv : VR v v') {Q : Unit → Loc → Led → Prop} (q : Q () ((loc.set i (some u)).set j (some v)) Γ)
    {A : Around} {s : Shared} {Qc : Unit → Shared → Prop} (ok : X.Ok) (eo : EnvOk X env) (rm : Room n A) (I : Invt X env loc Γ s.heap) (ht : s.heap.get? t = some { cls := .type "tuple", data := .seq #[u', v'] m })
    (kq : ∀ b a loc' Γ' s', Q b loc' Γ' → Invt X env loc' Γ' s'.heap → Tr env Γ s Γ' s' → Qc a s') :
    wpAny X.M A (assign (.Tuple [.Name x px, .Name y py] k pos) env (.ref t)) Qc never s := by
  refine wpAny_assign_Tuple rm.hd (items := #[u', v']) ⟨_, ht, rfl, m, rfl⟩ rfl rfl fun h' he => ?_
  have kp := Heap.ExtBut.all he rfl
  have I' : Invt X env loc Γ h' := I.still kp
  have T' : Tr env Γ s Γ { s with heap := h' } := Tr.still kp rfl rfl
  have t : Tri X n env (fun (_ : Unit) (_ : Unit) => True) (do holding [v'] (assign (.Name x px) env u'); assignInOrder [assign (.Name y py) env] [v']) loc Γ Q := by
    refine Tri.bind (Tri.holding (tri_assignName (Q := fun _ l g => l = loc.set i (some u) ∧ g = Γ) hx hkx ru ⟨rfl, rfl⟩)) fun _ _ l g h _ => ?_
    rw [h.1, h.2]
    show Tri X n env _ (do holding [] (assign (.Name y py) env v'); assignInOrder [] []) _ _ Q
    exact Tri.bind (Tri.holding (tri_assignName (Q := fun _ l g => l = (loc.set i (some u)).set j (some v) ∧ g = Γ) hy hky rv ⟨rfl, rfl⟩)) fun _ _ l g h _ => by
      rw [h.1, h.2]
      exact Tri.pure trivial q
  exact t A { s with heap := h' } Qc ok eo rm I' fun b a loc' Γ' s' q r I'' T => kq b a loc' Γ' s' q I'' (T'.trans T I'')

/-! ## drawing -/
structure TrX (fp : List Addr) (env : Env) (Γ : Led) (s : Shared) (Γ' : Led) (s' : Shared) : Prop where
  keep : ∀ b o, s.heap.get? b = some o → ¬ footF env b → b ∉ keys Γ → b ∉ fp → s'.heap.get? b = some o
  fresh : ∀ k ∈ keys Γ', k ∈ keys Γ ∨ s.heap.get? k = none
  gens : s'.gens = s.gens
  os : s'.os = s.os
theorem TrX.of {fp : List Addr} {Γ' : Led} {s s' : Shared} (T : Tr env Γ s Γ' s') : TrX fp env Γ s Γ' s' := ⟨fun b o e hf hk _ => T.keep b o e hf hk, T.fresh, T.gens, T.os⟩
theorem TrX.trans {fp : List Addr} {Γ₁ Γ₂ : Led} {s s₁ s₂ : Shared} (x : TrX fp env Γ s Γ₁ s₁) (y : TrX fp env Γ₁ s₁ Γ₂ s₂) (hfp : ∀ k ∈ keys Γ₂, k ∉ fp) (i : Invt X env loc Γ₂ s₂.heap) : TrX fp env Γ s Γ₂ s₂ where
  keep := fun b o e hf hk hp => by
    have e1 := x.keep b o e hf hk hp
    refine y.keep b o e1 hf (fun hk1 => ?_) hp
    rcases x.fresh b hk1 with h | h
    · exact hk h
    · rw [e] at h; cases h
  fresh := fun k hk => by
    rcases y.fresh k hk with h | h
    · exact x.fresh k h
    · cases q : s.heap.get? k with
      | none => exact .inr rfl
      | some o =>
        by_cases hk' : k ∈ keys Γ
        · exact .inl hk'
        · have := x.keep k o q (i.ap k hk).2 hk' (hfp k hk)
          rw [h] at this; cases this
  gens := y.gens.trans x.gens
  os := y.os.trans x.os
/-- what a loop's iterators may be: not ours, not the frame's, not of the base -/
def Apart (X : Cx) (env : Env) (Γ : Led) (fp : List Addr) : Prop := ∀ x ∈ fp, x ∉ keys Γ ∧ ¬ footF env x ∧ X.hB.get? x = none
theorem Invt.butFp {fp : List Addr} {h h' : Heap} (I : Invt X env loc Γ h) (ap : Apart X env Γ fp) (k : ∀ b o, h.get? b = some o → b ∉ fp → h'.get? b = some o) : Invt X env loc Γ h' where
  base := fun b o e => k b o (I.base b o e) fun z => by have := (ap b z).2.2; rw [e] at this; cases this
  loc := I.loc.keeps fun b o hf e => k b o e fun z => (ap b z).2.1 hf
  led := fun e he => (I.led e he).keep fun b hb x hx => k b x hx fun z => (ap b z).1 (mem_keys he hb)
  nd := I.nd
  ap := I.ap

def rngLeft (lo hi : Int) : Int := if lo < hi then hi - lo else 0
def SrcAt (src : Src) (k : Nat) (I : Addr) (fp : List Addr) (h : Heap) : Prop :=
  match src with
  | .rng lo hi => fp = [I] ∧ IsRangeIter h I (lo + k) (rngLeft lo hi - k) 1
  | .list a => fp = [I] ∧ h.IsListIter I a k
  | .tup a => fp = [I] ∧ h.IsTupleIter I a k
  | .enum a => ∃ i2 old, fp = [I, i2] ∧ I ≠ i2 ∧ IsEnum h I i2 k old ∧ h.IsListIter i2 a k
  | .zip a b => ∃ TI TO i1 i2 x y, fp = [I, TI, TO, i1, i2] ∧ fp.Nodup ∧ IsZip h I TI TO .none ∧ IsPair h TI (.ref i1) (.ref i2) ∧ IsPair h TO x y ∧ h.IsListIter i1 a k ∧ h.IsListIter i2 b k
  | .rev a m => fp = [I] ∧ k ≤ m ∧ PySem.Heap.IsRevIter h I a ((m : Int) - 1 - k)
  | .dict a ep m => fp = [I] ∧ h.IsKeyIter I a k m ep
theorem SrcAt.keeps {src : Src} {k : Nat} {I : Addr} {fp : List Addr} {h h' : Heap} (x : SrcAt src k I fp h) (kp : ∀ b ∈ fp, ∀ o, h.get? b = some o → h'.get? b = some o) : SrcAt src k I fp h' := by
  cases src with
  | rng lo hi => obtain ⟨rfl, e⟩ := x; exact ⟨rfl, kp I (by simp) _ e⟩
  | list a => obtain ⟨rfl, o, e, r⟩ := x; exact ⟨rfl, o, kp I (by simp) _ e, r⟩
  | tup a => obtain ⟨rfl, o, e, r⟩ := x; exact ⟨rfl, o, kp I (by simp) _ e, r⟩
  | enum a => obtain ⟨i2, old, rfl, ne, e, o, e2, r⟩ := x; exact ⟨i2, old, rfl, ne, kp I (by simp) _ e, o, kp i2 (by simp) _ e2, r⟩
  | zip a b =>
    obtain ⟨TI, TO, i1, i2, x, y, rfl, nd, e1, e2, e3, ⟨o4, e4, r4⟩, ⟨o5, e5, r5⟩⟩ := x
    exact ⟨TI, TO, i1, i2, x, y, rfl, nd, kp I (by simp) _ e1, kp TI (by simp) _ e2, kp TO (by simp) _ e3, ⟨o4, kp i1 (by simp) _ e4, r4⟩, ⟨o5, kp i2 (by simp) _ e5, r5⟩⟩
  | rev a m => obtain ⟨rfl, le, o, e, r⟩ := x; exact ⟨rfl, le, o, kp I (by simp) _ e, r⟩
  | dict a ep m => obtain ⟨rfl, o, e, r⟩ := x; exact ⟨rfl, o, kp I (by simp) _ e, r⟩

/-- a target's text -/
inductive TgIs (sc : Scope) : PySem.Expr → MTg → Prop
  | loc {x : Str} {p : Pos} {i : Nat} (hx : (slotsOf sc)[i]? = some x) (hk : sc.names.lookup x = some .local ∨ sc.names.lookup x = some .cell) : TgIs sc (.Name x p) (.loc i)
  | two {x y : Str} {px py p : Pos} {k i j : Nat} (hx : (slotsOf sc)[i]? = some x) (hkx : sc.names.lookup x = some .local ∨ sc.names.lookup x = some .cell) (hy : (slotsOf sc)[j]? = some y) (hky : sc.names.lookup y = some .local ∨ sc.names.lookup y = some .cell) :
      TgIs sc (.Tuple [.Name x px, .Name y py] k p) (.two i j)
theorem tgIs_of {sc : Scope} {e : PySem.Expr} {tg : MTg} (h : trTg sc e = some tg) : TgIs sc e tg := by
  unfold trTg at h
  split at h
  · split at h
    · rename_i hk
      obtain ⟨i, hi, rfl⟩ := Option.map_eq_some_iff.mp h
      exact .loc (idxOf_some hi) (slot_kind hk)
    · cases h
  · split at h
    · rename_i hk
      rw [Bool.and_eq_true] at hk
      split at h
      · rename_i hi hj
        cases h
        exact .two (idxOf_some hi) (slot_kind hk.1) (idxOf_some hj) (slot_kind hk.2)
      · cases h
    · cases h
  · cases h

theorem VRs.get {xs : List V} {vs : List Value} (h : VRs xs vs) {k : Nat} {v : Value} (e : vs[k]? = some v) : ∃ x, xs[k]? = some x ∧ VR x v := by
  induction h generalizing k with
  | nil => cases e
  | cons r _ ih =>
    cases k with
    | zero => cases e; exact ⟨_, rfl, r⟩
    | succ k => exact ih e
theorem VRs.get' {xs : List V} {vs : List Value} (h : VRs xs vs) {k : Nat} {x : V} (e : xs[k]? = some x) : ∃ v, vs[k]? = some v ∧ VR x v := by
  induction h generalizing k with
  | nil => cases e
  | cons r _ ih =>
    cases k with
    | zero => cases e; exact ⟨_, rfl, r⟩
    | succ k => exact ih e
theorem VRs.get_none {xs : List V} {vs : List Value} (h : VRs xs vs) {k : Nat} : xs.length ≤ k → vs[k]? = none := fun e => List.getElem?_eq_none (by rw [h.length]; exact e)
theorem list_of {h : Heap} {a : Addr} {xs : List V} (r : OR X h a (.list xs)) : ∃ vs, h.IsList a vs.toArray ∧ VRs xs vs := by
  obtain ⟨vs, n, e, q⟩ := r
  exact ⟨vs, ⟨_, e, rfl, n, rfl⟩, q⟩
theorem tup_of {h : Heap} {a : Addr} {xs : List V} (r : OR X h a (.tup xs)) : ∃ vs, h.IsTuple a vs.toArray ∧ VRs xs vs := by
  obtain ⟨vs, n, e, q⟩ := r
  exact ⟨vs, ⟨_, e, rfl, n, rfl⟩, q⟩

/-- single items: a name, or a pair that lies in the ledger -/
theorem assign_one {tg : MTg} {target : PySem.Expr} {v : V} {v' : Value} {loc' : Loc → Prop} (ht : TgIs env.scope target tg) (hw : tgW Γ loc tg [v] loc') (r : VR v v')
    {A : Around} {s : Shared} {Qc : Unit → Shared → Prop} (ok : X.Ok) (eo : EnvOk X env) (rm : Room n A) (I : Invt X env loc Γ s.heap)
    (kq : ∀ l s', loc' l → Invt X env l Γ s'.heap → Tr env Γ s Γ s' → Qc () s') : wpAny X.M A (assign target env v') Qc never s := by
  cases ht with
  | loc hx hk => exact tri_assignName (n := n) hx hk r (Q := fun _ l g => l = loc.set _ (some v) ∧ g = Γ) ⟨rfl, rfl⟩ A s Qc ok eo rm I fun b a l g s' q _ I' T => by obtain ⟨rfl, rfl⟩ := q; exact kq _ s' hw I' T
  | two hx hkx hy hky =>
    cases v <;> try exact hw.elim
    rename_i t
    obtain ⟨x, y, hm, hw⟩ := hw
    cases (show v' = .ref t from r)
    obtain ⟨vs, m, e, q⟩ := I.led _ hm
    cases q with
    | cons r1 q => cases q with
      | cons r2 q => cases q with
        | nil => exact tri_assignTwo hx hkx hy hky r1 r2 (Q := fun _ l g => l = (loc.set _ (some x)).set _ (some y) ∧ g = Γ) ⟨rfl, rfl⟩ ok eo rm I e fun b a l g s' q I' T => by obtain ⟨rfl, rfl⟩ := q; exact kq _ s' hw I' T

theorem letOwned_name {x : Str} {p : Pos} {it v : Value} : letOwnedTupleGo (.Name x p) it v = pure () := rfl
/-- the iterators that hand out no pair of their own -/
theorem letOwned_plain {target : PySem.Expr} {tg : MTg} {c : String} {vs : Array Value} {I : Addr} {o : Obj} {v : Value} (ht : TgIs env.scope target tg) {A : Around} {s : Shared} {Qc : Unit → Shared → Prop} {Ex : Value → Shared → Prop}
    (ho : s.heap.get? I = some o) (hc : o.cls = .type c) (hd : o.data = .fields vs) (hn : ["enumerate", "zip", "dict_itemiterator", "dict_reverseitemiterator", "odict_iterator", "itertools.zip_longest", "itertools.pairwise"].contains c = false) (q : Qc () s) :
    wpAny X.M A (letOwnedTupleGo target (.ref I) v) Qc Ex s := by
  cases ht with
  | loc => exact wpAny_pure q
  | two =>
    cases v <;> try exact wpAny_pure q
    rename_i a
    unfold letOwnedTupleGo
    refine wpAny_bind (wpAny_load ho ?_)
    rw [hc, hd]
    show wpAny _ A (if (["enumerate", "zip", "dict_itemiterator", "dict_reverseitemiterator", "odict_iterator", "itertools.zip_longest", "itertools.pairwise"].contains c && vs[0]? == some (rawInt a)) = true then _ else _) Qc _ s
    rw [hn, Bool.false_and]
    exact wpAny_pure q

end Mine


open PySem PySem.W PyProof.Rows PySem.Calls
set_option Elab.async false
set_option maxRecDepth 100000
set_option linter.unusedVariables false
namespace Mine
variable {X : Cx} {n : Nat} {env : Env} {loc : Loc} {Γ : Led}

theorem wpNever {α : Type} {M : Model} {A : Around} {t : Sem α} {Q : α → Shared → Prop} {E : Value → Shared → Prop} {s : Shared} (h : wpAny M A t Q never s) : wpAny M A t Q E s := wpAny_mono h (fun _ _ x => x) fun _ _ x => x.elim

/-- the step after a single item was drawn -/
theorem draw_fin {src : Src} {k : Nat} {I : Addr} {fp : List Addr} {tg : MTg} {target : PySem.Expr} {v : V} {v' : Value} {L : Loc → Prop} {A : Around} {s s1 : Shared} {Ks : Shared → Prop} {c : String} {fs : Array Value} {o : Obj}
    (ok : X.Ok) (eo : EnvOk X env) (rm : Room n A) (Iv : Invt X env loc Γ s.heap) (ap : Apart X env Γ fp) (ht : TgIs env.scope target tg)
    (kp : ∀ b o, s.heap.get? b = some o → b ∉ fp → s1.heap.get? b = some o) (hg : s1.gens = s.gens) (hos : s1.os = s.os) (hat : SrcAt src (k + 1) I fp s1.heap)
    (ho : s1.heap.get? I = some o) (hc : o.cls = .type c) (hd : o.data = .fields fs) (hn : ["enumerate", "zip", "dict_itemiterator", "dict_reverseitemiterator", "odict_iterator", "itertools.zip_longest", "itertools.pairwise"].contains c = false)
    (r : VR v v') (hw : tgW Γ loc tg [v] L) (hs : ∀ l, L l → ∀ s', Invt X env l Γ s'.heap → TrX fp env Γ s Γ s' → SrcAt src (k + 1) I fp s'.heap → Ks s') :
    wpAny X.M A (letOwnedTupleGo target (.ref I) v') (fun _ s2 => wpAny X.M A (assign target env v') (fun _ s3 => Ks s3) never s2) never s1 := by
  refine letOwned_plain ht ho hc hd hn ?_
  have I1 := Iv.butFp ap kp
  refine assign_one ht hw r ok eo rm I1 fun l s' hl I2 T => hs l hl s' I2 ?_ ?_
  · exact ⟨fun b o e hf hk hp => T.keep b o (kp b o e hp) hf hk, fun k hk => .inl hk, T.gens.trans hg, T.os.trans hos⟩
  · exact hat.keeps fun b hb o e => T.keep b o e (ap b hb).2.1 (ap b hb).1

theorem draw_fin2 {src : Src} {k : Nat} {I t : Addr} {fp : List Addr} {tg : MTg} {target : PySem.Expr} {u v : V} {u' v' : Value} {m : Nat} {L : Loc → Prop} {A : Around} {s s1 : Shared} {Ks : Shared → Prop}
    (ok : X.Ok) (eo : EnvOk X env) (rm : Room n A) (Iv : Invt X env loc Γ s.heap) (ap : Apart X env Γ fp) (ht : TgIs env.scope target tg)
    (kp : ∀ b o, s.heap.get? b = some o → b ∉ fp → s1.heap.get? b = some o) (hg : s1.gens = s.gens) (hos : s1.os = s.os)
    (htup : s1.heap.get? t = some { cls := .type "tuple", data := .seq #[u', v'] m }) (ru : VR u u') (rv : VR v v') (hw : tgW Γ loc tg [u, v] L)
    (hlet : ∀ (Qc : Unit → Shared → Prop) elts x1 pos, target = .Tuple elts x1 pos → (∀ h', SrcAt src (k + 1) I fp h' → (∀ b o, s1.heap.get? b = some o → b ∉ fp → h'.get? b = some o) → Qc () { s1 with heap := h' }) → wpAny X.M A (letOwnedTupleGo target (.ref I) (.ref t)) Qc never s1) (htn : t ∉ fp)
    (hs : ∀ l, L l → ∀ s', Invt X env l Γ s'.heap → TrX fp env Γ s Γ s' → SrcAt src (k + 1) I fp s'.heap → Ks s') :
    wpAny X.M A (letOwnedTupleGo target (.ref I) (.ref t)) (fun _ s2 => wpAny X.M A (assign target env (.ref t)) (fun _ s3 => Ks s3) never s2) never s1 := by
  cases ht with
  | loc => exact hw.elim
  | @two x y px py p kk i j hx hkx hy hky =>
    have hw' : L ((loc.set i (some u)).set j (some v)) := by
      cases u <;> exact hw
    refine hlet _ _ _ _ rfl fun h' hat k' => ?_
    have kp2 : ∀ b o, s.heap.get? b = some o → b ∉ fp → h'.get? b = some o := fun b o e hp => k' b o (kp b o e hp) hp
    have I2 := Iv.butFp (h' := h') ap kp2
    refine tri_assignTwo (s := { s1 with heap := h' }) hx hkx hy hky ru rv (Q := fun _ l g => l = (loc.set _ (some u)).set _ (some v) ∧ g = Γ) ⟨rfl, rfl⟩ ok eo rm I2 (k' t _ htup htn) fun b a l g s' q I3 T => ?_
    obtain ⟨rfl, rfl⟩ := q
    refine hs _ hw' s' I3 ?_ ?_
    · exact ⟨fun b o e hf hk hp => T.keep b o (kp2 b o e hp) hf hk, fun k hk => .inl hk, T.gens.trans hg, T.os.trans hos⟩
    · exact hat.keeps fun b hb o e => T.keep b o e (ap b hb).2.1 (ap b hb).1

theorem EsR.length {es : List (Int × V)} {kvs : List (Int × Value)} (h : EsR es kvs) : kvs.length = es.length := by
  induction h with
  | nil => rfl
  | cons _ _ ih => rw [List.length_cons, List.length_cons, ih]
theorem EsR.get' {es : List (Int × V)} {kvs : List (Int × Value)} (h : EsR es kvs) {k : Nat} {p : Int × V} (e : es[k]? = some p) : ∃ v', kvs[k]? = some (p.1, v') := by
  induction h generalizing k with
  | nil => cases e
  | cons r _ ih =>
    cases k with
    | zero => cases e; exact ⟨_, rfl⟩
    | succ k => exact ih e
theorem intKind_out {prog : Program} {w : World} {k : Int} {v : Value} (h : (PySem.intKind prog w).is k v = true) : ∃ t, v = .int k t := by
  cases v with
  | int i t =>
    have : i = k := by simpa [PySem.intKind, Value.isInt] using h
    subst this
    exact ⟨t, rfl⟩
  | _ => simp [PySem.intKind, Value.isInt] at h
theorem size_notin {h : Heap} {fp : List Addr} (k : ∀ x ∈ fp, ∃ o, h.get? x = some o) : h.objs.size ∉ fp := fun z => by
  obtain ⟨o, ho⟩ := k _ z
  exact absurd (Heap.lt_size ho) (Nat.lt_irrefl _)
theorem draw {src : Src} {k : Nat} {I : Addr} {fp : List Addr} {tg : MTg} {target : PySem.Expr} {P : Option (List V) → Prop} {A : Around} {s : Shared} {Kn Ks : Shared → Prop}
    (ok : X.Ok) (eo : EnvOk X env) (rm : Room n A) (Iv : Invt X env loc Γ s.heap) (hat : SrcAt src k I fp s.heap) (ap : Apart X env Γ fp) (ht : TgIs env.scope target tg) (hw : nextW Γ k src P)
    (hnone : P none → ∀ s', Invt X env loc Γ s'.heap → TrX fp env Γ s Γ s' → Kn s')
    (hsome : ∀ vs, P (some vs) → ∃ L : Loc → Prop, tgW Γ loc tg vs L ∧ ∀ l, L l → ∀ s', Invt X env l Γ s'.heap → TrX fp env Γ s Γ s' → SrcAt src (k + 1) I fp s'.heap → Ks s') :
    wpAny X.M A (pyNext (.ref I)) (fun r s1 => match r with
      | none => Kn s1
      | some v => wpAny X.M A (letOwnedTupleGo target (.ref I) v) (fun _ s2 => wpAny X.M A (assign target env v) (fun _ s3 => Ks s3) never s2) never s1) never s := by
  have fin : ∀ h', P none → (∀ b o, s.heap.get? b = some o → b ∉ fp → h'.get? b = some o) → Kn { s with heap := h' } := fun h' p kp =>
    hnone p _ (Iv.butFp ap kp) ⟨fun b o e _ _ hp => kp b o e hp, fun _ h => .inl h, rfl, rfl⟩
  cases src with
  | rng lo hi =>
    obtain ⟨rfl, e⟩ := hat
    unfold rngLeft at e
    by_cases hl : lo + k < hi
    · obtain ⟨L, hL, hs⟩ := hsome _ (hw.1 hl)
      rw [if_pos (by omega)] at e
      refine wpAny_pyNext_range_item e (by omega) fun h' hit hsb => ?_
      have hat : SrcAt (.rng lo hi) (k + 1) I [I] h' := ⟨rfl, by
        unfold rngLeft
        rw [if_pos (by omega)]
        have q1 : lo + (k : Int) + 1 = lo + ((k + 1 : Nat) : Int) := by omega
        have q2 : hi - lo - (k : Int) - 1 = hi - lo - ((k + 1 : Nat) : Int) := by omega
        rw [← q1, ← q2]; exact hit⟩
      exact draw_fin (s1 := { s with heap := h', toks := s.toks + 1 }) ok eo rm Iv ap ht (fun b o e' hp => (hsb.2 b fun z => hp (by rw [z]; simp)).trans e') rfl rfl hat hit rfl rfl (by decide) (show VR (.int (lo + k)) _ from ⟨_, rfl⟩) hL hs
    · refine wpAny_pyNext_range_end rm.hd e (by split <;> omega) fun h' he => fin h' (hw.2 (by omega)) fun b o e' hp => he b o (fun z => hp (by rw [z]; simp)) e'
  | list a =>
    obtain ⟨rfl, hit⟩ := hat
    obtain ⟨xs, hm, h1, h2⟩ := hw
    obtain ⟨vs, hl, rl⟩ := list_of (Iv.led _ hm)
    cases hx : xs[k]? with
    | some x =>
      obtain ⟨L, hL, hs⟩ := hsome _ (h1 x hx)
      obtain ⟨v', hv', rv⟩ := rl.get' hx
      refine wpAny_pyNext_list_item hit hl (by simpa using hv') fun h' hit' hsb => ?_
      obtain ⟨o, ho, hc, hd⟩ := id hit'
      exact draw_fin (src := .list a) (k := k) (s1 := { s with heap := h' }) ok eo rm Iv ap ht (fun b o e' hp => (hsb.2 b fun z => hp (by rw [z]; simp)).trans e') rfl rfl ⟨rfl, hit'⟩ ho hc hd (by decide) rv hL hs
    | none =>
      have hlen := List.getElem?_eq_none_iff.mp hx
      refine wpAny_pyNext_list_end rm.hd hit hl (by simpa using rl.get_none hlen) fun h' he => fin h' (h2 hlen) fun b o e' hp => he b o (fun z => hp (by rw [z]; simp)) e'
  | tup a =>
    obtain ⟨rfl, hit⟩ := hat
    obtain ⟨xs, hm, h1, h2⟩ := hw
    obtain ⟨vs, hl, rl⟩ := tup_of (Iv.led _ hm)
    cases hx : xs[k]? with
    | some x =>
      obtain ⟨L, hL, hs⟩ := hsome _ (h1 x hx)
      obtain ⟨v', hv', rv⟩ := rl.get' hx
      refine wpAny_pyNext_tuple_item hit hl (by simpa using hv') fun h' hit' hsb => ?_
      obtain ⟨o, ho, hc, hd⟩ := id hit'
      exact draw_fin (src := .tup a) (k := k) (s1 := { s with heap := h' }) ok eo rm Iv ap ht (fun b o e' hp => (hsb.2 b fun z => hp (by rw [z]; simp)).trans e') rfl rfl ⟨rfl, hit'⟩ ho hc hd (by decide) rv hL hs
    | none =>
      have hlen := List.getElem?_eq_none_iff.mp hx
      refine wpAny_pyNext_tuple_end rm.hd hit hl (by simpa using rl.get_none hlen) fun h' he => fin h' (h2 hlen) fun b o e' hp => he b o (fun z => hp (by rw [z]; simp)) e'
  | rev a m =>
    obtain ⟨rfl, hkm, hit⟩ := hat
    obtain ⟨xs, hm, hlen, h1, h2⟩ := hw
    obtain ⟨vs, hl, rl⟩ := list_of (Iv.led _ hm)
    by_cases hk : k < m
    · have hx : ∃ x, xs[m - 1 - k]? = some x := ⟨_, List.getElem?_eq_getElem (by omega)⟩
      obtain ⟨x, hx⟩ := hx
      obtain ⟨L, hL, hs⟩ := hsome _ (h1 x hk hx)
      obtain ⟨v', hv', rv⟩ := rl.get' hx
      have q : (m : Int) - 1 - k = ((m - 1 - k : Nat) : Int) := by omega
      rw [q] at hit
      refine wpAny_pyNext_rev_item hit hl (by simpa using hv') fun h' hit' hsb => ?_
      have q2 : ((m - 1 - k : Nat) : Int) - 1 = (m : Int) - 1 - ((k + 1 : Nat) : Int) := by omega
      rw [q2] at hit'
      obtain ⟨o, ho, hc, hd⟩ := id hit'
      exact draw_fin (src := .rev a m) (k := k) (s1 := { s with heap := h' }) ok eo rm Iv ap ht (fun b o e' hp => (hsb.2 b fun z => hp (by rw [z]; simp)).trans e') rfl rfl ⟨rfl, by omega, hit'⟩ ho hc hd (by decide) rv hL hs
    · have q : (m : Int) - 1 - k = -1 := by omega
      rw [q] at hit
      exact wpAny_pyNext_rev_end rm.hd hit fun h' he => fin h' (h2 (by omega)) fun b o e' hp => he b o (fun z => hp (by rw [z]; simp)) e'
  | dict a ep m =>
    obtain ⟨rfl, hit⟩ := hat
    obtain ⟨es, hm, hlen, h1, h2⟩ := hw
    obtain ⟨_, kvs, hd, rl⟩ := Iv.led _ hm
    have hl := rl.length
    rw [← hlen, ← hl] at hit
    cases hx : es[k]? with
    | some x =>
      obtain ⟨L, hL, hs⟩ := hsome _ (h1 x hx)
      obtain ⟨v', hv'⟩ := rl.get' hx
      refine wpAny_pyNext_dict_item hit hd hv' fun key h' hkey hit' hsb => ?_
      obtain ⟨t, rfl⟩ := intKind_out hkey
      obtain ⟨o, ho, hc, hd'⟩ := id hit'
      refine draw_fin (src := .dict a ep m) (k := k) (s1 := { s with heap := h' }) ok eo rm Iv ap ht (fun b o e' hp => (hsb.2 b fun z => hp (by rw [z]; simp)).trans e') rfl rfl ⟨rfl, ?_⟩ ho hc hd' (by decide) (show VR (.int x.1) _ from ⟨t, rfl⟩) hL hs
      rw [← hlen, ← hl]
      exact hit'
    | none =>
      have hlen' := List.getElem?_eq_none_iff.mp hx
      exact wpAny_pyNext_dict_end rm.hd hit hd (List.getElem?_eq_none (by omega)) fun h' he => fin h' (h2 (by omega)) fun b o e' hp => he b o (fun z => hp (by rw [z]; simp)) e'
  | enum a =>
    obtain ⟨i2, old, rfl, ne, he, hit⟩ := hat
    obtain ⟨xs, hm, h1, h2⟩ := hw
    obtain ⟨vs, hl, rl⟩ := list_of (Iv.led _ hm)
    cases hx : xs[k]? with
    | some x =>
      obtain ⟨L, hL, hs⟩ := hsome _ (h1 x hx)
      obtain ⟨v', hv', rv⟩ := rl.get' hx
      refine wpAny_pyNext_enum_item he hit hl (by simpa using hv') ne fun h' he' hit' htup hsz kp => ?_
      have htn : s.heap.objs.size ∉ [I, i2] := by
        obtain ⟨o, ho, _⟩ := hit
        exact size_notin (by intro x hx; simp at hx; rcases hx with rfl | rfl <;> first | exact ⟨_, he⟩ | exact ⟨_, ho⟩)
      refine draw_fin2 (src := .enum a) (k := k) (I := I) (s1 := { s with heap := h', toks := s.toks + 1 }) ok eo rm Iv ap ht (fun b o e' hp => kp b o (fun z => hp (by rw [z]; simp)) (fun z => hp (by rw [z]; simp)) e') rfl rfl htup (show VR (.int k) _ from ⟨_, rfl⟩) rv hL ?_ htn hs
      intro Qc elts x1 pos et q
      subst et
      refine wpAny_letOwnedTupleGo_enum he' fun h'' he'' hsb => q h'' ⟨i2, v', rfl, ne, ?_, ?_⟩ fun b o e' hp => (hsb.2 b fun z => hp (by rw [z]; simp)).trans e'
      · have : ((k + 1 : Nat) : Int) = (k : Int) + 1 := by omega
        rw [this]; exact he''
      · obtain ⟨o, ho, r⟩ := hit'
        exact ⟨o, (hsb.2 i2 fun z => ne z.symm).trans ho, r⟩
    | none =>
      have hlen := List.getElem?_eq_none_iff.mp hx
      exact wpAny_pyNext_enum_end rm.hd he hit hl (by simpa using rl.get_none hlen) fun h' hk => fin h' (h2 hlen) fun b o e' hp => hk b o (fun z => hp (by rw [z]; simp)) e'
  | zip a b =>
    obtain ⟨TI, TO, i1, i2, x0, y0, rfl, nd, hz, hTI, hTO, hi1, hi2⟩ := hat
    obtain ⟨xs, ys, hm1, hm2, h1, h2⟩ := hw
    obtain ⟨vs, hl1, rl1⟩ := list_of (Iv.led _ hm1)
    obtain ⟨ws, hl2, rl2⟩ := list_of (Iv.led _ hm2)
    have na : ∀ x ∈ [I, TI, TO, i1, i2], a ≠ x := fun x hx z => (ap x hx).1 (z ▸ mem_keys hm1 (by simp [kf]))
    have nb : ∀ x ∈ [I, TI, TO, i1, i2], b ≠ x := fun x hx z => (ap x hx).1 (z ▸ mem_keys hm2 (by simp [kf]))
    simp only [List.nodup_cons, List.mem_cons, not_or, List.not_mem_nil, not_false_eq_true, List.nodup_nil, and_true] at nd
    obtain ⟨⟨n1, n2, n3, n4⟩, ⟨n5, n6, n7⟩, ⟨n8, n9⟩, n10⟩ := nd
    have D : ZipApart I TI TO i1 i2 a b := ⟨Ne.symm n1, Ne.symm n2, Ne.symm n3, Ne.symm n4, n5, n6, n7, n8, n9, n10, na _ (by simp), na _ (by simp), na _ (by simp), na _ (by simp), nb _ (by simp), nb _ (by simp), nb _ (by simp), nb _ (by simp)⟩
    by_cases hx : k < xs.length ∧ k < ys.length
    · have ex : xs[k]? = some xs[k] := List.getElem?_eq_getElem hx.1
      have ey : ys[k]? = some ys[k] := List.getElem?_eq_getElem hx.2
      obtain ⟨L, hL, hs⟩ := hsome _ (h1 _ _ ex ey)
      obtain ⟨v1, hv1, rv1⟩ := rl1.get' ex
      obtain ⟨v2, hv2, rv2⟩ := rl2.get' ey
      refine wpAny_pyNext_zip_item D hz hTI hTO hi1 hi2 hl1 hl2 (by simpa using hv1) (by simpa using hv2) fun h' hz' hTO' hi1' hi2' htup hsz kp => ?_
      have htn : s.heap.objs.size ∉ [I, TI, TO, i1, i2] := by
        obtain ⟨o4, e4, _⟩ := hi1
        obtain ⟨o5, e5, _⟩ := hi2
        exact size_notin (by intro x hx; simp at hx; rcases hx with rfl | rfl | rfl | rfl | rfl <;> first | exact ⟨_, hz⟩ | exact ⟨_, hTI⟩ | exact ⟨_, hTO⟩ | exact ⟨_, e4⟩ | exact ⟨_, e5⟩)
      have hTI' : IsPair h' TI (.ref i1) (.ref i2) := kp _ _ D.TIz D.TITO D.TIi1 D.TIi2 hTI
      refine draw_fin2 (src := .zip a b) (k := k) (I := I) (s1 := { s with heap := h' }) ok eo rm Iv ap ht (fun b o e' hp => kp b o (fun z => hp (by rw [z]; simp)) (fun z => hp (by rw [z]; simp)) (fun z => hp (by rw [z]; simp)) (fun z => hp (by rw [z]; simp)) e') rfl rfl htup rv1 rv2 hL ?_ htn hs
      intro Qc elts x1 pos et q
      subst et
      refine wpAny_letOwnedTupleGo_zip hz' fun h'' hz'' hsb => q h'' ⟨TI, TO, i1, i2, v1, v2, rfl, ?_, hz'', (hsb.2 _ D.TIz).trans hTI', (hsb.2 _ D.TOz).trans hTO', ?_, ?_⟩ fun b o e' hp => (hsb.2 b fun z => hp (by rw [z]; simp)).trans e'
      · simp only [List.nodup_cons, List.mem_cons, not_or, List.not_mem_nil, not_false_eq_true, List.nodup_nil, and_true]
        exact ⟨⟨n1, n2, n3, n4⟩, ⟨n5, n6, n7⟩, ⟨n8, n9⟩, n10⟩
      · obtain ⟨o, ho, r⟩ := hi1'
        exact ⟨o, (hsb.2 i1 D.i1z).trans ho, r⟩
      · obtain ⟨o, ho, r⟩ := hi2'
        exact ⟨o, (hsb.2 i2 D.i2z).trans ho, r⟩
    · have hend : xs.length ≤ k ∨ ys.length ≤ k := by omega
      refine wpAny_pyNext_zip_end rm.hd D hz hTI hTO hi1 hi2 hl1 hl2 ?_ fun h' kp => fin h' (h2 hend) fun b o e' hp => kp b o (fun z => hp (by rw [z]; simp)) (fun z => hp (by rw [z]; simp)) (fun z => hp (by rw [z]; simp)) (fun z => hp (by rw [z]; simp)) e'
      rcases hend with h | h
      · exact .inl (by simpa using rl1.get_none h)
      · exact .inr (by simpa using rl2.get_none h)
end Mine


open PySem PySem.W PyProof.Rows PySem.Calls
set_option Elab.async false
set_option maxRecDepth 100000
set_option linter.unusedVariables false
namespace Mine
def enumObj (it : Value) : Obj := { cls := .type "enumerate", data := .fields #[.none, .bool false, it, rawInt 0, .none, .none] }
set_option maxHeartbeats 4000000 in
theorem enum_new_in {prog : Program} {w : World} (v : Value) : MeetsIn prog w (Builtin.«enumerate.__new__» ⟨[.type "enumerate", v], []⟩) (fun A R s =>
    wpAny (model prog w) A.in1 (pyIter v) (fun it s' => R (.ok (.ret (.ref s'.heap.objs.size))) { s' with heap := s'.heap.push (enumObj it) }) never s) :=
  .of_wp fun A R s h => by
    have hsub := sub_enumerate
    have hit : ∀ {Q : Value → Shared → Prop} {E : Value → Shared → Prop}, (∀ it s', R (.ok (.ret (.ref s'.heap.objs.size))) { s' with heap := s'.heap.push (enumObj it) } → Q it s') → wpAny (model prog w) A.in1 (pyIter v) Q E s :=
      fun hq => wpAny_mono h (fun it s' z => hq it s' z) fun _ _ z => z.elim
    wp_walk
    refine wpAny_stack_any fun st => wpAny_pure ?_
    split
    · rename_i c _ _ _ _ _
      cases (c == Value.type "enumerate")
      · wp_walk using hit
        intro it s' hR
        wp_walk
        exact ⟨_, rfl, hR⟩
      · wp_walk using hit
        intro it s' hR
        wp_walk
        exact ⟨_, rfl, hR⟩
    · wp_walk using hit
      intro it s' hR
      wp_walk
      exact ⟨_, rfl, hR⟩
def zipObj (T1 T2 : Addr) : Obj := { cls := .type "zip", data := .fields #[.none, .bool false, .bool false, .ref T1, .ref T2] }
set_option maxHeartbeats 4000000 in
theorem zip_new_in {prog : Program} {w : World} (u v : Value) : MeetsIn prog w (Builtin.«zip.__new__» ⟨[.type "zip", u, v], []⟩) (fun A R s =>
    wpAny (model prog w) A.in1 (pyIter u) (fun i1 s1 => wpAny (model prog w) A.in1 (pyIter v) (fun i2 s2 =>
      R (.ok (.ret (.ref (s2.heap.objs.size + 1 + 1)))) { s2 with heap := ((s2.heap.push { cls := .type "tuple", data := .seq #[i1, i2] }).push { cls := .type "tuple", data := .seq #[.none, .none] }).push (zipObj s2.heap.objs.size (s2.heap.objs.size + 1)) }) never s1) never s) :=
  .of_wp fun A R s h => by
    have hsub := sub_zip
    have hit : ∀ {Q : Value → Shared → Prop} {E : Value → Shared → Prop}, (∀ i1 s1, wpAny (model prog w) A.in1 (pyIter v) (fun i2 s2 =>
      R (.ok (.ret (.ref (s2.heap.objs.size + 1 + 1)))) { s2 with heap := ((s2.heap.push { cls := .type "tuple", data := .seq #[i1, i2] }).push { cls := .type "tuple", data := .seq #[.none, .none] }).push (zipObj s2.heap.objs.size (s2.heap.objs.size + 1)) }) never s1 → Q i1 s1) → wpAny (model prog w) A.in1 (pyIter u) Q E s :=
      fun hq => wpAny_mono h (fun it s' z => hq it s' z) fun _ _ z => z.elim
    wp_walk using hit
    intro i1 s1 h1
    have hit2 : ∀ {Q : Value → Shared → Prop} {E : Value → Shared → Prop}, (∀ i2 s2, R (.ok (.ret (.ref (s2.heap.objs.size + 1 + 1)))) { s2 with heap := ((s2.heap.push { cls := .type "tuple", data := .seq #[i1, i2] }).push { cls := .type "tuple", data := .seq #[.none, .none] }).push (zipObj s2.heap.objs.size (s2.heap.objs.size + 1)) } → Q i2 s2) → wpAny (model prog w) A.in1 (pyIter v) Q E s1 :=
      fun hq => wpAny_mono h1 (fun it s' z => hq it s' z) fun _ _ z => z.elim
    wp_walk using hit2
    intro i2 s2 hR
    wp_walk
    refine ⟨_, rfl, ?_⟩
    simpa [Heap.size_push, zipObj, Builtin.SmallTypes.ownedTupleFields] using hR
section
variable {prog : Program} {w : World} {A : Around} {E : Value → Shared → Prop} {s : Shared}
theorem call_enumerate_any {v : Value} {Q : Value → Shared → Prop} (h : wpAny (model prog w) A.in1.in1 (pyIter v) (fun it s' => Q (.ref s'.heap.objs.size) { s' with heap := s'.heap.push (enumObj it) }) never s) :
    wpAny (model prog w) A (call (.type "enumerate") [v]) Q E s :=
  callType_newIn F.called_enumerate (by decide) (F.typeCall_enumerate_1 _) (F.newCall_enumerate_1 _) (fun obj => F.args_object_init_2 obj _) F.entry_enumerate_new (enum_new_in v)
    (wpAny_mono h (fun it s' q => ⟨⟨_, Heap.get?_push_size _ rfl, rfl⟩, q⟩) fun _ _ z => z)
theorem call_zip_any {u v : Value} {Q : Value → Shared → Prop} (h : wpAny (model prog w) A.in1.in1 (pyIter u) (fun i1 s1 => wpAny (model prog w) A.in1.in1 (pyIter v) (fun i2 s2 =>
      Q (.ref (s2.heap.objs.size + 1 + 1)) { s2 with heap := ((s2.heap.push { cls := .type "tuple", data := .seq #[i1, i2] }).push { cls := .type "tuple", data := .seq #[.none, .none] }).push (zipObj s2.heap.objs.size (s2.heap.objs.size + 1)) }) never s1) never s) :
    wpAny (model prog w) A (call (.type "zip") [u, v]) Q E s :=
  callType_newIn F.called_zip (by decide) (F.typeCall_zip_2 _ _) (F.newCall_zip_2 _ _) (fun obj => F.args_object_init_3 obj _ _) F.entry_zip_new (zip_new_in u v)
    (wpAny_mono h (fun i1 s1 q => wpAny_mono q (fun i2 s2 q => ⟨⟨_, by
      have e : s2.heap.objs.size + 1 + 1 = ((s2.heap.push { cls := .type "tuple", data := .seq #[i1, i2] }).push { cls := .type "tuple", data := .seq #[.none, .none] }).objs.size := by simp [Heap.size_push]
      rw [e]; exact Heap.get?_push_size _ rfl, rfl⟩, q⟩) fun _ _ z => z) fun _ _ z => z)
end
variable {X : Cx} {n : Nat} {env : Env} {loc : Loc} {Γ : Led}

/-- a call of a built-in class by its name -/
theorem call_named {T : Tab} (tok : TabOk T X) {x : Str} {p pos : Pos} {ty : String} {es : List PySem.Expr} {as : MEs} {Q : List V → Led → Prop} {A : Around} {s : Shared} {Kv : Value → Shared → Prop} (hg : globIs T env.scope x (.type ty) = true) (hp : es.all plainArg = true)
    (hes : SEs X n env es as) (q : wpEs X n as loc Γ Q) (ok : X.Ok) (eo : EnvOk X env) (rm : Room n A) (I : Invt X env loc Γ s.heap)
    (h : ∀ vs vs' Γ' s', Q vs Γ' → VRs vs vs' → Invt X env loc Γ' s'.heap → Tr env Γ s Γ' s' → wpAny X.M A (call (.type ty) vs') Kv never s') : wpAny X.M A (eval (.Call (.Name x p) es [] pos) env) Kv never s := by
  unfold globIs at hg
  simp only [Bool.and_eq_true, bne_iff_ne, ne_eq, beq_iff_eq] at hg
  obtain ⟨⟨h1, h2⟩, h3⟩ := hg
  have e : eval (.Call (.Name x p) es [] pos) env = (do callWith pos (← eval (.Name x p) env) [] (backTo pos (starEach es env)) []) := rfl
  rw [e, eval_Name env x p (by simpa using h1)]
  refine wpAny_bind (wpAny_bind (wpAny_standAt ?_))
  refine tri_glob (Q := fun v g => v = .val (.type ty) ∧ g = Γ) h2 (fun o => tok.glob o x _ h3) ⟨rfl, rfl⟩ A s _ ok eo rm I fun v v' l g s1 hv rv I1 T1 => ?_
  obtain ⟨rfl, rfl, rfl⟩ := hv
  cases (show v' = .type ty from rv)
  unfold callWith
  refine wpAny_bind (wpAny_holding (tri_evalArgs hp (hes pos l g Q q) A s1 _ ok eo rm I1 fun vs a l' g' s2 hq hr I2 T2 => ?_))
  obtain ⟨rfl, hq⟩ := hq
  obtain ⟨hkw, hr⟩ := hr
  refine wpAny_bind (wpAny_standAt ?_)
  simp only [backTo_plain hp, List.any_nil, Bool.or_false]
  rw [hkw]
  refine wpAny_bind (m := keeperOf (.type ty)) (wpAny_pure ?_)
  exact wpAny_bind (wpAny_mono (h vs a.pos g' s2 hq hr I2 (T1.trans T2 I2)) (fun r s3 hr => wpAny_bind (wpAny_holding (wpAny_point (wpAny_pure hr)))) fun _ _ x => x)

/-- the iterable of a loop -/
def SI (X : Cx) (n : Nat) (env : Env) (e : PySem.Expr) (m : MI) : Prop := ∀ loc Γ Q, wpI X n m loc Γ Q → ∀ A s (Ks : Value → Shared → Prop), X.Ok → EnvOk X env → Room n A → Invt X env loc Γ s.heap →
  (∀ src Γ' I fp s', Q src Γ' → Invt X env loc Γ' s'.heap → Tr env Γ s Γ' s' → SrcAt src 0 I fp s'.heap → (∀ x ∈ fp, ∀ o, s.heap.get? x = some o → x ∈ keys Γ ∨ footF env x) → Apart X env Γ' fp → Ks (.ref I) s') →
  wpAny X.M A (eval e env) (fun x s1 => wpAny X.M A (pyIter x) Ks never s1) never s

theorem apart_new {s : Shared} {fp : List Addr} (I : Invt X env loc Γ s.heap) (h : ∀ x ∈ fp, s.heap.get? x = none) : Apart X env Γ fp := fun x hx => by
  have hn := h x hx
  refine ⟨fun z => ?_, fun z => ?_, ?_⟩
  · obtain ⟨o, ho⟩ := I.keyThere z; rw [hn] at ho; cases ho
  · obtain ⟨o, ho⟩ := I.loc.foot_lt z; rw [hn] at ho; cases ho
  · cases q : X.hB.get? x with
    | none => rfl
    | some o => rw [I.base x o q] at hn; cases hn

theorem si_fin {src : Src} {Γ' : Led} {I : Addr} {fp : List Addr} {s s1 s2 : Shared} {Q : Src → Led → Prop} {Ks : Value → Shared → Prop} (q : Q src Γ') (I1 : Invt X env loc Γ' s1.heap) (T1 : Tr env Γ s Γ' s1)
    (kp : ∀ b o, s1.heap.get? b = some o → s2.heap.get? b = some o) (hg : s2.gens = s1.gens) (ho : s2.os = s1.os) (hat : SrcAt src 0 I fp s2.heap) (hn : ∀ x ∈ fp, s1.heap.get? x = none)
    (k : ∀ src Γ' I fp s', Q src Γ' → Invt X env loc Γ' s'.heap → Tr env Γ s Γ' s' → SrcAt src 0 I fp s'.heap → (∀ x ∈ fp, ∀ o, s.heap.get? x = some o → x ∈ keys Γ ∨ footF env x) → Apart X env Γ' fp → Ks (.ref I) s') : Ks (.ref I) s2 :=
  k src Γ' I fp s2 q (I1.still kp) (T1.trans (Tr.still kp hg ho) (I1.still kp)) hat (fun x hx o e => Classical.byContradiction fun z => by
    rw [not_or] at z
    have := T1.keep x o e z.2 z.1
    rw [hn x hx] at this; cases this) (apart_new I1 hn)

theorem get?_size {h : Heap} : h.get? h.objs.size = none := Heap.get?_none_of_le (Nat.le_refl _)

theorem not_sysModules (ok : X.Ok) {a : Addr} (h : X.hB.objs.size ≤ a) : (a == sysModules) = false := by
  obtain ⟨mc, ⟨o, es, ep, e, _⟩, _⟩ := ok.nolimit
  have h1 := Heap.lt_size e
  refine beq_eq_false_iff_ne.mpr fun z => ?_
  have h5 : (2 : Nat) < X.hB.objs.size := h1
  have h4 : X.hB.objs.size ≤ (1 : Nat) := by rw [z] at h; exact h
  exact absurd (Nat.lt_of_lt_of_le h5 h4) (by decide)
theorem si_over {e : PySem.Expr} {m : ME} (he : SE X n env e m) : SI X n env e (.over m) := by
  intro loc Γ Q q A s Ks ok eo rm I k
  refine he loc Γ _ q A s _ ok eo rm I fun v v' l g s1 hv rv I1 T1 => ?_
  obtain ⟨rfl, a, rfl, hv⟩ := hv
  cases (show v' = .ref a from rv)
  rcases hv with ⟨xs, hm, hq⟩ | ⟨xs, hm, hq⟩ | ⟨es, ep, hm, hq⟩
  · obtain ⟨vs, hl, rl⟩ := list_of (I1.led _ hm)
    refine wpAny_pyIter_list hl (si_fin (s1 := s1) hq I1 T1 (fun b o e => Heap.get?_push_of_some _ e) rfl rfl (src := .list a) (fp := [s1.heap.objs.size]) ⟨rfl, _, Heap.get?_push_size _ rfl, rfl, rfl⟩ (fun x hx => by rw [List.mem_singleton.mp hx]; exact get?_size) k)
  · obtain ⟨vs, hl, rl⟩ := tup_of (I1.led _ hm)
    refine wpAny_pyIter_tuple hl (si_fin (s1 := s1) hq I1 T1 (fun b o e => Heap.get?_push_of_some _ e) rfl rfl (src := .tup a) (fp := [s1.heap.objs.size]) ⟨rfl, _, Heap.get?_push_size _ rfl, rfl, rfl⟩ (fun x hx => by rw [List.mem_singleton.mp hx]; exact get?_size) k)
  · obtain ⟨hlo, kvs, hd, rl⟩ := I1.led _ hm
    have hs := not_sysModules ok hlo
    refine wpAny_pyIter_dict hs hd (si_fin (s1 := s1) hq I1 T1 (fun b o e => Heap.get?_push_of_some _ e) rfl rfl (src := .dict a ep es.length) (fp := [s1.heap.objs.size]) ⟨rfl, _, Heap.get?_push_size _ rfl, rfl, ?_⟩ (fun x hx => by rw [List.mem_singleton.mp hx]; exact get?_size) k)
    rw [rl.length]; rfl

def one1 (K : V → Led → Prop) : List V → Led → Prop := fun vs Γ => match vs with | [v] => K v Γ | _ => False
def two2 (K : V → V → Led → Prop) : List V → Led → Prop := fun vs Γ => match vs with | [u, v] => K u v Γ | _ => False
theorem VRs.one {v : V} {vs : List Value} (h : VRs [v] vs) : ∃ v', vs = [v'] ∧ VR v v' := by
  cases h with
  | cons r h => cases h with
    | nil => exact ⟨_, rfl, r⟩
theorem VRs.two {u v : V} {vs : List Value} (h : VRs [u, v] vs) : ∃ u' v', vs = [u', v'] ∧ VR u u' ∧ VR v v' := by
  cases h with
  | cons r h => cases h with
    | cons r2 h => cases h with
      | nil => exact ⟨_, _, rfl, r, r2⟩
theorem one1_out {K : V → Led → Prop} {vs : List V} {Γ : Led} (h : one1 K vs Γ) : ∃ v, vs = [v] ∧ K v Γ := by
  unfold one1 at h
  split at h
  · exact ⟨_, rfl, h⟩
  · exact h.elim
theorem two2_out {K : V → V → Led → Prop} {vs : List V} {Γ : Led} (h : two2 K vs Γ) : ∃ u v, vs = [u, v] ∧ K u v Γ := by
  unfold two2 at h
  split at h
  · exact ⟨_, _, rfl, h⟩
  · exact h.elim
/-- one argument -/
theorem call_named1 {T : Tab} (tok : TabOk T X) {x : Str} {p pos : Pos} {ty : String} {e : PySem.Expr} {m : ME} {K : V → Led → Prop} {A : Around} {s : Shared} {Kv : Value → Shared → Prop} (hg : globIs T env.scope x (.type ty) = true) (hp : plainArg e = true)
    (he : SE X n env e m) (q : wpE X n m loc Γ K) (ok : X.Ok) (eo : EnvOk X env) (rm : Room n A) (I : Invt X env loc Γ s.heap)
    (h : ∀ v v' Γ' s', K v Γ' → VR v v' → Invt X env loc Γ' s'.heap → Tr env Γ s Γ' s' → wpAny X.M A (call (.type ty) [v']) Kv never s') : wpAny X.M A (eval (.Call (.Name x p) [e] [] pos) env) Kv never s := by
  refine call_named tok hg (by simp [hp]) (ses_cons hp he ses_nil) (Q := one1 K) q ok eo rm I fun vs vs' g s1 hq hr I1 T1 => ?_
  obtain ⟨v, rfl, hq⟩ := one1_out hq
  obtain ⟨v', rfl, r⟩ := hr.one
  exact h v v' g s1 hq r I1 T1
theorem call_named2 {T : Tab} (tok : TabOk T X) {x : Str} {p pos : Pos} {ty : String} {e1 e2 : PySem.Expr} {m1 m2 : ME} {K : V → V → Led → Prop} {A : Around} {s : Shared} {Kv : Value → Shared → Prop} (hg : globIs T env.scope x (.type ty) = true) (hp1 : plainArg e1 = true) (hp2 : plainArg e2 = true)
    (he1 : SE X n env e1 m1) (he2 : SE X n env e2 m2) (q : wpE X n m1 loc Γ fun u Γ => wpE X n m2 loc Γ fun v Γ => K u v Γ) (ok : X.Ok) (eo : EnvOk X env) (rm : Room n A) (I : Invt X env loc Γ s.heap)
    (h : ∀ u v u' v' Γ' s', K u v Γ' → VR u u' → VR v v' → Invt X env loc Γ' s'.heap → Tr env Γ s Γ' s' → wpAny X.M A (call (.type ty) [u', v']) Kv never s') : wpAny X.M A (eval (.Call (.Name x p) [e1, e2] [] pos) env) Kv never s := by
  refine call_named tok hg (by simp [hp1, hp2]) (ses_cons hp1 he1 (ses_cons hp2 he2 ses_nil)) (Q := two2 K) q ok eo rm I fun vs vs' g s1 hq hr I1 T1 => ?_
  obtain ⟨u, v, rfl, hq⟩ := two2_out hq
  obtain ⟨u', v', rfl, r1, r2⟩ := hr.two
  exact h u v u' v' g s1 hq r1 r2 I1 T1

theorem si_rev {T : Tab} (tok : TabOk T X) {x : Str} {p pos : Pos} {e : PySem.Expr} {m : ME} (hg : globIs T env.scope x (.type "reversed") = true) (hp : plainArg e = true) (he : SE X n env e m) : SI X n env (.Call (.Name x p) [e] [] pos) (.rev m) := by
  intro loc Γ Q q A s Ks ok eo rm I k
  refine call_named1 tok hg hp he q ok eo rm I fun v v' g s1 hq r I1 T1 => ?_
  obtain ⟨a, xs, rfl, hm, hq⟩ := hq
  cases (show v' = Value.ref a from r)
  obtain ⟨vs, hl, rl⟩ := list_of (I1.led _ hm)
  have ho : (s1.heap.push (revObj a ((vs.toArray.size : Int) - 1))).get? s1.heap.objs.size = some (revObj a ((vs.toArray.size : Int) - 1)) := Heap.get?_push_size _ rfl
  refine call_reversed_list hl (wpAny_pyIter_revIter (i := (vs.toArray.size : Int) - 1) ⟨_, ho, rfl, rfl⟩ ?_)
  refine si_fin (s1 := s1) hq I1 T1 (fun b o e => Heap.get?_push_of_some _ e) rfl rfl (src := .rev a xs.length) (fp := [s1.heap.objs.size]) ⟨rfl, Nat.zero_le _, _, ho, rfl, ?_⟩ (fun x hx => by rw [List.mem_singleton.mp hx]; exact get?_size) k
  show Data.fields _ = Data.fields _
  rw [List.size_toArray, rl.length]
  simp
theorem rng_size (a b : Int) : Builtin.Range.rangeSize a b 1 = rngLeft a b := by
  unfold Builtin.Range.rangeSize rngLeft
  rw [if_pos (by decide)]
  split <;> omega
theorem si_rngAt {a b : Int} {t u v : Tok} {r : Addr} {Γ' : Led} {s s1 s2 : Shared} {Q : Src → Led → Prop} {Ks : Value → Shared → Prop} {A : Around} (h1 : -(2 ^ 62) ≤ a) (h2 : a < 2 ^ 62) (h3 : -(2 ^ 62) ≤ b) (h4 : b < 2 ^ 62) (q : Q (.rng a b) Γ') (I1 : Invt X env loc Γ' s1.heap) (T1 : Tr env Γ s Γ' s1)
    (kp : ∀ b o, s1.heap.get? b = some o → s2.heap.get? b = some o) (hg : s2.gens = s1.gens) (ho : s2.os = s1.os) (hr : IsRange s2.heap r a b 1 t u v) (hs : s2.heap.objs.size = s1.heap.objs.size + 1)
    (k : ∀ src Γ' I fp s', Q src Γ' → Invt X env loc Γ' s'.heap → Tr env Γ s Γ' s' → SrcAt src 0 I fp s'.heap → (∀ x ∈ fp, ∀ o, s.heap.get? x = some o → x ∈ keys Γ ∨ footF env x) → Apart X env Γ' fp → Ks (.ref I) s') : wpAny X.M A (pyIter (.ref r)) Ks never s2 := by
  refine wpAny_pyIter_range hr (small_one h1 h2 h3 h4) ?_
  refine si_fin (s1 := s1) (s2 := { s2 with heap := s2.heap.push _ }) q I1 T1 (fun b o e => Heap.get?_push_of_some _ (kp b o e)) hg ho (src := .rng a b) (fp := [s2.heap.objs.size]) ⟨rfl, ?_⟩ (fun x hx => by rw [List.mem_singleton.mp hx, hs]; exact Heap.get?_none_of_le (Nat.le_succ _)) k
  have e := Heap.get?_push_size s2.heap (o := { cls := .type "range_iterator", data := .fields #[rawInt a, rawInt (Builtin.Range.rangeSize a b 1), rawInt 1] }) rfl
  rw [rng_size] at e
  show IsRangeIter _ _ (a + ((0 : Nat) : Int)) (rngLeft a b - ((0 : Nat) : Int)) 1
  rw [show a + ((0 : Nat) : Int) = a by omega, show rngLeft a b - ((0 : Nat) : Int) = rngLeft a b by omega]
  rw [rng_size]
  exact e
theorem si_rng {T : Tab} (tok : TabOk T X) {x : Str} {p pos : Pos} {e : PySem.Expr} {m : ME} (hg : globIs T env.scope x (.type "range") = true) (hp : plainArg e = true) (he : SE X n env e m) : SI X n env (.Call (.Name x p) [e] [] pos) (.rng m) := by
  intro loc Γ Q q A s Ks ok eo rm I k
  refine call_named1 tok hg hp he q ok eo rm I fun v v' g s1 hq r I1 T1 => ?_
  obtain ⟨i, rfl, h1, h2, hq⟩ := hq
  obtain ⟨t, rfl⟩ := r
  refine call_range_1 ?_
  exact si_rngAt (s1 := s1) (by decide) (by decide) h1 h2 hq I1 T1 (fun b o e => Heap.get?_push_of_some _ e) rfl rfl (Heap.get?_push_size _ rfl) (Heap.size_push ..) k
theorem si_rng2 {T : Tab} (tok : TabOk T X) {x : Str} {p pos : Pos} {e1 e2 : PySem.Expr} {m1 m2 : ME} (hg : globIs T env.scope x (.type "range") = true) (hp1 : plainArg e1 = true) (hp2 : plainArg e2 = true) (he1 : SE X n env e1 m1) (he2 : SE X n env e2 m2) : SI X n env (.Call (.Name x p) [e1, e2] [] pos) (.rng2 m1 m2) := by
  intro loc Γ Q q A s Ks ok eo rm I k
  refine call_named2 tok hg hp1 hp2 he1 he2 q ok eo rm I fun u v u' v' g s1 hq r1 r2 I1 T1 => ?_
  obtain ⟨i, j, rfl, rfl, h1, h2, h3, h4, hq⟩ := hq
  obtain ⟨t, rfl⟩ := r1
  obtain ⟨t2, rfl⟩ := r2
  refine call_range_2 ?_
  exact si_rngAt (s1 := s1) h1 h2 h3 h4 hq I1 T1 (fun b o e => Heap.get?_push_of_some _ e) rfl rfl (Heap.get?_push_size _ rfl) (Heap.size_push ..) k

theorem Room.in2 {m : Nat} {A : Around} (r : Room (m + 1) A) : Room m A.in1.in1 := ⟨r.hd, by have := r.depth; show A.depth + m < _; omega, by have := r.units; show A.units + 1 + 1 + 8 * m < _; omega⟩
theorem fresh_of {Γ' : Led} {s s2 : Shared} {x : Addr} (T : Tr env Γ s Γ' s2) (h : s2.heap.get? x = none) (o : Obj) (e : s.heap.get? x = some o) : x ∈ keys Γ ∨ footF env x :=
  Classical.byContradiction fun z => by
    rw [not_or] at z
    have := T.keep x o e z.2 z.1
    rw [h] at this; cases this
theorem apart_one {h : Heap} {x : Addr} (I : Invt X env loc Γ h) (hn : h.get? x = none) : x ∉ keys Γ ∧ ¬ footF env x ∧ X.hB.get? x = none := by
  refine ⟨fun z => ?_, fun z => ?_, ?_⟩
  · obtain ⟨o, ho⟩ := I.keyThere z; rw [hn] at ho; cases ho
  · obtain ⟨o, ho⟩ := I.loc.foot_lt z; rw [hn] at ho; cases ho
  · cases q : X.hB.get? x with
    | none => rfl
    | some o => rw [I.base x o q] at hn; cases hn
theorem si_enum {T : Tab} (tok : TabOk T X) {x : Str} {p pos : Pos} {e : PySem.Expr} {m : ME} (hg : globIs T env.scope x (.type "enumerate") = true) (hp : plainArg e = true) (he : SE X n env e m) : SI X n env (.Call (.Name x p) [e] [] pos) (.enum m) := by
  intro loc Γ Q q A s Ks ok eo rm I k
  refine call_named1 tok hg hp he q ok eo rm I fun v v' g s1 hq r I1 T1 => ?_
  obtain ⟨mm, a, xs, rfl, hit, hm, hq⟩ := hq
  refine call_enumerate_any (hit v' r env loc A.in1.in1 s1 _ ok eo rm.in2 I1 fun J s2 hJ hJi I2 T2 => ?_)
  have he : IsEnum (s2.heap.push (enumObj (.ref J))) s2.heap.objs.size J 0 .none := Heap.get?_push_size _ rfl
  obtain ⟨oJ, hoJ, rJ⟩ := id hJi
  have kp : ∀ b o, s2.heap.get? b = some o → (s2.heap.push (enumObj (.ref J))).get? b = some o := fun b o e => Heap.get?_push_of_some _ e
  have T02 := T1.trans T2 I2
  refine wpAny_pyIter_enum he (k (.enum a) g s2.heap.objs.size [s2.heap.objs.size, J] { s2 with heap := s2.heap.push _ } hq (I2.still kp) (T02.trans (Tr.still kp rfl rfl) (I2.still kp)) ⟨J, .none, rfl, ?_, he, oJ, kp _ _ hoJ, rJ⟩ ?_ ?_)
  · exact fun z => absurd (Heap.lt_size hoJ) (by rw [z]; exact Nat.lt_irrefl _)
  · intro x hx
    simp at hx
    rcases hx with rfl | rfl
    · exact fresh_of T02 get?_size
    · exact fresh_of T1 hJ
  · intro x hx
    simp at hx
    rcases hx with rfl | rfl
    · exact apart_one I2 get?_size
    · exact apart_one I1 hJ
theorem si_zip {T : Tab} (tok : TabOk T X) {x : Str} {p pos : Pos} {e1 e2 : PySem.Expr} {m1 m2 : ME} (hg : globIs T env.scope x (.type "zip") = true) (hp1 : plainArg e1 = true) (hp2 : plainArg e2 = true) (he1 : SE X n env e1 m1) (he2 : SE X n env e2 m2) : SI X n env (.Call (.Name x p) [e1, e2] [] pos) (.zip m1 m2) := by
  intro loc Γ Q q A s Ks ok eo rm I k
  refine call_named2 tok hg hp1 hp2 he1 he2 q ok eo rm I fun u v u' v' g s1 hq r1 r2 I1 T1 => ?_
  obtain ⟨mm, a, b, xs, ys, rfl, hi1, hi2, hm1, hm2, hq⟩ := hq
  refine call_zip_any (hi1 u' r1 env loc A.in1.in1 s1 _ ok eo rm.in2 I1 fun J s2 hJ hJi I2 T2 => ?_)
  refine hi2 v' r2 env loc A.in1.in1 s2 _ ok eo rm.in2 I2 fun J2 s3 hJ2 hJi2 I3 T3 => ?_
  obtain ⟨o4, e4, r4⟩ := id hJi
  obtain ⟨o5, e5, r5⟩ := id hJi2
  have apJ := apart_one I1 hJ
  have e4' := T3.keep _ _ e4 apJ.2.1 apJ.1
  have T02 := T1.trans T2 I2
  have T03 := T02.trans T3 I3
  have l4 := Heap.lt_size e4'
  have l5 := Heap.lt_size e5
  have z1 : (s3.heap.push { cls := .type "tuple", data := .seq #[.ref J, .ref J2] }).objs.size = s3.heap.objs.size + 1 := Heap.size_push ..
  have z2 : ((s3.heap.push { cls := .type "tuple", data := .seq #[.ref J, .ref J2] }).push { cls := .type "tuple", data := .seq #[.none, .none] }).objs.size = s3.heap.objs.size + 1 + 1 := by rw [Heap.size_push, z1]
  have g1 : (((s3.heap.push { cls := .type "tuple", data := .seq #[.ref J, .ref J2] }).push { cls := .type "tuple", data := .seq #[.none, .none] }).push (zipObj s3.heap.objs.size (s3.heap.objs.size + 1))).get? (s3.heap.objs.size + 1 + 1) = some (zipObj s3.heap.objs.size (s3.heap.objs.size + 1)) := by
    rw [← z2]; exact Heap.get?_push_size _ rfl
  have g2 : (((s3.heap.push { cls := .type "tuple", data := .seq #[.ref J, .ref J2] }).push { cls := .type "tuple", data := .seq #[.none, .none] }).push (zipObj s3.heap.objs.size (s3.heap.objs.size + 1))).get? (s3.heap.objs.size + 1) = some { cls := .type "tuple", data := .seq #[.none, .none] } := by
    refine Heap.get?_push_of_some _ ?_
    rw [← z1]; exact Heap.get?_push_size _ rfl
  have g3 : (((s3.heap.push { cls := .type "tuple", data := .seq #[.ref J, .ref J2] }).push { cls := .type "tuple", data := .seq #[.none, .none] }).push (zipObj s3.heap.objs.size (s3.heap.objs.size + 1))).get? s3.heap.objs.size = some { cls := .type "tuple", data := .seq #[.ref J, .ref J2] } :=
    Heap.get?_push_of_some _ (Heap.get?_push_of_some _ (Heap.get?_push_size _ rfl))
  have kp3 : ∀ b o, s3.heap.get? b = some o → (((s3.heap.push { cls := .type "tuple", data := .seq #[.ref J, .ref J2] }).push { cls := .type "tuple", data := .seq #[.none, .none] }).push (zipObj s3.heap.objs.size (s3.heap.objs.size + 1))).get? b = some o :=
    fun b o e => Heap.get?_push_of_some _ (Heap.get?_push_of_some _ (Heap.get?_push_of_some _ e))
  have hne : J ≠ J2 := fun z => by rw [← z, e4] at hJ2; cases hJ2
  refine wpAny_pyIter_zip g1 (k (.zip a b) g (s3.heap.objs.size + 1 + 1) [s3.heap.objs.size + 1 + 1, s3.heap.objs.size, s3.heap.objs.size + 1, J, J2] { s3 with heap := _ } hq (I3.still kp3) (T03.trans (Tr.still kp3 rfl rfl) (I3.still kp3))
    ⟨s3.heap.objs.size, s3.heap.objs.size + 1, J, J2, .none, .none, rfl, ?_, g1, g3, g2, ⟨o4, kp3 _ _ e4', r4⟩, ⟨o5, kp3 _ _ e5, r5⟩⟩ ?_ ?_)
  · simp only [List.nodup_cons, List.mem_cons, not_or, List.not_mem_nil, not_false_eq_true, List.nodup_nil, and_true]
    have m4 : @LT.lt Nat _ J s3.heap.objs.size := l4
    have m5 : @LT.lt Nat _ J2 s3.heap.objs.size := l5
    refine ⟨⟨?_, ?_, ?_, ?_⟩, ⟨?_, ?_, ?_⟩, ⟨?_, ?_⟩, hne⟩ <;> first
      | exact Nat.ne_of_gt (by omega)
      | exact Nat.ne_of_lt (by omega)
  · intro x hx
    simp at hx
    rcases hx with rfl | rfl | rfl | rfl | rfl
    · exact fresh_of T03 (Heap.get?_none_of_le (by omega))
    · exact fresh_of T03 (Heap.get?_none_of_le (by omega))
    · exact fresh_of T03 (Heap.get?_none_of_le (by omega))
    · exact fresh_of T1 hJ
    · exact fresh_of T02 hJ2
  · intro x hx
    simp at hx
    rcases hx with rfl | rfl | rfl | rfl | rfl
    · exact apart_one I3 (Heap.get?_none_of_le (by omega))
    · exact apart_one I3 (Heap.get?_none_of_le (by omega))
    · exact apart_one I3 (Heap.get?_none_of_le (by omega))
    · exact apJ
    · exact apart_one I2 hJ2
end Mine


open PySem PySem.W PyProof.Rows PySem.Calls
set_option Elab.async false
set_option maxRecDepth 100000
set_option linter.unusedVariables false
namespace Mine
variable {X : Cx} {n : Nat} {env : Env} {loc : Loc} {Γ : Led}

def FR : Fl → Flow → Prop
  | .next, f => f = .next
  | .brk, f => f = .brk
  | .ret v, f => ∃ v', f = .ret v' ∧ VR v v'
def SS (X : Cx) (n : Nat) (env : Env) (s : Stmt) (m : MS) : Prop := ∀ loc Γ Q, wpS X n m loc Γ Q → Tri X n env FR (exec s env) loc Γ Q
def SSs (X : Cx) (n : Nat) (env : Env) (s : List Stmt) (m : MSs) : Prop := ∀ loc Γ Q, wpSs X n m loc Γ Q → Tri X n env FR (execs s env) loc Γ Q

theorem Tr.then {Γ₀ Γ₁ : Led} {fp : List Addr} {s₀ s s₁ : Shared} (x : Tr env Γ₀ s₀ Γ s) (y : TrX fp env Γ s Γ₁ s₁) (hfr : ∀ x ∈ fp, ∀ o, s₀.heap.get? x = some o → x ∈ keys Γ₀ ∨ footF env x) (i : Invt X env loc Γ₁ s₁.heap) : Tr env Γ₀ s₀ Γ₁ s₁ where
  keep := fun b o e hf hk => by
    have e1 := x.keep b o e hf hk
    refine y.keep b o e1 hf (fun hk1 => ?_) fun hp => ?_
    · rcases x.fresh b hk1 with h | h
      · exact hk h
      · rw [e] at h; cases h
    · rcases hfr b hp o e with h | h
      · exact hk h
      · exact hf h
  fresh := fun k hk => by
    rcases y.fresh k hk with h | h
    · exact x.fresh k h
    · cases q : s₀.heap.get? k with
      | none => exact .inr rfl
      | some o =>
        by_cases hk' : k ∈ keys Γ₀
        · exact .inl hk'
        · have := x.keep k o q (i.ap k hk).2 hk'
          rw [h] at this; cases this
  gens := y.gens.trans x.gens
  os := y.os.trans x.os
theorem SrcAt.there {src : Src} {k : Nat} {I : Addr} {fp : List Addr} {h : Heap} (x : SrcAt src k I fp h) : ∀ a ∈ fp, ∃ o, h.get? a = some o := by
  intro a ha
  cases src with
  | rng lo hi => obtain ⟨rfl, e⟩ := x; rw [List.mem_singleton.mp ha]; exact ⟨_, e⟩
  | list b => obtain ⟨rfl, o, e, r⟩ := x; rw [List.mem_singleton.mp ha]; exact ⟨_, e⟩
  | tup b => obtain ⟨rfl, o, e, r⟩ := x; rw [List.mem_singleton.mp ha]; exact ⟨_, e⟩
  | enum b =>
    obtain ⟨i2, old, rfl, ne, e, o, e2, r⟩ := x
    simp at ha
    rcases ha with rfl | rfl
    · exact ⟨_, e⟩
    · exact ⟨_, e2⟩
  | zip b c =>
    obtain ⟨TI, TO, i1, i2, x, y, rfl, nd, e1, e2, e3, ⟨o4, e4, r4⟩, ⟨o5, e5, r5⟩⟩ := x
    simp at ha
    rcases ha with rfl | rfl | rfl | rfl | rfl
    · exact ⟨_, e1⟩
    · exact ⟨_, e2⟩
    · exact ⟨_, e3⟩
    · exact ⟨_, e4⟩
    · exact ⟨_, e5⟩
  | rev b m => obtain ⟨rfl, le, o, e, r⟩ := x; rw [List.mem_singleton.mp ha]; exact ⟨_, e⟩
  | dict b ep m => obtain ⟨rfl, o, e, r⟩ := x; rw [List.mem_singleton.mp ha]; exact ⟨_, e⟩
theorem Apart.step {fp : List Addr} {src : Src} {k : Nat} {I : Addr} {Γ' : Led} {s s' : Shared} (ap : Apart X env Γ fp) (T : Tr env Γ s Γ' s') (hat : SrcAt src k I fp s.heap) : Apart X env Γ' fp := fun x hx =>
  ⟨fun hk => (T.fresh x hk).elim (fun h => (ap x hx).1 h) fun h => (by obtain ⟨o, ho⟩ := hat.there x hx; rw [h] at ho; cases ho), (ap x hx).2⟩
theorem Apart.weak {fp : List Addr} {Γ' : Led} (ap : Apart X env Γ fp) (sp : SubP Γ' Γ) : Apart X env Γ' fp := fun x hx => ⟨fun hk => (ap x hx).1 (sp.kle x hk), (ap x hx).2⟩

theorem ss_loop {t iter : PySem.Expr} {body : List Stmt} {pos : Pos} {tg : MTg} {it : MI} {b : MSs} (hs : ∀ x, foldedSetIterable iter env x = pure x) (ht : TgIs env.scope t tg) (hi : SI X n env iter it) (hb : SSs X n env body b) :
    SS X n env (.For t iter body [] pos) (.loop tg it b) := by
  intro loc₀ Γ₀ Q q A s₀ Qc ok eo rm I₀ kq
  refine wpAny_For (hi loc₀ Γ₀ _ q A s₀ _ ok eo rm I₀ fun src Γ₁ Ia fp s₁ hq I₁ T₁ hat₁ hfr ap₁ => ?_) hs
  obtain ⟨N, J, hJ0, hJ⟩ := hq
  refine codeAny_forLoop_any (fun m s => ∃ k loc Γ, m = N - k ∧ J k loc Γ ∧ Invt X env loc Γ s.heap ∧ Tr env Γ₀ s₀ Γ s ∧ SrcAt src k Ia fp s.heap ∧ Apart X env Γ fp) ?_ N ⟨0, loc₀, Γ₁, rfl, hJ0, I₁, T₁, hat₁, ap₁⟩
  rintro m s ⟨k, loc, Γ, rfl, hJk, I, T, hat, ap⟩
  obtain ⟨hk, hw⟩ := hJ k loc Γ hJk
  have D := draw (n := n) (A := A) (Kn := fun s1 => Qc .next s1) (Ks := fun s2 => wpAny X.M A (execs body env) (fun f s3 => match f with
      | .next | .cont => ∃ m', m' < N - k ∧ ∃ k loc Γ, m' = N - k ∧ J k loc Γ ∧ Invt X env loc Γ s3.heap ∧ Tr env Γ₀ s₀ Γ s3 ∧ SrcAt src k Ia fp s3.heap ∧ Apart X env Γ fp
      | .brk => Qc .next s3
      | .ret v => Qc (.ret v) s3) never s2) ok eo rm I hat ap ht hw ?_ ?_
  · refine wpAny_mono D (fun r s1 h => ?_) fun _ _ h => h.elim
    cases r with
    | none => exact wpAny_execs_nil h
    | some v => exact wpAny_mono h (fun _ s2 h => wpAny_mono h (fun _ s3 h => wpNever h) fun _ _ h => h.elim) fun _ _ h => h.elim
  · intro hn s' I' T'
    exact kq .next .next loc Γ s' hn rfl I' (T.then T' hfr I')
  · intro vs hvs
    refine ⟨_, hvs, fun l hl s2 I2 T2 hat2 => ?_⟩
    have T02 := T.then T2 hfr I2
    refine hb l Γ _ hl A s2 _ ok eo rm I2 fun fl f l3 Γ3 s3 hfl hr I3 T3 => ?_
    have T03 := T02.trans T3 I3
    cases fl with
    | brk => cases (show f = .brk from hr); exact kq .next .next l3 Γ3 s3 hfl rfl I3 T03
    | ret v => obtain ⟨v', rfl, rv⟩ := hr; exact kq (.ret v) (.ret v') l3 Γ3 s3 hfl ⟨v', rfl, rv⟩ I3 T03
    | next =>
      cases (show f = .next from hr)
      obtain ⟨l4, Γ4, le, sp, hJ4⟩ := hfl
      have hk1 := (hJ _ _ _ hJ4).1
      refine ⟨N - (k + 1), by omega, k + 1, l4, Γ4, rfl, hJ4, I3.weak le sp, T03.weak sp, hat2.keeps fun x hx o e => T3.keep x o e (ap x hx).2.1 (ap x hx).1, (ap.step T3 hat2).weak sp⟩

theorem ss_if {t : PySem.Expr} {a b : List Stmt} {pos : Pos} {c : MT} {ma mb : MSs} (hc : ST X n env t c) (ha : SSs X n env a ma) (hb : SSs X n env b mb) : SS X n env (.If t a b pos) (.ite c ma mb) := by
  intro loc Γ Q q
  rw [exec_If]
  refine Tri.at (Tri.bind (hc loc Γ _ q) fun x x' l g hx e => ?_)
  obtain ⟨rfl, hx⟩ := hx
  subst e
  cases x with
  | true => exact ha _ _ _ (hx.1 rfl)
  | false => exact hb _ _ _ (hx.2 rfl)
theorem ss_ret {e : PySem.Expr} {pos : Pos} {m : ME} (h : SE X n env e m) : SS X n env (.Return (some e) pos) (.ret m) := by
  intro loc Γ Q q
  rw [exec_Return_some]
  refine Tri.at (TE.bind (h loc Γ _ q) fun v v' g hv rv => Tri.pure (b := Fl.ret v) ⟨v', rfl, rv⟩ hv)
theorem ss_ret0 {pos : Pos} : SS X n env (.Return none pos) (.ret .none) := by
  intro loc Γ Q q
  rw [exec_Return_none]
  exact Tri.at (Tri.pure (b := Fl.ret .none) ⟨.none, rfl, rfl⟩ q)
theorem ss_brk {pos : Pos} : SS X n env (.Break pos) .brk := fun loc Γ Q q => Tri.at (pos := pos) (t := pure Flow.brk) (Tri.pure (b := Fl.brk) rfl q)
theorem ss_never {a b : Option PySem.Expr} {pos : Pos} : SS X n env (.Raise a b pos) .never := fun loc Γ Q q => q.elim
theorem sss_nil : SSs X n env [] .nil := fun loc Γ Q q => Tri.pure (b := Fl.next) rfl q
theorem sss_cons {s : Stmt} {r : List Stmt} {m : MS} {mr : MSs} (hs : SS X n env s m) (hr : SSs X n env r mr) : SSs X n env (s :: r) (.cons m mr) := by
  intro loc Γ Q q
  rw [execs_cons]
  refine Tri.bind (hs loc Γ _ q) fun fl f l g h e => ?_
  cases fl with
  | next => cases (show f = .next from e); exact hr l g Q h
  | brk => cases (show f = .brk from e); exact Tri.pure (b := Fl.brk) rfl h
  | ret v => obtain ⟨v', rfl, rv⟩ := e; exact Tri.pure (b := Fl.ret v) ⟨v', rfl, rv⟩ h

theorem notComp {e : PySem.Expr} (h : isComp e = false) (t : Option PySem.Expr) (line : Nat) : swapsWith e t line env = pure false := by
  cases e <;> first | rfl | cases h
theorem interactive_no (eo : env.scope.kind = .function) : interactive env = false := by
  unfold interactive
  rw [eo]; rfl
theorem ss_expr {e : PySem.Expr} {pos : Pos} {m : ME} (hc : isComp e = false) (h : SE X n env e m) : SS X n env (.Expr e pos) (.expr m) := by
  intro loc Γ Q q A s Qc ok eo rm I kq
  refine wpAny_Expr (h loc Γ _ q A s _ ok eo rm I fun v v' l g s' hv rv I' T => ?_) (interactive_no eo.kind) (notComp hc none _)
  obtain ⟨rfl, rfl, hv⟩ := hv
  cases (show v' = .none from rv)
  exact kq .next .next _ _ s' hv rfl I' T
theorem tri_void {β : Type} {t : Sem Unit} {Q : β → Loc → Led → Prop} {Q' : Fl → Loc → Led → Prop} {R : β → Unit → Prop} (h : Tri X n env R t loc Γ Q) (hq : ∀ b l g, Q b l g → Q' .next l g) : Tri X n env FR (do t; pure Flow.next) loc Γ Q' :=
  Tri.bind h fun b a l g q _ => Tri.pure (b := Fl.next) rfl (hq b l g q)
theorem ss_asg {x : Str} {tp pos : Pos} {e : PySem.Expr} {i : Nat} {m : ME} (hc : isComp e = false) (hx : (slotsOf env.scope)[i]? = some x) (hk : env.kindOf x = some .local ∨ env.kindOf x = some .cell) (h : SE X n env e m) : SS X n env (.Assign [.Name x tp] e pos) (.asg i m) := by
  intro loc Γ Q q
  rw [exec_Assign_Name env x tp e pos (notComp hc _ _)]
  refine Tri.at (TE.bind (h loc Γ _ q) fun v v' g hv rv => Tri.at ?_)
  refine tri_void (β := Unit) (R := fun _ _ => True) (Q := fun _ l g' => l = loc.set i (some v) ∧ g' = g) (fun A s Qc ok eo rm I kq => wpAny_bindName (tri_store hx hk rv ⟨rfl, rfl⟩ A s Qc ok eo rm I kq)) fun _ l g' h => ?_
  rw [h.1, h.2]; exact hv
theorem tri_in {op : Operator} {a b : V} {a' b' : Value} (ra : VR a a') (rb : VR b b') {Q : V → Led → Prop} (h : inW op a b Γ Q) : TE X n env (inplaceOp op a' b') loc Γ Q := by
  unfold inW at h
  split at h
  · obtain ⟨t, rfl⟩ := ra; obtain ⟨u, rfl⟩ := rb
    exact tri_int (fun A s Qc _ k => PyProof.Rows.iadd_int (k _ _ ⟨_, rfl⟩)) h
  · obtain ⟨t, rfl⟩ := ra; obtain ⟨u, rfl⟩ := rb
    exact tri_int (fun A s Qc _ k => ixor_int (k _ _ ⟨_, rfl⟩)) h
  · obtain ⟨t, rfl⟩ := ra; obtain ⟨u, rfl⟩ := rb
    exact tri_int (fun A s Qc _ k => ior_int (k _ _ ⟨_, rfl⟩)) h
  · exact h.elim
theorem ss_aug {x : Str} {tp pos : Pos} {op : Operator} {e : PySem.Expr} {i : Nat} {m : ME} (hx : (slotsOf env.scope)[i]? = some x) (hk : env.kindOf x = some .local ∨ env.kindOf x = some .cell) (h : SE X n env e m) : SS X n env (.AugAssign (.Name x tp) op e pos) (.aug i op m) := by
  intro loc Γ Q q
  obtain ⟨u, hu, q⟩ := q
  rw [exec_AugAssign_Name]
  refine Tri.at (TE.bind (tri_slot (Q := fun v g => v = u ∧ g = Γ) hx hk hu ⟨rfl, rfl⟩) fun w w' g hw rw' => ?_)
  obtain ⟨rfl, rfl⟩ := hw
  refine TE.bind (Tri.holding (h loc _ _ q)) fun v v' g' hv rv => Tri.at ?_
  refine TE.bind (Tri.operate (tri_in rw' rv hv)) fun r r' g'' hr rr => Tri.at ?_
  refine tri_void (β := Unit) (R := fun _ _ => True) (Q := fun _ l g3 => l = loc.set i (some r) ∧ g3 = g'') (fun A s Qc ok eo rm I kq => wpAny_bindName (tri_store hx hk rr ⟨rfl, rfl⟩ A s Qc ok eo rm I kq)) fun _ l g3 h => ?_
  rw [h.1, h.2]; exact hr

theorem tri_release {β : Type} {R : β → Unit → Prop} {vs ks : List Value} {t : Sem Unit} {Q : β → Loc → Led → Prop} (h : Tri X n env R t loc Γ Q) : Tri X n env R (do t; release vs ks) loc Γ Q :=
  fun A s Qc ok eo rm I k Γ' p hΓ => by
    have z := h A s Qc ok eo rm I k Γ' p hΓ
    simp only [Sem.wp_bind', Sem.wp_release]
    exact z
theorem assign_plain {t e : PySem.Expr} {pos : Pos} (hc : isComp e = false) (ht : swappedStores [t] e env = pure none) : exec (.Assign [t] e pos) env = (do standAt pos; let v ← eval e env; ((assignEach [t] env).map (·.2)).headD (fun _ => pure ()) v; pure .next) := by
  rw [arm_exec_Assign]
  show (do standAt pos; let b ← swapsWith e (some t) pos.line env; _) = _
  rw [notComp hc]
  simp only [pure_bind, Bool.false_eq_true, if_false, ht]
  unfold assignStores
  dsimp only
  cases t <;> rfl
theorem ss_asgSub {o i e : PySem.Expr} {tp pos : Pos} {mo mi me : ME} (hc : isComp e = false) (ho : SE X n env o mo) (hi : SE X n env i mi) (he : SE X n env e me) : SS X n env (.Assign [.Subscript o i tp] e pos) (.asgSub mo mi me) := by
  intro loc Γ Q q
  rw [assign_plain hc (by rfl)]
  refine Tri.at (TE.bind (he loc Γ _ q) fun v v' g hv rv => ?_)
  show Tri X n env FR (do assign (.Subscript o i tp) env v'; pure .next) loc g Q
  rw [arm_assign_Subscript]
  refine tri_void (β := Unit) (R := fun _ _ => True) (Q := fun _ l g => l = loc ∧ Q .next loc g) ?_ fun _ l g h => h.1 ▸ h.2
  refine TE.bind (Tri.holding (ho loc g _ hv)) fun ov ov' g hov rov => ?_
  refine TE.bind (Tri.holding (hi loc g _ hov)) fun iv iv' g hiv riv => Tri.at ?_
  exact tri_release (Tri.holding (hiv ov' iv' v' rov riv rv env loc))
theorem ss_asgAttr {o e : PySem.Expr} {name : Str} {tp pos : Pos} {mo me : ME} {k : Nat} (hc : isComp e = false) (hk : X.at_[k]? = some name) (ho : SE X n env o mo) (he : SE X n env e me) : SS X n env (.Assign [.Attribute o name tp] e pos) (.asgAttr mo k me) := by
  intro loc Γ Q q
  rw [assign_plain hc (by rfl)]
  refine Tri.at (TE.bind (he loc Γ _ q) fun v v' g hv rv => ?_)
  show Tri X n env FR (do assign (.Attribute o name tp) env v'; pure .next) loc g Q
  rw [arm_assign_Attribute]
  refine tri_void (β := Unit) (R := fun _ _ => True) (Q := fun _ l g => l = loc ∧ Q .next loc g) ?_ fun _ l g h => h.1 ▸ h.2
  refine TE.bind (Tri.holding (ho loc g _ hv)) fun ov ov' g hov rov => Tri.at ?_
  exact tri_release (Tri.holding (hov ov' name v' rov hk rv env loc))
theorem tri_hold_bind2 {α β γ δ : Type} {R : δ → γ → Prop} {vs : List Value} {m : Sem α} {f : α → Sem β} {k : β → Sem γ} {Q : δ → Loc → Led → Prop} (h : Tri X n env R (m >>= fun a => f a >>= k) loc Γ Q) : Tri X n env R (holding vs (m >>= f) >>= k) loc Γ Q := tri_hold_bind h
theorem ss_augSub {o i e : PySem.Expr} {tp pos : Pos} {op : Operator} {mo mi me : ME} (hs : isSlice i = false) (ho : SE X n env o mo) (hi : SE X n env i mi) (he : SE X n env e me) : SS X n env (.AugAssign (.Subscript o i tp) op e pos) (.augSub mo mi op me) := by
  intro loc Γ Q q
  rw [arm_exec_AugAssign_3]
  refine Tri.at (TE.bind (ho loc Γ _ q) fun ov ov' g hov rov => ?_)
  refine TE.bind (Tri.holding (hi loc g _ hov)) fun iv iv' g hiv riv => ?_
  refine tri_hold_bind (m := standAt tp) ?_
  refine Tri.at ?_
  simp only [bind_assoc]
  refine TE.bind (hiv ov' iv' rov riv env loc) fun u u' g hu ru => ?_
  refine TE.bind (Tri.holding (he loc g _ hu)) fun v v' g hv rv => Tri.at ?_
  refine TE.bind (Tri.operate (tri_in ru rv hv)) fun r r' g hr rr => Tri.at ?_
  have e : augStore i ov' iv' r' = (do (do holding [r', ov', iv'] (setItem ov' iv' r'); release [r', ov', iv'] []); pure .next) := by
    simp only [bind_assoc]
    cases i <;> first | rfl | cases hs
  rw [e]
  exact tri_void (β := Unit) (R := fun _ _ => True) (Q := fun _ l g => l = loc ∧ Q .next loc g) (tri_release (Tri.holding (hr ov' iv' r' rov riv rr env loc))) fun _ l g h => h.1 ▸ h.2
theorem ss_augAttr {o e : PySem.Expr} {name : Str} {tp pos : Pos} {op : Operator} {mo me : ME} {k : Nat} (hk : X.at_[k]? = some name) (ho : SE X n env o mo) (he : SE X n env e me) : SS X n env (.AugAssign (.Attribute o name tp) op e pos) (.augAttr mo k op me) := by
  intro loc Γ Q q
  rw [arm_exec_AugAssign_2]
  refine Tri.at (TE.bind (ho loc Γ _ q) fun ov ov' g hov rov => ?_)
  refine tri_hold_bind (m := standAt tp.atName) ?_
  refine Tri.at ?_
  simp only [bind_assoc]
  refine TE.bind (hov ov' name rov hk env loc) fun u u' g hu ru => ?_
  refine TE.bind (Tri.holding (he loc g _ hu)) fun v v' g hv rv => Tri.at ?_
  refine TE.bind (Tri.operate (tri_in ru rv hv)) fun r r' g hr rr => Tri.at ?_
  have e : (do holding [r', ov'] (setAttr ov' name r'); release [r', ov'] []; pure .next : Sem Flow) = (do (do holding [r', ov'] (setAttr ov' name r'); release [r', ov'] []); pure .next) := by
    simp only [bind_assoc]
  rw [e]
  exact tri_void (β := Unit) (R := fun _ _ => True) (Q := fun _ l g => l = loc ∧ Q .next loc g) (tri_release (Tri.holding (hr ov' name r' rov hk rr env loc))) fun _ l g h => h.1 ▸ h.2

theorem ss_pass {x : Str} {k : Nat} {p pos : Pos} : SS X n env (.Expr (.Constant (.str x) k p) pos) .pass := by
  intro loc Γ Q q A s Qc ok eo rm I kq
  refine wpAny_Expr (wpAny_Constant_str ?_) (interactive_no eo.kind) (notComp (e := .Constant (.str x) k p) rfl none _)
  exact kq .next .next loc Γ { s with toks := _ } q rfl (I.still fun b o e => e) (Tr.still (fun b o e => e) rfl rfl)
end Mine


open PySem PySem.W PyProof.Rows PySem.Calls
set_option Elab.async false
set_option maxRecDepth 100000
set_option linter.unusedVariables false
namespace Mine
variable {X : Cx} {n : Nat} {env : Env} {loc : Loc} {Γ : Led}

/-! ## an entry changes -/
theorem Invt.upd {a : Addr} {o o' : O} {h h' : Heap} (I : Invt X env loc ((a, o) :: Γ) h) (hk : kf (a, o') = kf (a, o)) (hs : ∀ b, b ∉ kf (a, o) → h'.get? b = h.get? b) (r : OR X h' a o') : Invt X env loc ((a, o') :: Γ) h' where
  base := fun b x e => (hs b fun z => by have := (I.ap b (by rw [keys_cons]; exact List.mem_append_left _ z)).1; rw [e] at this; cases this).trans (I.base b x e)
  loc := I.loc.keeps fun b x hf e => (hs b fun z => (I.ap b (by rw [keys_cons]; exact List.mem_append_left _ z)).2 hf).trans e
  led := fun e he => by
    rcases List.mem_cons.mp he with rfl | he
    · exact r
    · refine (I.led e (List.mem_cons_of_mem _ he)).same fun b hb => hs b fun z => ?_
      have := I.nd
      rw [keys_cons] at this
      exact (List.nodup_append.mp this).2.2 b z b (mem_keys he hb) rfl
  nd := by have := I.nd; rw [keys_cons] at this ⊢; rw [hk]; exact this
  ap := by have := I.ap; rw [keys_cons] at this ⊢; rw [hk]; exact this
theorem Tr.upd {a : Addr} {o o' : O} {s s' : Shared} (hk : kf (a, o') = kf (a, o)) (hs : ∀ b, b ∉ kf (a, o) → s'.heap.get? b = s.heap.get? b) (hg : s'.gens = s.gens) (ho : s'.os = s.os) : Tr env ((a, o) :: Γ) s ((a, o') :: Γ) s' where
  keep := fun b x e _ hb => (hs b fun z => hb (by rw [keys_cons]; exact List.mem_append_left _ z)).trans e
  fresh := fun k h => .inl (by rw [keys_cons] at h ⊢; rw [hk] at h; exact h)
  gens := hg
  os := ho
theorem SubP.pick {Γ Γ₁ : Led} {e : Addr × O} (h : Pick Γ e Γ₁) : SubP (e :: Γ₁) Γ := .cons h .refl
theorem Tr.of_perm {Γ' Γ₁ : Led} {s s' : Shared} (T : Tr env Γ' s Γ₁ s') (p : Γ.Perm Γ') : Tr env Γ s Γ₁ s' :=
  ⟨fun b o e hf hk => T.keep b o e hf fun z => hk ((keys_perm p).mem_iff.mpr z), fun k hk => (T.fresh k hk).imp (fun z => (keys_perm p).mem_iff.mpr z) id, T.gens, T.os⟩
theorem Tri.perm {α β : Type} {R : β → α → Prop} {t : Sem α} {Γ' : Led} {Q : β → Loc → Led → Prop} (sp : SubP Γ' Γ) (p : Γ.Perm Γ') (h : Tri X n env R t loc Γ' Q) : Tri X n env R t loc Γ Q :=
  fun A s Qc ok eo rm I k => h A s Qc ok eo rm (I.weak LocLe.refl sp) fun b a l g s' q r I' T => k b a l g s' q r I' (T.of_perm p)
theorem Tri.pick {α β : Type} {R : β → α → Prop} {t : Sem α} {Γ₁ : Led} {e : Addr × O} {Q : β → Loc → Led → Prop} (hp : Pick Γ e Γ₁) (h : Tri X n env R t loc (e :: Γ₁) Q) : Tri X n env R t loc Γ Q :=
  h.perm (SubP.pick hp) hp.perm

theorem VRs.append {xs ys : List V} {vs ws : List Value} (h : VRs xs vs) (h' : VRs ys ws) : VRs (xs ++ ys) (vs ++ ws) := by
  induction h with
  | nil => exact h'
  | cons r _ ih => exact .cons r ih
theorem tri_append {a : Addr} {xs : List V} {v : V} {v' : Value} (hlen : xs.length ≤ 1000000) (rv : VR v v') {Q : V → Led → Prop} (q : Q .none ((a, .list (xs ++ [v])) :: Γ)) : TE X n env (call (.builtin "list.append") [.ref a, v']) loc ((a, .list xs) :: Γ) Q := by
  intro A s Qc ok eo rm I k
  obtain ⟨vs, m, e, r⟩ := I.led (a, .list xs) (List.mem_cons_self)
  refine wpAny_list_append_plain (items := vs.toArray) ⟨m, e⟩ (fun h' ⟨m', e'⟩ hs => ?_) (by rw [List.size_toArray, r.length]; exact Nat.le_trans hlen (by decide))
  have hs' : ∀ b, b ∉ kf (a, O.list xs) → h'.get? b = s.heap.get? b := fun b hb => hs.2 b fun z => hb (by simp [kf, z])
  refine k .none .none loc _ _ ⟨rfl, q⟩ rfl (I.upd (o' := .list (xs ++ [v])) rfl hs' ⟨vs ++ [v'], m', ?_, r.append (.cons rv .nil)⟩) (Tr.upd rfl hs' rfl rfl)
  rw [e']; simp

/-! ## comprehensions -/
theorem iter_again {src : Src} {k : Nat} {I : Addr} {fp : List Addr} {A : Around} {s : Shared} {Qc : Value → Shared → Prop} (hat : SrcAt src k I fp s.heap) (q : Qc (.ref I) s) : wpAny X.M A (pyIter (.ref I)) Qc never s := by
  cases src with
  | rng lo hi => exact wpAny_pyIter_rangeiter hat.2 q
  | list a => exact wpAny_pyIter_listiter hat.2 q
  | tup a => exact wpAny_pyIter_tupleiter hat.2 q
  | enum a => obtain ⟨i2, old, _, _, he, _⟩ := hat; exact wpAny_pyIter_enum he q
  | zip a b => obtain ⟨TI, TO, i1, i2, x, y, _, _, hz, _⟩ := hat; exact wpAny_pyIter_zip hz q
  | rev a m => exact wpAny_pyIter_revIter hat.2.2 q
  | dict a ep m => exact wpAny_pyIter_keyiter hat.2 q

theorem compLoop_my {elt target iter : PySem.Expr} {ifs : List PySem.Expr} {scope : Scope} {pos : Pos} {it acc : Value} {env : Env} {A : Around} {s : Shared} {R : Result → Shared → Prop} (J : Nat → Shared → Prop)
    (turn : ∀ n s, J n s → wpAny X.M A (pyNext it) (fun r s₁ => match r with
      | none => R (.ok .next) s₁
      | some v => wpAny X.M A (letOwnedTupleGo target it v) (fun _ s₁' => wpAny X.M A (assign target env v) (fun _ s₂ =>
          wpAny X.M A (forIn ifs true fun c r => if r = true then do let ok ← isTrue c env (eval c env); pure (ForInStep.yield ok) else pure (ForInStep.yield r)) (fun ok s₃ =>
            if ok = true then wpAny X.M A (eval elt env) (fun x s₄ => wpAny X.M A (call (.builtin "list.append") [acc, x]) (fun _ s₅ => ∃ m, m < n ∧ J m s₅) never s₄) never s₃
            else ∃ m, m < n ∧ J m s₃) never s₂) never s₁') never s₁) never s)
    (n : Nat) (h : J n s) : codeAny X.M A (.compLoop (.ListComp elt [⟨target, iter, ifs, 0⟩] scope pos) 0 it acc env) R s := by
  refine codeAny_loop rfl J (fun n s hI => ?_) n h
  show wpAny _ A ((compTurn (.ListComp elt [⟨target, iter, ifs, 0⟩] scope pos) 0 it acc env).onRaise (fun x => do noteFrame x env; theTreesLotGoes x)) _ _ s
  refine wpAny_onRaise (wpNever ?_)
  rw [compTurn_list]
  refine wpAny_bind (wpAny_standAt (wpAny_bind (wpAny_mono (turn n s hI) (fun r s₁ h₁ => ?_) fun _ _ h' => h')))
  cases r with
  | none => exact wpAny_pure h₁
  | some v =>
    refine wpAny_bind (wpAny_mono h₁ (fun _ s₁' h₁ => ?_) fun _ _ h' => h')
    refine wpAny_bind (wpAny_mono h₁ (fun _ s₂ h₂ => wpAny_bind (wpAny_mono h₂ (fun ok s₃ h₃ => ?_) fun _ _ h' => h')) fun _ _ h' => h')
    cases ok with
    | false => exact wpAny_pure ⟨rfl, h₃⟩
    | true =>
      exact wpAny_bind (wpAny_bind (wpAny_mono h₃ (fun x s₄ h₄ => wpAny_bind (wpAny_mono h₄ (fun _ s₅ h₅ => wpAny_pure (wpAny_pure ⟨rfl, h₅⟩)) fun _ _ h' => h')) fun _ _ h' => h'))

/-- the tests of a clause -/
def SIfs (X : Cx) (n : Nat) (env : Env) (ifs : List PySem.Expr) (m : MT) : Prop := ∀ loc Γ Q, wpT X n m loc Γ Q →
  Tri X n env Eq (forIn ifs true fun c r => if r = true then do let ok ← isTrue c env (eval c env); pure (ForInStep.yield ok) else pure (ForInStep.yield r)) loc Γ (fun b l g => l = loc ∧ Q b g)
theorem sifs_nil : SIfs X n env [] .tt := fun loc Γ Q q => Tri.pure (b := true) rfl ⟨rfl, q⟩
theorem sifs_one {c : PySem.Expr} {m : MT} (h : ST X n env c m) : SIfs X n env [c] m := fun loc Γ Q q A s Qc ok eo rm I k =>
  wpAny_tests_one (h loc Γ Q q A s Qc ok eo rm I k)
end Mine


open PySem PySem.W PyProof.Rows PySem.Calls
set_option Elab.async false
set_option maxRecDepth 100000
set_option linter.unusedVariables false
namespace Mine
variable {X : Cx} {n : Nat} {env : Env} {loc : Loc} {Γ : Led}

theorem closure_fold {f : Str × NameKind → List (Str × Addr) → Sem (ForInStep (List (Str × Addr)))} (hf : ∀ y r, f y r = if y.2 == .free then (do let a ← cellOf env y.1; pure (.yield ((y.1, a) :: r))) else pure (.yield r)) :
    ∀ (l : List (Str × NameKind)) (cs : List (Str × Addr)), (∀ y ∈ l, y.2 = .free → ∃ c, env.cells.lookup y.1 = some c) →
      ∃ cl, (forIn l cs f : Sem _) = pure cl ∧ ∀ x, cl.lookup x = if l.any (fun y => y.1 == x && y.2 == .free) then env.cells.lookup x else cs.lookup x := by
  intro l
  induction l with
  | nil => intro cs _; exact ⟨cs, by rw [List.forIn_nil], fun x => rfl⟩
  | cons y l ih =>
    intro cs h
    rw [List.forIn_cons, hf]
    by_cases hy : y.2 = .free
    · obtain ⟨c, hc⟩ := h y (List.mem_cons_self) hy
      obtain ⟨cl, e, q⟩ := ih ((y.1, c) :: cs) fun z hz => h z (List.mem_cons_of_mem _ hz)
      refine ⟨cl, ?_, fun x => ?_⟩
      · have : (y.2 == NameKind.free) = true := by rw [hy]; rfl
        rw [if_pos this]
        unfold cellOf
        rw [hc]
        simp only [pure_bind]
        exact e
      · rw [q x, List.any_cons, hy]
        simp only [List.lookup_cons]
        by_cases hx : y.1 = x
        · subst hx
          simp [hc]
        · have h1 : (y.1 == x) = false := beq_eq_false_iff_ne.mpr hx
          have h2 : (x == y.1) = false := beq_eq_false_iff_ne.mpr fun z => hx z.symm
          simp [h1, h2]
    · obtain ⟨cl, e, q⟩ := ih cs fun z hz => h z (List.mem_cons_of_mem _ hz)
      have : (y.2 == NameKind.free) = false := beq_eq_false_iff_ne.mpr hy
      refine ⟨cl, ?_, fun x => ?_⟩
      · simp only [this, Bool.false_eq_true, if_false, pure_bind]
        exact e
      · rw [q x, List.any_cons, this, Bool.and_false, Bool.false_or]
theorem closure_ok {sc : Scope} (h : ∀ y ∈ sc.names, y.2 = .free → ∃ c, env.cells.lookup y.1 = some c) : ∃ cl, closureFor sc env = pure cl ∧ ∀ x, cl.lookup x = if sc.names.any (fun y => y.1 == x && y.2 == .free) then env.cells.lookup x else none := by
  obtain ⟨cl, e, q⟩ := closure_fold (env := env) (f := fun y r => if y.2 == .free then (do let a ← cellOf env y.1; pure (.yield ((y.1, a) :: r))) else pure (.yield r)) (fun _ _ => rfl) sc.names [] h
  refine ⟨cl, ?_, q⟩
  unfold closureFor
  have : (do
      let mut cs := []
      for (name, kind) in sc.names do
        if kind == .free then cs := (name, ← cellOf env name) :: cs
      return cs : Sem (List (Str × Addr))) = (forIn sc.names [] (fun y r => if y.2 == .free then (do let a ← cellOf env y.1; pure (.yield ((y.1, a) :: r))) else pure (.yield r))) >>= pure := by
    rfl
  rw [this, e]; rfl

/-- what a good scope of a comprehension says -/
structure CompSc (inner outer : Scope) : Prop where
  kind : inner.kind = .function
  nd : (slotsOf inner).Nodup
  look : ∀ y ∈ inner.names, inner.names.lookup y.1 = some y.2
  kinds : ∀ y ∈ inner.names, y.2 = .local ∨ y.2 = .globalImplicit ∨ (y.2 = .free ∧ outer.names.lookup y.1 = some .cell)
theorem compSc_of {inner outer : Scope} (h : compOk inner outer = true) : CompSc inner outer := by
  unfold compOk at h
  simp only [Bool.and_eq_true, beq_iff_eq, decide_eq_true_eq, List.all_eq_true] at h
  obtain ⟨⟨⟨⟨h1, h2⟩, h3⟩, h4⟩, h5⟩ := h
  refine ⟨h1, h4, fun y hy => (h5 y hy).1, fun y hy => ?_⟩
  have := (h5 y hy).2
  obtain ⟨x, k⟩ := y
  cases k <;> simp at this ⊢ <;> exact this
theorem relab_eq (inner : Scope) (env : Env) : relabel inner env = relab inner env.scope := rfl
theorem lookup_map {l : List (Str × NameKind)} {f : Str → NameKind → NameKind} (x : Str) : (l.map fun (y : Str × NameKind) => (y.1, f y.1 y.2)).lookup x = (l.lookup x).map (f x) := by
  induction l with
  | nil => rfl
  | cons y l ih =>
    obtain ⟨a, k⟩ := y
    rw [List.map_cons, List.lookup_cons, List.lookup_cons]
    by_cases hx : x = a
    · subst hx; simp
    · have : (x == a) = false := beq_eq_false_iff_ne.mpr hx
      simp only [this]; exact ih
def rk (outer : Scope) (n : Str) (k : NameKind) : NameKind := if k == .free && outer.kind == .function && outer.names.lookup n == some .cell then .cell else k
theorem relab_names {inner outer : Scope} : (relab inner outer).names = inner.names.map fun (y : Str × NameKind) => (y.1, rk outer y.1 y.2) := by
  unfold relab rk
  refine List.map_congr_left fun y hy => ?_
  obtain ⟨a, b⟩ := y
  dsimp only
  split <;> rfl
theorem mem_of_lookup {l : List (Str × NameKind)} {x : Str} {k : NameKind} (h : l.lookup x = some k) : (x, k) ∈ l := by
  induction l with
  | nil => cases h
  | cons y l ih =>
    rw [List.lookup_cons] at h
    split at h
    · rename_i e; cases h; rw [beq_iff_eq.mp e]; exact List.mem_cons_self
    · exact List.mem_cons_of_mem _ (ih h)
theorem relab_lookup {inner outer : Scope} (C : CompSc inner outer) (ho : outer.kind = .function) (x : Str) : (relab inner outer).names.lookup x = (inner.names.lookup x).map fun k => if k = .free then .cell else k := by
  rw [relab_names, lookup_map]
  cases q : inner.names.lookup x with
  | none => rfl
  | some k =>
    simp only [Option.map_some, Option.some.injEq, rk]
    by_cases hk : k = .free
    · subst hk
      rcases C.kinds _ (mem_of_lookup q) with h | h | h
      · cases h
      · cases h
      · simp [ho, h.2]
    · simp [hk]
theorem slots_relab {inner outer : Scope} : slotsOf (relab inner outer) = slotsOf inner := by
  unfold slotsOf
  rw [relab_names, List.filterMap_map]
  refine congrArg (fun f => List.filterMap f inner.names) (funext fun y => ?_)
  obtain ⟨a, k⟩ := y
  simp only [Function.comp_apply, rk]
  by_cases hk : k = .free
  · subst hk
    simp
  · have : (k == NameKind.free) = false := beq_eq_false_iff_ne.mpr hk
    simp [this]
theorem idxOf_isSome {l : List Str} {x : Str} {i : Nat} (h : l[i]? = some x) : ∃ j, idxOf l x = some j := by
  unfold idxOf
  cases q : l.findIdx? (· == x) with
  | some j => exact ⟨j, rfl⟩
  | none =>
    rw [List.findIdx?_eq_none_iff] at q
    have := q x (List.mem_of_getElem? h)
    simp at this
/-- a comprehension's frame -/
structure InComp (isc : Scope) (env : Env) (cl : List (Str × Addr)) (C : Addr) : Prop where
  sc : CompSc isc env.scope
  cl : ∀ x, cl.lookup x = if isc.names.any (fun y => y.1 == x && y.2 == .free) then env.cells.lookup x else none
  new : ¬ footF env C
theorem ce_kind {isc : Scope} {cl : List (Str × Addr)} {C : Addr} (D : InComp isc env cl C) (ek : env.scope.kind = .function) {x : Str} : (compEnvC isc cl C env).kindOf x = (isc.names.lookup x).map fun k => if k = .free then .cell else k := by
  rw [kindOf_eq]
  exact relab_lookup D.sc ek x
theorem ce_cell {isc : Scope} {cl : List (Str × Addr)} {C : Addr} (D : InComp isc env cl C) (ek : env.scope.kind = .function) {x : Str} (h : (compEnvC isc cl C env).kindOf x = some .cell) :
    isc.names.lookup x = some .free ∧ env.kindOf x = some .cell ∧ cl.lookup x = env.cells.lookup x := by
  rw [ce_kind D ek] at h
  obtain ⟨k, hk, e⟩ := Option.map_eq_some_iff.mp h
  have hm := mem_of_lookup hk
  have hf : k = .free := by
    rcases D.sc.kinds _ hm with q | q | q
    · simp at q; subst q; simp at e
    · simp at q; subst q; simp at e
    · exact q.1
  subst hf
  refine ⟨hk, ?_, ?_⟩
  · rcases D.sc.kinds _ hm with q | q | q
    · cases q
    · cases q
    · exact q.2
  · rw [D.cl, if_pos]
    exact List.any_eq_true.mpr ⟨_, hm, by simp⟩
theorem ce_foot {isc : Scope} {cl : List (Str × Addr)} {C : Addr} (D : InComp isc env cl C) (ek : env.scope.kind = .function) {a : Addr} (h : footF (compEnvC isc cl C env) a) : a = C ∨ footF env a := by
  rcases h with h | ⟨x, hx, e⟩
  · exact .inl h
  · obtain ⟨h1, h2, h3⟩ := ce_cell D ek hx
    exact .inr (.inr ⟨x, h2, h3 ▸ e⟩)
theorem ce_ok {isc : Scope} {cl : List (Str × Addr)} {C : Addr} (D : InComp isc env cl C) (eo : EnvOk X env) (hs : X.hB.objs.size ≤ C) : EnvOk X (compEnvC isc cl C env) where
  kind := D.sc.kind
  gl := eo.gl
  bl := eo.bl
  nd := by show (slotsOf (relab isc env.scope)).Nodup; rw [slots_relab]; exact D.sc.nd
  apart := fun x c hx e => by
    obtain ⟨h1, h2, h3⟩ := ce_cell D eo.kind hx
    intro z
    exact D.new (.inr ⟨x, h2, by rw [← h3]; exact (show C = c from z.symm) ▸ e⟩)
  inj := fun x y c hx hy e1 e2 => by
    obtain ⟨_, h2, h3⟩ := ce_cell D eo.kind hx
    obtain ⟨_, k2, k3⟩ := ce_cell D eo.kind hy
    exact eo.inj x y c h2 k2 (h3 ▸ e1) (k3 ▸ e2)
  size := hs
  new := fun a ha => by
    rcases ce_foot D eo.kind ha with rfl | h
    · exact Heap.get?_none_of_le hs
    · exact eo.new a h
theorem capOf_get {loc : Loc} {cap : List (Option Nat)} {j : Nat} {v : V} (h : (capOf loc cap)[j]? = some (some v)) : ∃ i, cap[j]? = some (some i) ∧ loc[i]? = some (some v) := by
  unfold capOf at h
  rw [List.getElem?_map] at h
  obtain ⟨o, ho, e⟩ := Option.map_eq_some_iff.mp h
  cases o with
  | none => cases e
  | some i =>
    refine ⟨i, ho, ?_⟩
    simp only [Option.bind_some] at e
    cases q : loc[i]? with
    | none => rw [q] at e; cases e
    | some z => rw [q] at e; simp at e; rw [e]
theorem capIdx_get {inner outer : Scope} {j i : Nat} {x : Str} (hx : (slotsOf inner)[j]? = some x) (h : (capIdx inner outer)[j]? = some (some i)) : inner.names.lookup x = some .free ∧ idxOf (slotsOf outer) x = some i := by
  unfold capIdx at h
  rw [List.getElem?_map, hx, Option.map_some, Option.some.injEq] at h
  split at h
  · rename_i e
    exact ⟨eq_of_beq e, h⟩
  · cases h
theorem locR_comp {isc : Scope} {cl : List (Str × Addr)} {C : Addr} {h : Heap} {m : Str → Option Value} (D : InComp isc env cl C) (eo : EnvOk X env) (r : LocR env loc h) (hn : h.Ns C m) : LocR (compEnvC isc cl C env) (capOf loc (capIdx isc env.scope)) h where
  m := ⟨m, hn, fun j x v hj hk hv => by
    rw [show (compEnvC isc cl C env).scope = relab isc env.scope from rfl, slots_relab] at hj
    obtain ⟨i, hi, _⟩ := capOf_get hv
    have := (capIdx_get hj hi).1
    rw [ce_kind D eo.kind, this] at hk
    simp at hk⟩
  c := fun x hx => by
    obtain ⟨h1, h2, h3⟩ := ce_cell D eo.kind hx
    obtain ⟨c, v₀, e, hc⟩ := r.c x h2
    exact ⟨c, v₀, h3.trans e, hc⟩
  cv := fun j x v hj hk hv => by
    rw [show (compEnvC isc cl C env).scope = relab isc env.scope from rfl, slots_relab] at hj
    obtain ⟨h1, h2, h3⟩ := ce_cell D eo.kind hk
    obtain ⟨i, hi, hl⟩ := capOf_get hv
    obtain ⟨c, v', e, hc, rv⟩ := r.cv i x v (idxOf_some (capIdx_get hj hi).2) h2 hl
    exact ⟨c, v', h3.trans e, hc, rv⟩
theorem slot_of_free {isc : Scope} {x : Str} (h : isc.names.lookup x = some .free) : ∃ j : Nat, (slotsOf isc)[j]? = some x := by
  have : x ∈ slotsOf isc := by
    unfold slotsOf
    exact List.mem_filterMap.mpr ⟨(x, .free), mem_of_lookup h, by simp⟩
  obtain ⟨j, hj, e⟩ := List.getElem_of_mem this
  exact ⟨j, by rw [List.getElem?_eq_getElem hj, e]⟩
theorem locR_back {isc : Scope} {cl : List (Str × Addr)} {C : Addr} {h h' : Heap} {l : Loc} (D : InComp isc env cl C) (eo : EnvOk X env) (r : LocR env loc h) (rc : LocR (compEnvC isc cl C env) l h') (le : LocLe (capOf loc (capIdx isc env.scope)) l)
    (kp : ∀ b o, h.get? b = some o → footF env b → ¬ footF (compEnvC isc cl C env) b → h'.get? b = some o) : LocR env loc h' where
  m := by
    obtain ⟨m, ⟨o, es, ep, a, b⟩, c⟩ := r.m
    refine ⟨m, ⟨o, es, ep, kp _ _ a (.inl rfl) ?_, b⟩, c⟩
    rintro (z | ⟨x, hx, e⟩)
    · exact D.new (.inl z.symm)
    · obtain ⟨h1, h2, h3⟩ := ce_cell D eo.kind hx
      exact eo.apart x _ h2 (h3 ▸ e) rfl
  c := fun x hx => by
    by_cases hf : isc.names.lookup x = some .free
    · have hk : (compEnvC isc cl C env).kindOf x = some .cell := by rw [ce_kind D eo.kind, hf]; rfl
      obtain ⟨c, v₀, e, hc⟩ := rc.c x hk
      exact ⟨c, v₀, (ce_cell D eo.kind hk).2.2 ▸ e, hc⟩
    · obtain ⟨c, v₀, e, ⟨o, ho, hd⟩⟩ := r.c x hx
      refine ⟨c, v₀, e, o, kp c o ho (.inr ⟨x, hx, e⟩) ?_, hd⟩
      rintro (z | ⟨y, hy, e'⟩)
      · exact D.new (.inr ⟨x, hx, by rw [e]; exact congrArg some z⟩)
      · obtain ⟨h1, h2, h3⟩ := ce_cell D eo.kind hy
        have := eo.inj x y c hx h2 e (h3 ▸ e')
        subst this
        exact hf h1
  cv := fun i x v hx hk hv => by
    by_cases hf : isc.names.lookup x = some .free
    · have hkc : (compEnvC isc cl C env).kindOf x = some .cell := by rw [ce_kind D eo.kind, hf]; rfl
      obtain ⟨j, hj⟩ := slot_of_free hf
      obtain ⟨i', hi'⟩ := idxOf_isSome hx
      have : i' = i := getElem?_nodup eo.nd (idxOf_some hi') hx
      subst this
      have hcap : (capOf loc (capIdx isc env.scope))[j]? = some (some v) := by
        unfold capOf capIdx
        rw [List.getElem?_map, List.getElem?_map, hj]
        simp [hf, hi', hv]
      obtain ⟨c, v', e, hc, rv⟩ := rc.cv j x v (by rw [show (compEnvC isc cl C env).scope = relab isc env.scope from rfl, slots_relab]; exact hj) hkc (le j v hcap)
      exact ⟨c, v', (ce_cell D eo.kind hkc).2.2 ▸ e, hc, rv⟩
    · obtain ⟨c, v', e, ⟨o, ho, hd⟩, rv⟩ := r.cv i x v hx hk hv
      refine ⟨c, v', e, ⟨o, kp c o ho (.inr ⟨x, hk, e⟩) ?_, hd⟩, rv⟩
      rintro (z | ⟨y, hy, e'⟩)
      · exact D.new (.inr ⟨x, hk, by rw [e]; exact congrArg some z⟩)
      · obtain ⟨h1, h2, h3⟩ := ce_cell D eo.kind hy
        have := eo.inj x y c hk h2 e (h3 ▸ e')
        subst this
        exact hf h1
/-- a step within the comprehension, seen from without -/
theorem comp_step {isc : Scope} {cl : List (Str × Addr)} {C : Addr} {fp : List Addr} {Γ' : Led} {l : Loc} {s s' : Shared} (D : InComp isc env cl C) (eo : EnvOk X env) (Ie : Invt X env loc Γ s.heap) (Ic : Invt X (compEnvC isc cl C env) l Γ' s'.heap)
    (le : LocLe (capOf loc (capIdx isc env.scope)) l) (T : TrX fp (compEnvC isc cl C env) Γ s Γ' s') (hfp : ∀ x ∈ fp, ¬ footF env x) : Invt X env loc Γ' s'.heap ∧ TrX (C :: fp) env Γ s Γ' s' := by
  refine ⟨⟨Ic.base, locR_back D eo Ie.loc Ic.loc le fun b o e hf hn => T.keep b o e hn (fun z => (Ie.ap b z).2 hf) fun z => hfp b z hf, Ic.led, Ic.nd, fun k hk => ⟨(Ic.ap k hk).1, fun hf => ?_⟩⟩, ⟨fun b o e hf hk hp => T.keep b o e (fun z => ?_) hk fun z => hp (List.mem_cons_of_mem _ z), T.fresh, T.gens, T.os⟩⟩
  · rcases T.fresh k hk with h | h
    · exact (Ie.ap k h).2 hf
    · obtain ⟨o, ho⟩ := Ie.loc.foot_lt hf
      rw [h] at ho; cases ho
  · rcases ce_foot D eo.kind z with z | z
    · exact hp (z ▸ List.mem_cons_self)
    · exact hf z
end Mine


open PySem PySem.W PyProof.Rows PySem.Calls
set_option Elab.async false
set_option maxRecDepth 100000
set_option linter.unusedVariables false
namespace Mine
variable {X : Cx} {n : Nat} {env : Env} {loc : Loc} {Γ : Led}

theorem nextW.grow {e : Addr × O} {k : Nat} {src : Src} {Q : Option (List V) → Prop} (h : nextW Γ k src Q) : nextW (e :: Γ) k src Q := by
  cases src with
  | rng lo hi => exact h
  | list a => obtain ⟨xs, m, r⟩ := h; exact ⟨xs, List.mem_cons_of_mem _ m, r⟩
  | tup a => obtain ⟨xs, m, r⟩ := h; exact ⟨xs, List.mem_cons_of_mem _ m, r⟩
  | enum a => obtain ⟨xs, m, r⟩ := h; exact ⟨xs, List.mem_cons_of_mem _ m, r⟩
  | zip a b => obtain ⟨xs, ys, m, m2, r⟩ := h; exact ⟨xs, ys, List.mem_cons_of_mem _ m, List.mem_cons_of_mem _ m2, r⟩
  | rev a m => obtain ⟨xs, m, r⟩ := h; exact ⟨xs, List.mem_cons_of_mem _ m, r⟩
  | dict a ep m => obtain ⟨xs, m, r⟩ := h; exact ⟨xs, List.mem_cons_of_mem _ m, r⟩
/-- the target's slots are not captured -/
def TgFree (cap : List (Option Nat)) : MTg → Prop
  | .loc i => ∀ j, cap[i]? ≠ some (some j)
  | .two i k => (∀ j, cap[i]? ≠ some (some j)) ∧ (∀ j, cap[k]? ≠ some (some j))
theorem le_set {cap : List (Option Nat)} {i : Nat} {v : V} {l : Loc} (h : ∀ j, cap[i]? ≠ some (some j)) (hl : LocLe (capOf loc cap) l) : LocLe (capOf loc cap) (l.set i (some v)) := by
  intro j w hw
  have := hl j w hw
  by_cases e : i = j
  · subst e
    obtain ⟨z, hz, _⟩ := capOf_get hw
    exact absurd hz (h z)
  · rw [List.getElem?_set_ne e]; exact this
theorem tgW_comp {e : Addr × O} {cap : List (Option Nat)} {tg : MTg} {vs : List V} {L : Loc → Prop} (hf : TgFree cap tg) (h : tgW Γ (capOf loc cap) tg vs L) : tgW (e :: Γ) (capOf loc cap) tg vs (fun l => L l ∧ LocLe (capOf loc cap) l) := by
  unfold tgW at h
  split at h
  · exact ⟨h, le_set hf .refl⟩
  · rename_i x y
    have : L (((capOf loc cap).set _ (some x)).set _ (some y)) ∧ LocLe (capOf loc cap) (((capOf loc cap).set _ (some x)).set _ (some y)) := ⟨h, le_set hf.2 (le_set hf.1 .refl)⟩
    cases x <;> exact this
  · obtain ⟨x, y, hm, h⟩ := h
    exact ⟨x, y, List.mem_cons_of_mem _ hm, h, le_set hf.2 (le_set hf.1 .refl)⟩
  · exact h.elim
theorem cap_none {isc osc : Scope} {i : Nat} {x : Str} (hx : (slotsOf isc)[i]? = some x) (hk : isc.names.lookup x = some .local) (j : Nat) : (capIdx isc osc)[i]? ≠ some (some j) := by
  intro h
  have := (capIdx_get hx h).1
  rw [hk] at this; cases this
theorem local_of {isc osc : Scope} (C : CompSc isc osc) {x : Str} (h : isc.names.lookup x = some .local ∨ isc.names.lookup x = some .cell) : isc.names.lookup x = some .local := by
  rcases h with h | h
  · exact h
  · rcases C.kinds _ (mem_of_lookup h) with q | q | q
    · cases q
    · cases q
    · cases q.1
theorem tgFree_of {isc osc : Scope} (C : CompSc isc osc) {t : PySem.Expr} {tg : MTg} (h : TgIs isc t tg) : TgFree (capIdx isc osc) tg := by
  cases h with
  | loc hx hk => exact cap_none hx (local_of C hk)
  | two hx hkx hy hky => exact ⟨cap_none hx (local_of C hkx), cap_none hy (local_of C hky)⟩
theorem tgIs_relab {isc osc : Scope} (C : CompSc isc osc) (ho : osc.kind = .function) {t : PySem.Expr} {tg : MTg} (h : TgIs isc t tg) : TgIs (relab isc osc) t tg := by
  have k : ∀ x, (isc.names.lookup x = some .local ∨ isc.names.lookup x = some .cell) → (relab isc osc).names.lookup x = some .local ∨ (relab isc osc).names.lookup x = some .cell := fun x hx => by
    rw [relab_lookup C ho, local_of C hx]; exact .inl rfl
  cases h with
  | loc hx hk => exact .loc (by rw [slots_relab]; exact hx) (k _ hk)
  | two hx hkx hy hky => exact .two (by rw [slots_relab]; exact hx) (k _ hkx) (by rw [slots_relab]; exact hy) (k _ hky)

theorem comp_core {elt target iter : PySem.Expr} {ifs : List PySem.Expr} {isc : Scope} {cpos pos : Pos} {tg : MTg} {it : MI} {mc : MT} {me : ME} {use : Option (Value → Sem Unit)} {Q : V → Led → Prop} {A : Around} {s₀ : Shared} {Qc : Value → Shared → Prop}
    (hs : ∀ x, foldedSetIterable iter env x = pure x) (hok : compOk isc env.scope = true) (htg : TgIs isc target tg) (hi : SI X n env iter it)
    (hc : ∀ cl C, SIfs X n (compEnvC isc cl C env) ifs mc) (he : ∀ cl C, SE X n (compEnvC isc cl C env) elt me)
    (q : wpE X n (.comp (capIdx isc env.scope) tg it mc me) loc Γ Q) (ok : X.Ok) (eo : EnvOk X env) (rm : Room n A) (I₀ : Invt X env loc Γ s₀.heap)
    (fin : ∀ acc Γ' s' C, Q (.ref acc) Γ' → Invt X env loc Γ' s'.heap → Tr env Γ s₀ Γ' s' → (∃ m, s'.heap.Ns C m) → Apart X env Γ' [C] → (∀ o, s₀.heap.get? C = some o → C ∈ keys Γ ∨ footF env C) → compPost X.M A never use Qc (.ref acc) C (.ok .next) s') :
    wpAny X.M A (comprehension (.ListComp elt [⟨target, iter, ifs, 0⟩] isc cpos) isc env pos (newList []) false (eval iter env) use) Qc never s₀ := by
  have CS := compSc_of hok
  obtain ⟨cl, hclos, hcl⟩ := closure_ok (sc := isc) (env := env) fun y hy hf => by
    rcases CS.kinds y hy with h | h | h
    · rw [h] at hf; cases hf
    · rw [h] at hf; cases hf
    · obtain ⟨c, _, e, _⟩ := I₀.loc.c y.1 h.2
      exact ⟨c, e⟩
  refine wpAny_comprehension_free rfl hs hclos CS.kind (fun x hx hl => hl ▸ CS.look x hx) ?_
  refine hi loc Γ _ q A s₀ _ ok eo rm I₀ fun src Γ₁ Ia fp s₁ hq I₁ T₁ hat₁ hfr ap₁ => ?_
  obtain ⟨N, J, hJ0, hJ⟩ := hq s₁.heap.objs.size
  refine wpAny_newObj_type ?_ (Nat.zero_le _)
  have fr : ∀ b ∈ kf (s₁.heap.objs.size, O.list []), s₁.heap.get? b = none := fun b hb => by
    rw [List.mem_singleton.mp hb]; exact get?_size
  have kp₁ : ∀ b o', s₁.heap.get? b = some o' → (s₁.heap.push { cls := .type "list", dict := none, data := .seq ([] : List Value).toArray }).get? b = some o' := fun b o' e => Heap.get?_push_of_some _ e
  have I₂ := I₁.grow (ob := .list []) kp₁ fr (by simp [kf]) ⟨[], 0, Heap.get?_push_size _ rfl, .nil⟩
  have T₂ : Tr env Γ s₀ ((s₁.heap.objs.size, O.list []) :: Γ₁) { s₁ with heap := s₁.heap.push { cls := .type "list", dict := none, data := .seq ([] : List Value).toArray } } := T₁.trans (Tr.grow kp₁ fr rfl rfl) I₂
  have hat₂ : SrcAt src 0 Ia fp (s₁.heap.push { cls := .type "list", dict := none, data := .seq ([] : List Value).toArray }) := hat₁.keeps fun b _ o e => kp₁ b o e
  have ap₂ : Apart X env ((s₁.heap.objs.size, O.list []) :: Γ₁) fp := ap₁.step (Tr.grow (s' := { s₁ with heap := s₁.heap.push { cls := .type "list", dict := none, data := .seq ([] : List Value).toArray } }) kp₁ fr rfl rfl) hat₁
  generalize hacc : s₁.heap.objs.size = acc at *
  generalize hH : s₁.heap.push { cls := .type "list", dict := none, data := .seq ([] : List Value).toArray } = H at *
  refine wpAny_newFunctionEnv (fun y hy => ?_) (by intro y hy; simp at hy) (fun h₃ hns hsb => ?_) CS.kind
  · intro hk
    rcases CS.kinds y hy with h | h | h
    · rw [hk] at h; cases h
    · rw [hk] at h; cases h
    · rw [hk] at h; cases h.1
  dsimp only at hns hsb ⊢
  have kp₃ : ∀ b o, H.get? b = some o → h₃.get? b = some o := fun b o e => hsb.extBut b o (fun z => absurd (Heap.lt_size e) (by rw [z]; exact Nat.lt_irrefl _)) (Heap.get?_push_of_some _ e)
  have hCn : H.get? H.objs.size = none := get?_size
  have hfC : ¬ footF env H.objs.size := fun z => by obtain ⟨o, ho⟩ := I₂.loc.foot_lt z; rw [hCn] at ho; cases ho
  have hkC : H.objs.size ∉ keys ((acc, O.list []) :: Γ₁) := fun z => by obtain ⟨o, ho⟩ := I₂.keyThere z; rw [hCn] at ho; cases ho
  have hBC : X.hB.get? H.objs.size = none := by
    cases q : X.hB.get? H.objs.size with
    | none => rfl
    | some o => rw [I₂.base _ o q] at hCn; cases hCn
  have hpC : H.objs.size ∉ fp := fun z => by obtain ⟨o, ho⟩ := hat₂.there _ z; rw [hCn] at ho; cases ho
  have hs0C : ∀ o, s₀.heap.get? H.objs.size = some o → H.objs.size ∈ keys Γ ∨ footF env H.objs.size := fun o e => by
    by_cases hk : H.objs.size ∈ keys Γ
    · exact .inl hk
    · have := T₂.keep _ o e hfC hk
      rw [hCn] at this; cases this
  have hBs : X.hB.objs.size ≤ H.objs.size := by
    have h1 := eo.size
    obtain ⟨o, ho⟩ := I₂.loc.foot_lt (a := env.locals) (.inl rfl)
    exact Nat.le_trans h1 (Nat.le_of_lt (Heap.lt_size ho))
  generalize hCC : H.objs.size = C at *
  have D : InComp isc env cl C := ⟨CS, hcl, hfC⟩
  have ceo : EnvOk X (compEnvC isc cl C env) := ce_ok D eo hBs
  have frC : ∀ x ∈ C :: fp, ∀ o, s₀.heap.get? x = some o → x ∈ keys Γ ∨ footF env x := fun x hx o e => by
    rcases List.mem_cons.mp hx with rfl | hx
    · exact hs0C o e
    · exact hfr x hx o e
  have hfpn : ∀ x ∈ fp, ¬ footF env x := fun x hx => (ap₁ x hx).2.1
  have tgf := tgFree_of CS htg
  have tgr : TgIs (compEnvC isc cl C env).scope target tg := tgIs_relab CS eo.kind htg
  have I₃ : Invt X env loc ((acc, O.list []) :: Γ₁) h₃ := I₂.still kp₃
  have J₃ : Invt X (compEnvC isc cl C env) (capOf loc (capIdx isc env.scope)) ((acc, O.list []) :: Γ₁) h₃ := ⟨I₃.base, locR_comp D eo I₃.loc hns, I₃.led, I₃.nd, fun k hk => ⟨(I₃.ap k hk).1, fun hf => by
    rcases ce_foot D eo.kind hf with rfl | h
    · exact hkC hk
    · exact (I₃.ap k hk).2 h⟩⟩
  have T₃ : Tr env Γ s₀ ((acc, O.list []) :: Γ₁) { s₁ with heap := h₃ } := T₂.trans (Tr.still kp₃ rfl rfl) I₃
  have hat₃ : SrcAt src 0 Ia fp h₃ := hat₂.keeps fun b _ o e => kp₃ b o e
  have ap₃ : Apart X (compEnvC isc cl C env) ((acc, O.list []) :: Γ₁) fp := fun x hx => ⟨(ap₂ x hx).1, fun hf => by
    rcases ce_foot D eo.kind hf with rfl | h
    · exact hpC hx
    · exact (ap₂ x hx).2.1 h, (ap₂ x hx).2.2⟩
  have loop := compLoop_my (X := X) (elt := elt) (target := target) (iter := iter) (ifs := ifs) (scope := isc) (pos := cpos) (it := .ref Ia) (acc := .ref acc) (env := compEnvC isc cl C env) (A := A) (R := compPost X.M A never use Qc (.ref acc) C)
    (s := { s₁ with heap := h₃ })
    (fun m s => ∃ k ys Γ', m = N - k ∧ J k ys Γ' ∧ Invt X (compEnvC isc cl C env) (capOf loc (capIdx isc env.scope)) ((acc, O.list ys) :: Γ') s.heap ∧ Invt X env loc ((acc, O.list ys) :: Γ') s.heap ∧ Tr env Γ s₀ ((acc, O.list ys) :: Γ') s ∧ SrcAt src k Ia fp s.heap ∧
      Apart X (compEnvC isc cl C env) ((acc, O.list ys) :: Γ') fp) ?_ N ⟨0, [], Γ₁, rfl, hJ0, J₃, I₃, T₃, hat₃, ap₃⟩
  · exact codeAny_compStart_list loop (wpNever (iter_again (s := { s₁ with heap := h₃ }) hat₃ loop))
  rintro m s ⟨k, ys, Γ', rfl, hJk, Ic, Ie, T, hat, ap⟩
  obtain ⟨hk, hlen, hw⟩ := hJ k ys Γ' hJk
  refine draw (n := n) (A := A) ok ceo rm Ic hat ap tgr hw.grow ?_ ?_
  · intro hn s' I' T'
    obtain ⟨Ie', Te'⟩ := comp_step D eo Ie I' .refl T' hfpn
    refine fin acc _ s' C hn Ie' (T.then Te' frC Ie') (let ⟨m, hm, _⟩ := I'.loc.m; ⟨m, hm⟩) (fun x hx => ?_) hs0C
    rw [List.mem_singleton.mp hx]
    exact ⟨fun z => (I'.ap _ z).2 (.inl rfl), hfC, hBC⟩
  · intro vs hvs
    refine ⟨_, tgW_comp tgf hvs, fun l hl s2 I2 T2 hat2 => ?_⟩
    obtain ⟨hl, le⟩ := hl
    have finish : ∀ {ys' : List V} {Γ'' : Led} {s5 : Shared}, J (k + 1) ys' Γ'' → Invt X (compEnvC isc cl C env) l ((acc, O.list ys') :: Γ'') s5.heap → Tr (compEnvC isc cl C env) ((acc, O.list ys) :: Γ') s2 ((acc, O.list ys') :: Γ'') s5 →
        ∃ m, m < N - k ∧ ∃ k ys Γ', m = N - k ∧ J k ys Γ' ∧ Invt X (compEnvC isc cl C env) (capOf loc (capIdx isc env.scope)) ((acc, O.list ys) :: Γ') s5.heap ∧ Invt X env loc ((acc, O.list ys) :: Γ') s5.heap ∧ Tr env Γ s₀ ((acc, O.list ys) :: Γ') s5 ∧ SrcAt src k Ia fp s5.heap ∧
          Apart X (compEnvC isc cl C env) ((acc, O.list ys) :: Γ') fp := by
      intro ys' Γ'' s5 hJ' I5 T5
      have hat5 := hat2.keeps fun x hx o e => T5.keep x o e (ap x hx).2.1 (ap x hx).1
      have ap5 := ap.step T5 hat2
      have T05 := T2.trans (TrX.of T5) (fun k hk hp => (ap5 k hp).1 hk) I5
      obtain ⟨Ie', Te'⟩ := comp_step D eo Ie I5 le T05 hfpn
      have hk1 := (hJ _ _ _ hJ').1
      exact ⟨N - (k + 1), by omega, k + 1, ys', Γ'', rfl, hJ', I5.weak le .refl, Ie', T.then Te' frC Ie', hat5, ap5⟩
    refine hc cl C l _ _ hl A s2 _ ok ceo rm I2 fun r r' l3 Γ3 s3 hr e I3 T3 => ?_
    obtain ⟨rfl, hr0, hr1⟩ := hr
    subst e
    cases r with
    | false =>
      obtain ⟨Γ'', sp, hJ'⟩ := hr0 rfl
      exact finish hJ' (I3.weak .refl sp) (T3.weak sp)
    | true =>
      refine he cl C _ _ _ (hr1 rfl) A s3 _ ok ceo rm I3 fun v v' l4 Γ4 s4 hv rv I4 T4 => ?_
      obtain ⟨rfl, Γ'', sp, hJ'⟩ := hv
      have I4' := I4.weak .refl sp
      have T4' := T4.weak sp
      refine tri_append (n := n) hlen rv (Q := fun _ g => g = (acc, O.list (ys ++ [v])) :: Γ'') rfl A s4 _ ok ceo rm I4' fun b a l5 Γ5 s5 h5 _ I5 T5 => ?_
      obtain ⟨rfl, rfl⟩ := h5
      exact finish hJ' I5 ((T3.trans T4' I4').trans T5 I5)

theorem se_comp {elt target iter : PySem.Expr} {ifs : List PySem.Expr} {isc : Scope} {cpos : Pos} {tg : MTg} {it : MI} {mc : MT} {me : ME}
    (hs : ∀ x, foldedSetIterable iter env x = pure x) (hok : compOk isc env.scope = true) (htg : TgIs isc target tg) (hi : SI X n env iter it)
    (hc : ∀ cl C, SIfs X n (compEnvC isc cl C env) ifs mc) (he : ∀ cl C, SE X n (compEnvC isc cl C env) elt me) :
    SE X n env (.ListComp elt [⟨target, iter, ifs, 0⟩] isc cpos) (.comp (capIdx isc env.scope) tg it mc me) := by
  intro loc Γ Q q A s Qc ok eo rm I k
  rw [eval_ListComp]
  refine comp_core hs hok htg hi hc he q ok eo rm I fun acc Γ' s' C hq I' T hn ap frC => ?_
  obtain ⟨m, hn⟩ := hn
  refine ⟨m, hn, fun h' hsb => ?_⟩
  have kp : ∀ b o, s'.heap.get? b = some o → b ∉ [C] → h'.get? b = some o := fun b o e hb => (hsb.2 b fun z => hb (by rw [z]; exact List.mem_singleton_self _)).trans e
  have I2 := I'.butFp ap kp
  refine k (.ref acc) _ loc Γ' _ ⟨rfl, hq⟩ rfl I2 (T.then (fp := [C]) (s₁ := { s' with heap := h' }) ⟨fun b o e _ _ hb => kp b o e hb, fun _ h => .inl h, rfl, rfl⟩ (fun x hx o e => ?_) I2)
  rw [List.mem_singleton.mp hx] at e ⊢
  exact frC o e

theorem ss_asgComp {x : Str} {tp pos : Pos} {i : Nat} {elt target iter : PySem.Expr} {ifs : List PySem.Expr} {isc : Scope} {cpos : Pos} {tg : MTg} {it : MI} {mc : MT} {me : ME}
    (hx : (slotsOf env.scope)[i]? = some x) (hk : env.kindOf x = some .local ∨ env.kindOf x = some .cell)
    (hs : ∀ x, foldedSetIterable iter env x = pure x) (hok : compOk isc env.scope = true) (htg : TgIs isc target tg) (hi : SI X n env iter it)
    (hc : ∀ cl C, SIfs X n (compEnvC isc cl C env) ifs mc) (he : ∀ cl C, SE X n (compEnvC isc cl C env) elt me) :
    SS X n env (.Assign [.Name x tp] (.ListComp elt [⟨target, iter, ifs, 0⟩] isc cpos) pos) (.asg i (.comp (capIdx isc env.scope) tg it mc me)) := by
  have hb : ∃ b, swapsWith (.ListComp elt [⟨target, iter, ifs, 0⟩] isc cpos) (some (.Name x tp)) pos.line env = pure b := ⟨_, rfl⟩
  obtain ⟨b, hb⟩ := hb
  intro loc Γ Q q
  replace q : wpE X n (.comp (capIdx isc env.scope) tg it mc me) loc Γ fun v Γ => Q .next (loc.set i (some v)) Γ := by
    rw [wpS.eq_def] at q; exact q
  cases b with
  | false =>
    rw [exec_Assign_Name env x tp _ pos hb]
    refine Tri.at (TE.bind (se_comp hs hok htg hi hc he loc Γ _ q) fun v v' g hv rv => Tri.at ?_)
    refine tri_void (β := Unit) (R := fun _ _ => True) (Q := fun _ l g' => l = loc.set i (some v) ∧ g' = g) (fun A s Qc ok eo rm I kq => wpAny_bindName (tri_store hx hk rv ⟨rfl, rfl⟩ A s Qc ok eo rm I kq)) fun _ l g' h => ?_
    rw [h.1, h.2]; exact hv
  | true =>
    rw [exec_Assign_Name_used x tp _ pos hb]
    refine Tri.at ?_
    intro A s Qc ok eo rm I k
    refine wpAny_bind ?_
    show wpAny _ A (do let _ ← comprehension (.ListComp elt [⟨target, iter, ifs, 0⟩] isc cpos) isc env _ (newList []) false (eval iter env) (some (assign (.Name x tp) env))) _ _ s
    refine wpAny_bind (wpAny_mono (comp_core (Qc := fun _ s' => Qc .next s') hs hok htg hi hc he q ok eo rm I fun acc Γ' s' C hq I' T hn ap frC => ?_) (fun _ s' hq => wpAny_pure (wpAny_pure hq)) fun _ _ e => e)
    obtain ⟨m, hn⟩ := hn
    show wpAny _ A (assign (.Name x tp) env (.ref acc)) _ _ _
    refine tri_assignName (n := n) hx hk (show VR (.ref acc) (.ref acc) from rfl) (Q := fun _ l g => l = loc.set i (some (.ref acc)) ∧ g = Γ') ⟨rfl, rfl⟩ A s' _ ok eo rm I' fun b a l g s2 h2 _ I2 T2 => ?_
    obtain ⟨rfl, rfl⟩ := h2
    have hC := ap C (List.mem_singleton_self _)
    refine ⟨m, hn.at' fun o e => T2.keep _ o e hC.2.1 hC.1, fun h' hsb => ?_⟩
    have kp : ∀ b o, s2.heap.get? b = some o → b ∉ [C] → h'.get? b = some o := fun b o e hb => (hsb.2 b fun z => hb (by rw [z]; exact List.mem_singleton_self _)).trans e
    have I3 := I2.butFp ap kp
    refine k .next .next _ _ _ hq rfl I3 ((T.trans T2 I2).then (fp := [C]) (s₁ := { s2 with heap := h' }) ⟨fun b o e _ _ hb => kp b o e hb, fun _ h => .inl h, rfl, rfl⟩ (fun x hx o e => ?_) I3)
    rw [List.mem_singleton.mp hx] at e ⊢
    exact frC o e

theorem se_dict {pos : Pos} : SE X n env (.Dict [] [] pos) .dict := by
  intro loc Γ Q q
  rw [arm_eval_Dict]
  refine Tri.at ?_
  show TE X n env (dictDisplay []) loc Γ Q
  have : dictDisplay [] = newDict := by rfl
  rw [this]
  exact tri_newB (o := { cls := .type "dict", data := .dict #[] }) (ob := .idict [] 0) (fun A s Qc h => wpAny_newObj_type h (Nat.zero_le _)) rfl (fun _ => rfl) (fun h a hb e => ⟨hb, [], ⟨_, #[], e, ⟨rfl, rfl, rfl⟩, rfl, fun x hx => by simp at hx, .nil, List.nodup_nil⟩, .nil⟩) fun a => q a 0
end Mine


open PySem PySem.W PyProof.Rows PySem.Calls
set_option Elab.async false
set_option maxRecDepth 100000
set_option linter.unusedVariables false
namespace Mine
variable {X : Cx} {n : Nat} {env : Env} {loc : Loc} {Γ : Led}

/-! ## comprehensions of two clauses -/
def lc2 (elt t1 i1 t2 i2 : PySem.Expr) (sc : Scope) (pos : Pos) : PySem.Expr := .ListComp elt [⟨t1, i1, [], 0⟩, ⟨t2, i2, [], 0⟩] sc pos
theorem compTurn_out (elt t1 i1 t2 i2 : PySem.Expr) (sc : Scope) (pos : Pos) (it acc : Value) (env : Env) :
    compTurn (lc2 elt t1 i1 t2 i2 sc pos) 0 it acc env = (standAt i1.pos >>= fun _ => pyNext it >>= fun r => match r with
      | none => pure (.done .next)
      | some v => letOwnedTupleGo t1 it v >>= fun _ => assign t1 env v >>= fun _ =>
        eval i2 env >>= fun x => standAt i2.pos >>= fun _ => foldedSetIterable i2 env x >>= fun x => holding [x] (pyIter x) >>= fun I => runOwn (.compStart (lc2 elt t1 i1 t2 i2 sc pos) 1 I acc env) env >>= fun _ =>
          again (.compLoop (lc2 elt t1 i1 t2 i2 sc pos) 0 it acc env)) := by rfl
theorem compTurn_in (elt t1 i1 t2 i2 : PySem.Expr) (sc : Scope) (pos : Pos) (it acc : Value) (env : Env) :
    compTurn (lc2 elt t1 i1 t2 i2 sc pos) 1 it acc env = (standAt i2.pos >>= fun _ => pyNext it >>= fun r => match r with
      | none => pure (.done .next)
      | some v => letOwnedTupleGo t2 it v >>= fun _ => assign t2 env v >>= fun _ =>
        (eval elt env >>= fun x => call (.builtin "list.append") [acc, x] >>= fun _ => pure ()) >>= fun _ =>
          again (.compLoop (lc2 elt t1 i1 t2 i2 sc pos) 1 it acc env)) := by rfl
theorem outer_my {elt t1 i1 t2 i2 : PySem.Expr} {scope : Scope} {pos : Pos} {it acc : Value} {env : Env} {A : Around} {s : Shared} {R : Result → Shared → Prop} (hs2 : ∀ x, foldedSetIterable i2 env x = pure x) (J : Nat → Shared → Prop)
    (turn : ∀ n s, J n s → wpAny X.M A (pyNext it) (fun r s₁ => match r with
      | none => R (.ok .next) s₁
      | some v => wpAny X.M A (letOwnedTupleGo t1 it v) (fun _ s₁' => wpAny X.M A (assign t1 env v) (fun _ s₂ =>
          wpAny X.M A (eval i2 env) (fun x s₃ => wpAny X.M A (pyIter x) (fun I s₄ => codeAny X.M A (.compStart (lc2 elt t1 i1 t2 i2 scope pos) 1 I acc env) (fun r s₅ => match r with | .ok _ => ∃ m, m < n ∧ J m s₅ | .error _ => False) s₄) never s₃) never s₂) never s₁') never s₁) never s)
    (n : Nat) (h : J n s) : codeAny X.M A (.compLoop (lc2 elt t1 i1 t2 i2 scope pos) 0 it acc env) R s := by
  refine codeAny_loop rfl J (fun n s hI => ?_) n h
  show wpAny _ A ((compTurn (lc2 elt t1 i1 t2 i2 scope pos) 0 it acc env).onRaise (fun x => do noteFrame x env; theTreesLotGoes x)) _ _ s
  refine wpAny_onRaise (wpNever ?_)
  rw [compTurn_out]
  refine wpAny_bind (wpAny_standAt (wpAny_bind (wpAny_mono (turn n s hI) (fun r s₁ h₁ => ?_) fun _ _ h' => h')))
  cases r with
  | none => exact wpAny_pure h₁
  | some v =>
    refine wpAny_bind (wpAny_mono h₁ (fun _ s₁' h₁ => ?_) fun _ _ h' => h')
    refine wpAny_bind (wpAny_mono h₁ (fun _ s₂ h₂ => wpAny_bind (wpAny_mono h₂ (fun x s₃ h₃ => wpAny_bind (wpAny_standAt (wpAny_bind (wpAny_of_eq (hs2 x) (wpAny_bind (wpAny_holding (wpAny_mono h₃ (fun I s₄ h₄ => ?_) fun _ _ h' => h'))))))) fun _ _ h' => h')) fun _ _ h' => h')
    refine wpAny_bind (wpAny_runOwn (codeAny_mono h₄ fun r s₅ h₅ => ?_))
    cases r with
    | ok f => exact wpAny_pure ⟨rfl, h₅⟩
    | error e => exact h₅.elim
theorem inner_my {elt t1 i1 t2 i2 : PySem.Expr} {scope : Scope} {pos : Pos} {it acc : Value} {env : Env} {A : Around} {s : Shared} {R : Result → Shared → Prop} (J : Nat → Shared → Prop)
    (turn : ∀ n s, J n s → wpAny X.M A (pyNext it) (fun r s₁ => match r with
      | none => R (.ok .next) s₁
      | some v => wpAny X.M A (letOwnedTupleGo t2 it v) (fun _ s₁' => wpAny X.M A (assign t2 env v) (fun _ s₂ =>
          wpAny X.M A (eval elt env) (fun x s₄ => wpAny X.M A (call (.builtin "list.append") [acc, x]) (fun _ s₅ => ∃ m, m < n ∧ J m s₅) never s₄) never s₂) never s₁') never s₁) never s)
    (n : Nat) (h : J n s) : codeAny X.M A (.compLoop (lc2 elt t1 i1 t2 i2 scope pos) 1 it acc env) R s := by
  refine codeAny_loop rfl J (fun n s hI => ?_) n h
  show wpAny _ A ((compTurn (lc2 elt t1 i1 t2 i2 scope pos) 1 it acc env).onRaise (fun x => do noteFrame x env; theTreesLotGoes x)) _ _ s
  refine wpAny_onRaise (wpNever ?_)
  rw [compTurn_in]
  refine wpAny_bind (wpAny_standAt (wpAny_bind (wpAny_mono (turn n s hI) (fun r s₁ h₁ => ?_) fun _ _ h' => h')))
  cases r with
  | none => exact wpAny_pure h₁
  | some v =>
    refine wpAny_bind (wpAny_mono h₁ (fun _ s₁' h₁ => ?_) fun _ _ h' => h')
    refine wpAny_bind (wpAny_mono h₁ (fun _ s₂ h₂ => wpAny_bind (wpAny_bind (wpAny_mono h₂ (fun x s₃ h₃ => wpAny_bind (wpAny_mono h₃ (fun _ s₄ h₄ => wpAny_pure (wpAny_pure ⟨rfl, h₄⟩)) fun _ _ h' => h')) fun _ _ h' => h'))) fun _ _ h' => h')
theorem start_in {elt t1 i1 t2 i2 : PySem.Expr} {scope : Scope} {pos : Pos} {it acc : Value} {env : Env} {A : Around} {s : Shared} {R : Result → Shared → Prop}
    (h0 : codeAny X.M A (.compLoop (lc2 elt t1 i1 t2 i2 scope pos) 1 it acc env) R s)
    (h : wpAny X.M A (pyIter it) (fun it' s' => codeAny X.M A (.compLoop (lc2 elt t1 i1 t2 i2 scope pos) 1 it' acc env) R s') never s) :
    codeAny X.M A (.compStart (lc2 elt t1 i1 t2 i2 scope pos) 1 it acc env) R s := by
  refine codeAny_of_tree ?_
  show wpAny _ _ ((compStart (lc2 elt t1 i1 t2 i2 scope pos) 1 it acc env).onRaise (fun x => do noteFrame x env; standAt theWindowsPlace)) _ _ s
  refine wpAny_notedAt ?_
  unfold compStart
  show wpAny _ _ (ask >>= _) _ _ s
  refine wpAny_bind (wpAny_askSetting (wpAny_ite ?_))
  split
  · first
      | exact wpAny_bind (wpAny_pure (wpAny_pure (And.intro rfl h0)))
      | exact wpAny_pure (And.intro rfl h0)
  · refine wpAny_bind (wpAny_rule ?_)
    show wpAny _ _ (standAt i2.pos >>= _) _ _ s
    exact wpAny_bind (wpAny_standAt (wpAny_bind (wpAny_mono h (fun it' s' h' => wpAny_pure (And.intro rfl h')) fun _ _ x => x.elim)))
theorem tgW_grow {e : Addr × O} {l : Loc} {tg : MTg} {vs : List V} {L : Loc → Prop} (h : tgW Γ l tg vs L) : tgW (e :: Γ) l tg vs L := by
  unfold tgW at h
  split at h
  · exact h
  · rename_i x y
    cases x <;> exact h
  · obtain ⟨x, y, hm, h⟩ := h
    exact ⟨x, y, List.mem_cons_of_mem _ hm, h⟩
  · exact h.elim

/-- the second clause -/
theorem inner_walk {elt t1 i1 t2 i2 : PySem.Expr} {scope : Scope} {cpos : Pos} {tg2 : MTg} {it2 : MI} {me : ME} {l : Loc} {acc : Addr} {ys : List V} {F : List V → Led → Prop} {A : Around} {s : Shared} {K : Shared → Prop}
    (ht2 : TgIs env.scope t2 tg2) (hi2 : SI X n env i2 it2) (he : SE X n env elt me)
    (hq : wpI X n it2 l Γ fun src2 Γ' => ∃ (N2 : Nat) (J : Nat → List V → Led → Prop),
          (∃ Γ'', SubP ((acc, .list ys) :: Γ'') Γ' ∧ J 0 ys Γ'') ∧ (∀ j zs Γ'', J j zs Γ'' → j ≤ N2 ∧ zs.length ≤ 1000000 ∧ nextW Γ'' j src2 fun
            | none => F zs Γ''
            | some vs2 => tgW Γ'' l tg2 vs2 fun l2 => LocLe l l2 ∧ wpE X n me l2 ((acc, .list zs) :: Γ'') fun v Γ3 => ∃ Γ4, SubP ((acc, .list zs) :: Γ4) Γ3 ∧ J (j + 1) (zs ++ [v]) Γ4))
    (ok : X.Ok) (eo : EnvOk X env) (rm : Room n A) (I₀ : Invt X env l Γ s.heap)
    (fin : ∀ zs Γ'' s₅, F zs Γ'' → Invt X env l ((acc, .list zs) :: Γ'') s₅.heap → Tr env Γ s ((acc, .list zs) :: Γ'') s₅ → K s₅) :
    wpAny X.M A (eval i2 env) (fun x s₃ => wpAny X.M A (pyIter x) (fun I s₄ => codeAny X.M A (.compStart (lc2 elt t1 i1 t2 i2 scope cpos) 1 I (.ref acc) env) (fun r s₅ => match r with | .ok _ => K s₅ | .error _ => False) s₄) never s₃) never s := by
  refine hi2 l Γ _ hq A s _ ok eo rm I₀ fun src Γ₁ Ia fp s₁ hq I₁ T₁ hat₁ hfr ap₁ => ?_
  obtain ⟨N, J, ⟨Γ₂, sp₂, hJ0⟩, hJ⟩ := hq
  have loop := inner_my (X := X) (elt := elt) (t1 := t1) (i1 := i1) (t2 := t2) (i2 := i2) (scope := scope) (pos := cpos) (it := .ref Ia) (acc := .ref acc) (env := env) (A := A) (R := fun r s₅ => match r with | .ok _ => K s₅ | .error _ => False) (s := s₁)
    (fun m s' => ∃ k zs Γ', m = N - k ∧ J k zs Γ' ∧ Invt X env l ((acc, .list zs) :: Γ') s'.heap ∧ Tr env Γ s ((acc, .list zs) :: Γ') s' ∧ SrcAt src k Ia fp s'.heap ∧ Apart X env ((acc, .list zs) :: Γ') fp) ?_ N
    ⟨0, ys, Γ₂, rfl, hJ0, I₁.weak .refl sp₂, T₁.weak sp₂, hat₁, ap₁.weak sp₂⟩
  · exact start_in loop (wpNever (iter_again hat₁ loop))
  rintro m s' ⟨k, zs, Γ', rfl, hJk, I, T, hat, ap⟩
  obtain ⟨hk, hlen, hw⟩ := hJ k zs Γ' hJk
  refine draw (n := n) (A := A) ok eo rm I hat ap ht2 hw.grow ?_ ?_
  · intro hn s2 I' T'
    exact fin zs Γ' s2 hn I' (T.then T' hfr I')
  · intro vs hvs
    refine ⟨_, tgW_grow hvs, fun l2 hl s2 I2 T2 hat2 => ?_⟩
    obtain ⟨le, hl⟩ := hl
    have T02 := T.then T2 hfr I2
    refine he l2 _ _ hl A s2 _ ok eo rm I2 fun v v' l3 Γ3 s3 hv rv I3 T3 => ?_
    obtain ⟨rfl, Γ4, sp, hJ'⟩ := hv
    have I3' := I3.weak .refl sp
    have T3' := T3.weak sp
    refine tri_append (n := n) hlen rv (Q := fun _ g => g = (acc, O.list (zs ++ [v])) :: Γ4) rfl A s3 _ ok eo rm I3' fun b a l5 Γ5 s5 h5 _ I5 T5 => ?_
    obtain ⟨rfl, rfl⟩ := h5
    have hk1 := (hJ _ _ _ hJ').1
    have T35 := T3'.trans T5 I5
    exact ⟨N - (k + 1), by omega, k + 1, zs ++ [v], Γ4, rfl, hJ', I5.weak le .refl, T02.trans T35 I5, hat2.keeps fun x hx o e => T35.keep x o e (ap x hx).2.1 (ap x hx).1, ap.step T35 hat2⟩

theorem comp_core2 {elt target iter t2 i2 : PySem.Expr} {isc : Scope} {cpos pos : Pos} {tg tg2 : MTg} {it it2 : MI} {me : ME} {use : Option (Value → Sem Unit)} {Q : V → Led → Prop} {A : Around} {s₀ : Shared} {Qc : Value → Shared → Prop}
    (hs : ∀ x, foldedSetIterable iter env x = pure x) (hs2 : ∀ env x, foldedSetIterable i2 env x = pure x) (hok : compOk isc env.scope = true) (htg : TgIs isc target tg) (htg2 : TgIs isc t2 tg2) (hi : SI X n env iter it)
    (hi2 : ∀ cl C, SI X n (compEnvC isc cl C env) i2 it2) (he : ∀ cl C, SE X n (compEnvC isc cl C env) elt me)
    (q : wpE X n (.comp2 (capIdx isc env.scope) tg it tg2 it2 me) loc Γ Q) (ok : X.Ok) (eo : EnvOk X env) (rm : Room n A) (I₀ : Invt X env loc Γ s₀.heap)
    (fin : ∀ acc Γ' s' C, Q (.ref acc) Γ' → Invt X env loc Γ' s'.heap → Tr env Γ s₀ Γ' s' → (∃ m, s'.heap.Ns C m) → Apart X env Γ' [C] → (∀ o, s₀.heap.get? C = some o → C ∈ keys Γ ∨ footF env C) → compPost X.M A never use Qc (.ref acc) C (.ok .next) s') :
    wpAny X.M A (comprehension (lc2 elt target iter t2 i2 isc cpos) isc env pos (newList []) false (eval iter env) use) Qc never s₀ := by
  have CS := compSc_of hok
  obtain ⟨cl, hclos, hcl⟩ := closure_ok (sc := isc) (env := env) fun y hy hf => by
    rcases CS.kinds y hy with h | h | h
    · rw [h] at hf; cases hf
    · rw [h] at hf; cases hf
    · obtain ⟨c, _, e, _⟩ := I₀.loc.c y.1 h.2
      exact ⟨c, e⟩
  refine wpAny_comprehension_free rfl hs hclos CS.kind (fun x hx hl => hl ▸ CS.look x hx) ?_
  refine hi loc Γ _ q A s₀ _ ok eo rm I₀ fun src Γ₁ Ia fp s₁ hq I₁ T₁ hat₁ hfr ap₁ => ?_
  obtain ⟨N, J, hJ0, hJ⟩ := hq s₁.heap.objs.size
  refine wpAny_newObj_type ?_ (Nat.zero_le _)
  have fr : ∀ b ∈ kf (s₁.heap.objs.size, O.list []), s₁.heap.get? b = none := fun b hb => by
    rw [List.mem_singleton.mp hb]; exact get?_size
  have kp₁ : ∀ b o', s₁.heap.get? b = some o' → (s₁.heap.push { cls := .type "list", dict := none, data := .seq ([] : List Value).toArray }).get? b = some o' := fun b o' e => Heap.get?_push_of_some _ e
  have I₂ := I₁.grow (ob := .list []) kp₁ fr (by simp [kf]) ⟨[], 0, Heap.get?_push_size _ rfl, .nil⟩
  have T₂ : Tr env Γ s₀ ((s₁.heap.objs.size, O.list []) :: Γ₁) { s₁ with heap := s₁.heap.push { cls := .type "list", dict := none, data := .seq ([] : List Value).toArray } } := T₁.trans (Tr.grow kp₁ fr rfl rfl) I₂
  have hat₂ : SrcAt src 0 Ia fp (s₁.heap.push { cls := .type "list", dict := none, data := .seq ([] : List Value).toArray }) := hat₁.keeps fun b _ o e => kp₁ b o e
  have ap₂ : Apart X env ((s₁.heap.objs.size, O.list []) :: Γ₁) fp := ap₁.step (Tr.grow (s' := { s₁ with heap := s₁.heap.push { cls := .type "list", dict := none, data := .seq ([] : List Value).toArray } }) kp₁ fr rfl rfl) hat₁
  generalize hacc : s₁.heap.objs.size = acc at *
  generalize hH : s₁.heap.push { cls := .type "list", dict := none, data := .seq ([] : List Value).toArray } = H at *
  refine wpAny_newFunctionEnv (fun y hy => ?_) (by intro y hy; simp at hy) (fun h₃ hns hsb => ?_) CS.kind
  · intro hk
    rcases CS.kinds y hy with h | h | h
    · rw [hk] at h; cases h
    · rw [hk] at h; cases h
    · rw [hk] at h; cases h.1
  dsimp only at hns hsb ⊢
  have kp₃ : ∀ b o, H.get? b = some o → h₃.get? b = some o := fun b o e => hsb.extBut b o (fun z => absurd (Heap.lt_size e) (by rw [z]; exact Nat.lt_irrefl _)) (Heap.get?_push_of_some _ e)
  have hCn : H.get? H.objs.size = none := get?_size
  have hfC : ¬ footF env H.objs.size := fun z => by obtain ⟨o, ho⟩ := I₂.loc.foot_lt z; rw [hCn] at ho; cases ho
  have hkC : H.objs.size ∉ keys ((acc, O.list []) :: Γ₁) := fun z => by obtain ⟨o, ho⟩ := I₂.keyThere z; rw [hCn] at ho; cases ho
  have hBC : X.hB.get? H.objs.size = none := by
    cases q : X.hB.get? H.objs.size with
    | none => rfl
    | some o => rw [I₂.base _ o q] at hCn; cases hCn
  have hpC : H.objs.size ∉ fp := fun z => by obtain ⟨o, ho⟩ := hat₂.there _ z; rw [hCn] at ho; cases ho
  have hs0C : ∀ o, s₀.heap.get? H.objs.size = some o → H.objs.size ∈ keys Γ ∨ footF env H.objs.size := fun o e => by
    by_cases hk : H.objs.size ∈ keys Γ
    · exact .inl hk
    · have := T₂.keep _ o e hfC hk
      rw [hCn] at this; cases this
  have hBs : X.hB.objs.size ≤ H.objs.size := by
    have h1 := eo.size
    obtain ⟨o, ho⟩ := I₂.loc.foot_lt (a := env.locals) (.inl rfl)
    exact Nat.le_trans h1 (Nat.le_of_lt (Heap.lt_size ho))
  generalize hCC : H.objs.size = C at *
  have D : InComp isc env cl C := ⟨CS, hcl, hfC⟩
  have ceo : EnvOk X (compEnvC isc cl C env) := ce_ok D eo hBs
  have frC : ∀ x ∈ C :: fp, ∀ o, s₀.heap.get? x = some o → x ∈ keys Γ ∨ footF env x := fun x hx o e => by
    rcases List.mem_cons.mp hx with rfl | hx
    · exact hs0C o e
    · exact hfr x hx o e
  have hfpn : ∀ x ∈ fp, ¬ footF env x := fun x hx => (ap₁ x hx).2.1
  have tgf := tgFree_of CS htg
  have tgr : TgIs (compEnvC isc cl C env).scope target tg := tgIs_relab CS eo.kind htg
  have tgr2 : TgIs (compEnvC isc cl C env).scope t2 tg2 := tgIs_relab CS eo.kind htg2
  have I₃ : Invt X env loc ((acc, O.list []) :: Γ₁) h₃ := I₂.still kp₃
  have J₃ : Invt X (compEnvC isc cl C env) (capOf loc (capIdx isc env.scope)) ((acc, O.list []) :: Γ₁) h₃ := ⟨I₃.base, locR_comp D eo I₃.loc hns, I₃.led, I₃.nd, fun k hk => ⟨(I₃.ap k hk).1, fun hf => by
    rcases ce_foot D eo.kind hf with rfl | h
    · exact hkC hk
    · exact (I₃.ap k hk).2 h⟩⟩
  have T₃ : Tr env Γ s₀ ((acc, O.list []) :: Γ₁) { s₁ with heap := h₃ } := T₂.trans (Tr.still kp₃ rfl rfl) I₃
  have hat₃ : SrcAt src 0 Ia fp h₃ := hat₂.keeps fun b _ o e => kp₃ b o e
  have ap₃ : Apart X (compEnvC isc cl C env) ((acc, O.list []) :: Γ₁) fp := fun x hx => ⟨(ap₂ x hx).1, fun hf => by
    rcases ce_foot D eo.kind hf with rfl | h
    · exact hpC hx
    · exact (ap₂ x hx).2.1 h, (ap₂ x hx).2.2⟩
  have loop := outer_my (X := X) (elt := elt) (t1 := target) (i1 := iter) (t2 := t2) (i2 := i2) (scope := isc) (pos := cpos) (it := .ref Ia) (acc := .ref acc) (env := compEnvC isc cl C env) (A := A) (R := compPost X.M A never use Qc (.ref acc) C)
    (s := { s₁ with heap := h₃ }) (hs2 _)
    (fun m s => ∃ k ys Γ', m = N - k ∧ J k ys Γ' ∧ Invt X (compEnvC isc cl C env) (capOf loc (capIdx isc env.scope)) ((acc, O.list ys) :: Γ') s.heap ∧ Invt X env loc ((acc, O.list ys) :: Γ') s.heap ∧ Tr env Γ s₀ ((acc, O.list ys) :: Γ') s ∧ SrcAt src k Ia fp s.heap ∧
      Apart X (compEnvC isc cl C env) ((acc, O.list ys) :: Γ') fp) ?_ N ⟨0, [], Γ₁, rfl, hJ0, J₃, I₃, T₃, hat₃, ap₃⟩
  · exact codeAny_compStart_list loop (wpNever (iter_again (s := { s₁ with heap := h₃ }) hat₃ loop))
  rintro m s ⟨k, ys, Γ', rfl, hJk, Ic, Ie, T, hat, ap⟩
  obtain ⟨hk, hw⟩ := hJ k ys Γ' hJk
  refine draw (n := n) (A := A) ok ceo rm Ic hat ap tgr hw.grow ?_ ?_
  · intro hn s' I' T'
    obtain ⟨Ie', Te'⟩ := comp_step D eo Ie I' .refl T' hfpn
    refine fin acc _ s' C hn Ie' (T.then Te' frC Ie') (let ⟨m, hm, _⟩ := I'.loc.m; ⟨m, hm⟩) (fun x hx => ?_) hs0C
    rw [List.mem_singleton.mp hx]
    exact ⟨fun z => (I'.ap _ z).2 (.inl rfl), hfC, hBC⟩
  · intro vs hvs
    refine ⟨_, tgW_comp tgf hvs, fun l hl s2 I2 T2 hat2 => ?_⟩
    obtain ⟨hl, le⟩ := hl
    have finish : ∀ {ys' : List V} {Γ'' : Led} {s5 : Shared}, J (k + 1) ys' Γ'' → Invt X (compEnvC isc cl C env) l ((acc, O.list ys') :: Γ'') s5.heap → Tr (compEnvC isc cl C env) ((acc, O.list ys) :: Γ') s2 ((acc, O.list ys') :: Γ'') s5 →
        ∃ m, m < N - k ∧ ∃ k ys Γ', m = N - k ∧ J k ys Γ' ∧ Invt X (compEnvC isc cl C env) (capOf loc (capIdx isc env.scope)) ((acc, O.list ys) :: Γ') s5.heap ∧ Invt X env loc ((acc, O.list ys) :: Γ') s5.heap ∧ Tr env Γ s₀ ((acc, O.list ys) :: Γ') s5 ∧ SrcAt src k Ia fp s5.heap ∧
          Apart X (compEnvC isc cl C env) ((acc, O.list ys) :: Γ') fp := by
      intro ys' Γ'' s5 hJ' I5 T5
      have hat5 := hat2.keeps fun x hx o e => T5.keep x o e (ap x hx).2.1 (ap x hx).1
      have ap5 := ap.step T5 hat2
      have T05 := T2.trans (TrX.of T5) (fun k hk hp => (ap5 k hp).1 hk) I5
      obtain ⟨Ie', Te'⟩ := comp_step D eo Ie I5 le T05 hfpn
      have hk1 := (hJ _ _ _ hJ').1
      exact ⟨N - (k + 1), by omega, k + 1, ys', Γ'', rfl, hJ', I5.weak le .refl, Ie', T.then Te' frC Ie', hat5, ap5⟩
    exact inner_walk tgr2 (hi2 cl C) (he cl C) hl ok ceo rm I2 fun zs Γ'' s5 hF I5 T5 => finish hF I5 T5

theorem se_comp2 {elt target iter t2 i2 : PySem.Expr} {isc : Scope} {cpos : Pos} {tg tg2 : MTg} {it it2 : MI} {me : ME}
    (hs : ∀ x, foldedSetIterable iter env x = pure x) (hs2 : ∀ env x, foldedSetIterable i2 env x = pure x) (hok : compOk isc env.scope = true) (htg : TgIs isc target tg) (htg2 : TgIs isc t2 tg2) (hi : SI X n env iter it)
    (hi2 : ∀ cl C, SI X n (compEnvC isc cl C env) i2 it2) (he : ∀ cl C, SE X n (compEnvC isc cl C env) elt me) :
    SE X n env (.ListComp elt [⟨target, iter, [], 0⟩, ⟨t2, i2, [], 0⟩] isc cpos) (.comp2 (capIdx isc env.scope) tg it tg2 it2 me) := by
  intro loc Γ Q q A s Qc ok eo rm I k
  rw [eval_ListComp]
  refine comp_core2 hs hs2 hok htg htg2 hi hi2 he q ok eo rm I fun acc Γ' s' C hq I' T hn ap frC => ?_
  obtain ⟨m, hn⟩ := hn
  refine ⟨m, hn, fun h' hsb => ?_⟩
  have kp : ∀ b o, s'.heap.get? b = some o → b ∉ [C] → h'.get? b = some o := fun b o e hb => (hsb.2 b fun z => hb (by rw [z]; exact List.mem_singleton_self _)).trans e
  have I2 := I'.butFp ap kp
  refine k (.ref acc) _ loc Γ' _ ⟨rfl, hq⟩ rfl I2 (T.then (fp := [C]) (s₁ := { s' with heap := h' }) ⟨fun b o e _ _ hb => kp b o e hb, fun _ h => .inl h, rfl, rfl⟩ (fun x hx o e => ?_) I2)
  rw [List.mem_singleton.mp hx] at e ⊢
  exact frC o e
end Mine


open PySem PySem.W PyProof.Rows PySem.Calls
set_option Elab.async false
set_option maxRecDepth 100000
set_option linter.unusedVariables false
namespace Mine
variable {X : Cx} {n : Nat}

theorem noSet_ok {e : PySem.Expr} (h : noSet e = true) (env : Env) : ∀ x, foldedSetIterable e env x = pure x := by
  intro x
  cases e <;> first | rfl | cases h
structure PF (X : Cx) (n : Nat) (T : Tab) (f : Nat) : Prop where
  e : ∀ (env : Env) e m, trE T f env.scope e = some m → SE X n env e m
  o : ∀ (env : Env) e m, trO T f env.scope e = some m → SO X n env e m
  es : ∀ (env : Env) e m, trEs T f env.scope e = some m → e.all plainArg = true → SEs X n env e m
  t : ∀ (env : Env) e m, trT T f env.scope e = some m → ST X n env e m
  ts : ∀ (env : Env) op e m, trTs T f env.scope op e = some m → STs X n env op e m
  ifs : ∀ (env : Env) e m, trIfs T f env.scope e = some m → SIfs X n env e m
  i : ∀ (env : Env) e m, trI T f env.scope e = some m → SI X n env e m

theorem bind2 {α β : Type} {a : Option α} {f : α → Option β} {b : β} (h : a.bind f = some b) : ∃ x, a = some x ∧ f x = some b := Option.bind_eq_some_iff.mp h
theorem map2 {α β : Type} {a : Option α} {f : α → β} {b : β} (h : a.map f = some b) : ∃ x, a = some x ∧ f x = b := Option.map_eq_some_iff.mp h

theorem notSlice {i : PySem.Expr} (hn : ∀ l u s p, i = .Slice l u s p → False) : isSlice i = false := by
  cases i <;> first | rfl | exact (hn _ _ _ _ rfl).elim
theorem pf_zero {T : Tab} : PF X n T 0 where
  e := fun _ _ _ h => by cases h
  o := fun _ _ _ h => by cases h
  es := fun _ _ _ h => by cases h
  t := fun _ _ _ h => by cases h
  ts := fun _ _ _ _ h => by cases h
  ifs := fun _ _ _ h => by cases h
  i := fun _ _ _ h => by cases h

theorem call_case {T : Tab} (tok : TabOk T X) {f : Nat} (P : PF X n T f) (env : Env) {fn : PySem.Expr} {args : List PySem.Expr} {kws : List Keyword} {pos : Pos} {m : ME} (h : trE T (f + 1) env.scope (.Call fn args kws pos) = some m) : SE X n env (.Call fn args kws pos) m := by
  rw [trE.eq_def] at h
  dsimp only at h
  split at h
  · rename_i hc
    simp only [Bool.and_eq_true, decide_eq_true_eq] at hc
    obtain ⟨⟨h1, h2⟩, h3⟩ := hc
    cases kws with
    | cons _ _ => cases h1
    | nil =>
    split at h
    · rename_i o name apos
      split at h
      · rename_i hc
        rw [Bool.and_eq_true] at hc
        obtain ⟨a, ha, h⟩ := bind2 h
        obtain ⟨k, hk, h⟩ := bind2 h
        obtain ⟨as, has, rfl⟩ := map2 h
        exact se_meth hc.1 hc.2 (tok.at_ ▸ idxOf_some hk) h2 h3 (P.e env _ _ ha) (P.es env _ _ has h2)
      · cases h
    · rename_i hn
      obtain ⟨a, ha, h⟩ := bind2 h
      obtain ⟨as, has, rfl⟩ := map2 h
      exact se_call (fun o a p e => hn o a p e) h2 (P.e env _ _ ha) (P.es env _ _ has h2)
  · cases h

theorem pf_e {T : Tab} (tok : TabOk T X) {f : Nat} (P : PF X n T f) (env : Env) (e : PySem.Expr) (m : ME) (h : trE T (f + 1) env.scope e = some m) : SE X n env e m := by
  by_cases hcall : ∃ fn args kws pos, e = .Call fn args kws pos
  · obtain ⟨fn, args, kws, pos, rfl⟩ := hcall
    exact call_case tok P env h
  rw [trE.eq_def] at h
  dsimp only at h
  split at h
  · exact se_const (by revert h; rename_i c _ _; cases c <;> exact id)
  · exact se_name tok h
  · obtain ⟨a, ha, h⟩ := bind2 h
    obtain ⟨b, hb, rfl⟩ := map2 h
    exact se_bin (P.e env _ _ ha) (P.e env _ _ hb)
  · split at h
    · rename_i op _ _ hop
      rw [eq_of_beq hop]
      obtain ⟨a, ha, rfl⟩ := map2 h
      exact se_neg (P.e env _ _ ha)
    · cases h
  · split at h
    · split at h
      · cases h
      · rename_i hm
        obtain ⟨a, ha, h⟩ := bind2 h
        obtain ⟨b, hb, rfl⟩ := map2 h
        exact se_cmp (by simpa using hm) (P.e env _ _ ha) (P.e env _ _ hb)
    · cases h
  · obtain ⟨c, hc, h⟩ := bind2 h
    obtain ⟨a, ha, h⟩ := bind2 h
    obtain ⟨b, hb, rfl⟩ := map2 h
    exact se_ite (P.t env _ _ hc) (P.e env _ _ ha) (P.e env _ _ hb)
  · exact absurd ⟨_, _, _, _, rfl⟩ hcall
  · split at h
    · rename_i hb
      obtain ⟨a, ha, h⟩ := bind2 h
      obtain ⟨k, hk, rfl⟩ := map2 h
      exact se_attr hb (tok.at_ ▸ idxOf_some hk) (P.e env _ _ ha)
    · cases h
  · obtain ⟨a, ha, h⟩ := bind2 h
    split at h
    · obtain ⟨l, hl, h⟩ := bind2 h
      obtain ⟨u, hu, h⟩ := bind2 h
      obtain ⟨st, hst, rfl⟩ := map2 h
      exact se_slice (P.e env _ _ ha) (P.o env _ _ hl) (P.o env _ _ hu) (P.o env _ _ hst)
    · rename_i hn
      obtain ⟨i, hi, rfl⟩ := map2 h
      exact se_sub (notSlice hn) (P.e env _ _ ha) (P.e env _ _ hi)
  · split at h
    · rename_i hp
      obtain ⟨a, ha, rfl⟩ := map2 h
      exact se_list (P.es env _ _ ha hp)
    · cases h
  · split at h
    · rename_i hp
      obtain ⟨a, ha, rfl⟩ := map2 h
      exact se_tup (P.es env _ _ ha hp)
    · cases h
  · split at h
    · rename_i ks vs _ hd
      cases h
      rw [Bool.and_eq_true] at hd
      rw [List.isEmpty_iff.mp hd.1, List.isEmpty_iff.mp hd.2]
      exact se_dict
    · cases h
  · split at h
    · rename_i hok
      split at h
      · split at h
        · rename_i hns
          obtain ⟨t, ht, h⟩ := bind2 h
          obtain ⟨it, hit, h⟩ := bind2 h
          obtain ⟨c, hc, h⟩ := bind2 h
          obtain ⟨e, he, rfl⟩ := map2 h
          exact se_comp (noSet_ok hns env) hok (tgIs_of ht) (P.i env _ _ hit) (fun cl C => P.ifs (compEnvC _ cl C env) _ _ hc) (fun cl C => P.e (compEnvC _ cl C env) _ _ he)
        · cases h
      · split at h
        · rename_i hns
          rw [Bool.and_eq_true] at hns
          obtain ⟨t, ht, h⟩ := bind2 h
          obtain ⟨it, hit, h⟩ := bind2 h
          obtain ⟨t2, ht2, h⟩ := bind2 h
          obtain ⟨it2, hit2, h⟩ := bind2 h
          obtain ⟨e, he, rfl⟩ := map2 h
          exact se_comp2 (noSet_ok hns.1 env) (noSet_ok hns.2) hok (tgIs_of ht) (tgIs_of ht2) (P.i env _ _ hit) (fun cl C => P.i (compEnvC _ cl C env) _ _ hit2) (fun cl C => P.e (compEnvC _ cl C env) _ _ he)
        · cases h
      · cases h
    · cases h
  · cases h

theorem pf_o {T : Tab} {f : Nat} (P : PF X n T f) (env : Env) (e : Option PySem.Expr) (m : ME) (h : trO T (f + 1) env.scope e = some m) : SO X n env e m := by
  cases e with
  | none => cases h; exact so_none
  | some e => exact so_some (P.e env _ _ h)
theorem pf_es {T : Tab} {f : Nat} (P : PF X n T f) (env : Env) (e : List PySem.Expr) (m : MEs) (h : trEs T (f + 1) env.scope e = some m) (hp : e.all plainArg = true) : SEs X n env e m := by
  cases e with
  | nil => cases h; exact ses_nil
  | cons e r =>
    rw [trEs.eq_def] at h
    dsimp only at h
    obtain ⟨a, ha, h⟩ := bind2 h
    obtain ⟨b, hb, rfl⟩ := map2 h
    rw [List.all_cons, Bool.and_eq_true] at hp
    exact ses_cons hp.1 (P.e env _ _ ha) (P.es env _ _ hb hp.2)
theorem pf_ts {T : Tab} {f : Nat} (P : PF X n T f) (env : Env) (op : BoolOp) (e : List PySem.Expr) (m : MT) (h : trTs T (f + 1) env.scope op e = some m) : STs X n env op e m := by
  cases e with
  | nil => cases op <;> cases h <;> first | exact sts_and_nil | exact sts_or_nil
  | cons e r =>
    rw [trTs.eq_def] at h
    dsimp only at h
    obtain ⟨a, ha, h⟩ := bind2 h
    obtain ⟨b, hb, rfl⟩ := map2 h
    cases op with
    | And => exact sts_and (P.t env _ _ ha) (P.ts env _ _ _ hb)
    | Or => exact sts_or (P.t env _ _ ha) (P.ts env _ _ _ hb)
theorem pf_ifs {T : Tab} {f : Nat} (P : PF X n T f) (env : Env) (e : List PySem.Expr) (m : MT) (h : trIfs T (f + 1) env.scope e = some m) : SIfs X n env e m := by
  rw [trIfs.eq_def] at h
  dsimp only at h
  split at h
  · cases h; exact sifs_nil
  · exact sifs_one (P.t env _ _ h)
  · cases h
theorem pf_t {T : Tab} {f : Nat} (P : PF X n T f) (env : Env) (e : PySem.Expr) (m : MT) (h : trT T (f + 1) env.scope e = some m) : ST X n env e m := by
  rw [trT.eq_def] at h
  dsimp only at h
  split at h
  · split at h
    · rename_i hop
      rw [eq_of_beq hop]
      obtain ⟨a, ha, rfl⟩ := map2 h
      exact st_not (P.t env _ _ ha)
    · cases h
  · exact st_bool (P.ts env _ _ _ h)
  · cases h
  · split at h
    · split at h
      · cases h
      · rename_i hm
        obtain ⟨a, ha, h⟩ := bind2 h
        obtain ⟨b, hb, rfl⟩ := map2 h
        exact st_cmp (by simpa using hm) (P.e env _ _ ha) (P.e env _ _ hb)
    · cases h
  · rename_i h1 h2 h3 h4
    obtain ⟨a, ha, rfl⟩ := map2 h
    refine st_val ?_ (P.e env _ _ ha)
    cases e <;> first
      | rfl
      | exact (h1 _ _ _ rfl).elim
      | exact (h2 _ _ _ rfl).elim
      | exact (h3 _ _ _ _ rfl).elim
      | exact (h4 _ _ _ _ rfl).elim
theorem over_of {T : Tab} {f : Nat} (P : PF X n T f) (env : Env) {e : PySem.Expr} {m : MI} (h : (trE T f env.scope e).map MI.over = some m) : SI X n env e m := by
  obtain ⟨a, ha, rfl⟩ := map2 h
  exact si_over (P.e env _ _ ha)
theorem pf_i {T : Tab} (tok : TabOk T X) {f : Nat} (P : PF X n T f) (env : Env) (e : PySem.Expr) (m : MI) (h : trI T (f + 1) env.scope e = some m) : SI X n env e m := by
  rw [trI.eq_def] at h
  dsimp only at h
  split at h
  · split at h
    · rename_i hc
      rw [Bool.and_eq_true] at hc
      obtain ⟨a, ha, rfl⟩ := map2 h
      exact si_rng tok hc.1 hc.2 (P.e env _ _ ha)
    split at h
    · rename_i hc
      rw [Bool.and_eq_true] at hc
      obtain ⟨a, ha, rfl⟩ := map2 h
      exact si_enum tok hc.1 hc.2 (P.e env _ _ ha)
    split at h
    · rename_i hc
      rw [Bool.and_eq_true] at hc
      obtain ⟨a, ha, rfl⟩ := map2 h
      exact si_rev tok hc.1 hc.2 (P.e env _ _ ha)
    exact over_of P env h
  · split at h
    · rename_i hc
      rw [Bool.and_eq_true, Bool.and_eq_true] at hc
      obtain ⟨a, ha, h⟩ := bind2 h
      obtain ⟨b, hb, rfl⟩ := map2 h
      exact si_rng2 tok hc.1.1 hc.1.2 hc.2 (P.e env _ _ ha) (P.e env _ _ hb)
    split at h
    · rename_i hc
      rw [Bool.and_eq_true, Bool.and_eq_true] at hc
      obtain ⟨a, ha, h⟩ := bind2 h
      obtain ⟨b, hb, rfl⟩ := map2 h
      exact si_zip tok hc.1.1 hc.1.2 hc.2 (P.e env _ _ ha) (P.e env _ _ hb)
    exact over_of P env h
  · split at h
    · exact over_of P env h
    · cases h
theorem pf {T : Tab} (tok : TabOk T X) : ∀ f, PF X n T f
  | 0 => pf_zero
  | f + 1 => have P := pf tok f
    ⟨pf_e tok P, pf_o P, pf_es P, pf_t P, pf_ts P, pf_ifs P, pf_i tok P⟩

theorem slotOf_ok {env : Env} {x : Str} {i : Nat} (h : slotOf env.scope x = some i) : (slotsOf env.scope)[i]? = some x ∧ (env.kindOf x = some .local ∨ env.kindOf x = some .cell) := by
  unfold slotOf at h
  split at h
  · rename_i hk
    exact ⟨idxOf_some h, slot_kind hk⟩
  · cases h
structure PS (X : Cx) (n : Nat) (T : Tab) (f : Nat) : Prop where
  s : ∀ (env : Env) s m, trS T f env.scope s = some m → SS X n env s m
  ss : ∀ (env : Env) s m, trSs T f env.scope s = some m → SSs X n env s m
theorem isComp_cases {e : PySem.Expr} {T : Tab} {f : Nat} {sc : Scope} {m : ME} (hc : isComp e = true) (h2 : twoGens e = false) (h : trE T f sc e = some m) :
    ∃ f' elt target iter ifs isc cpos tg it mc me, f = f' + 1 ∧ e = .ListComp elt [⟨target, iter, ifs, 0⟩] isc cpos ∧ compOk isc sc = true ∧ noSet iter = true ∧ trTg isc target = some tg ∧ trI T f' sc iter = some it ∧ trIfs T f' (relab isc sc) ifs = some mc ∧ trE T f' (relab isc sc) elt = some me ∧ m = .comp (capIdx isc sc) tg it mc me := by
  cases f with
  | zero => cases h
  | succ f =>
  rw [trE.eq_def] at h
  cases e <;> first | cases hc | skip
  · dsimp only at h
    split at h
    · rename_i hok
      split at h
      · split at h
        · rename_i hns
          obtain ⟨t, ht, h⟩ := bind2 h
          obtain ⟨it, hit, h⟩ := bind2 h
          obtain ⟨c, hc, h⟩ := bind2 h
          obtain ⟨e, he, rfl⟩ := map2 h
          exact ⟨f, _, _, _, _, _, _, _, _, _, _, rfl, rfl, hok, hns, ht, hit, hc, he, rfl⟩
        · cases h
      · cases h2
      · cases h
    · cases h
  · cases h
  · cases h
theorem ps_s {T : Tab} (tok : TabOk T X) {f : Nat} (P : PF X n T f) (S : PS X n T f) (env : Env) (s : Stmt) (m : MS) (h : trS T (f + 1) env.scope s = some m) : SS X n env s m := by
  rw [trS.eq_def] at h
  dsimp only at h
  split at h
  · cases h; exact ss_pass
  · split at h
    · cases h
    · rename_i hc
      obtain ⟨a, ha, rfl⟩ := map2 h
      exact ss_expr (by simpa using hc) (P.e env _ _ ha)
  · split at h
    · split at h
      · cases h
      · rename_i hcond
        have h2g := hcond
        rw [Bool.or_eq_true, not_or] at h2g
        obtain ⟨i, hi, h⟩ := bind2 h
        obtain ⟨a, ha, rfl⟩ := map2 h
        obtain ⟨hx, hk⟩ := slotOf_ok hi
        rename_i e _ _ _ _ _
        cases hcomp : isComp e with
        | false => exact ss_asg hcomp hx hk (P.e env _ _ ha)
        | true =>
          obtain ⟨f', elt, target, iter, ifs, isc, cpos, tg, it, mc, me, rfl, rfl, hok, hns, ht, hit, hc, he, rfl⟩ := isComp_cases hcomp (by simpa using h2g.2) ha
          have P' := pf (n := n) tok f'
          exact ss_asgComp hx hk (noSet_ok hns env) hok (tgIs_of ht) (P'.i env _ _ hit) (fun cl C => P'.ifs (compEnvC _ cl C env) _ _ hc) (fun cl C => P'.e (compEnvC _ cl C env) _ _ he)
    · split at h
      · cases h
      · rename_i hc
        obtain ⟨o, ho, h⟩ := bind2 h
        obtain ⟨k, hk, h⟩ := bind2 h
        obtain ⟨a, ha, rfl⟩ := map2 h
        exact ss_asgAttr (by simpa using hc) (tok.at_ ▸ idxOf_some hk) (P.e env _ _ ho) (P.e env _ _ ha)
    · split at h
      · cases h
      · rename_i hc
        obtain ⟨o, ho, h⟩ := bind2 h
        obtain ⟨i, hi, h⟩ := bind2 h
        obtain ⟨a, ha, rfl⟩ := map2 h
        simp only [Bool.or_eq_true, not_or, Bool.not_eq_true] at hc
        exact ss_asgSub hc.1 (P.e env _ _ ho) (P.e env _ _ hi) (P.e env _ _ ha)
    · cases h
  · split at h
    · obtain ⟨i, hi, h⟩ := bind2 h
      obtain ⟨a, ha, rfl⟩ := map2 h
      obtain ⟨hx, hk⟩ := slotOf_ok hi
      exact ss_aug hx hk (P.e env _ _ ha)
    · obtain ⟨o, ho, h⟩ := bind2 h
      obtain ⟨k, hk, h⟩ := bind2 h
      obtain ⟨a, ha, rfl⟩ := map2 h
      exact ss_augAttr (tok.at_ ▸ idxOf_some hk) (P.e env _ _ ho) (P.e env _ _ ha)
    · split at h
      · cases h
      · rename_i hc
        obtain ⟨o, ho, h⟩ := bind2 h
        obtain ⟨i, hi, h⟩ := bind2 h
        obtain ⟨a, ha, rfl⟩ := map2 h
        exact ss_augSub (by simpa using hc) (P.e env _ _ ho) (P.e env _ _ hi) (P.e env _ _ ha)
    · cases h
  · obtain ⟨t, ht, h⟩ := bind2 h
    obtain ⟨a, ha, h⟩ := bind2 h
    obtain ⟨b, hb, rfl⟩ := map2 h
    exact ss_if (P.t env _ _ ht) (S.ss env _ _ ha) (S.ss env _ _ hb)
  · split at h
    · rename_i hc
      rw [Bool.and_eq_true] at hc
      obtain ⟨t, ht, h⟩ := bind2 h
      obtain ⟨a, ha, h⟩ := bind2 h
      obtain ⟨b, hb, rfl⟩ := map2 h
      rw [List.isEmpty_iff.mp hc.1]
      exact ss_loop (noSet_ok hc.2 env) (tgIs_of ht) (P.i env _ _ ha) (S.ss env _ _ hb)
    · cases h
  · obtain ⟨a, ha, rfl⟩ := map2 h
    exact ss_ret (P.e env _ _ ha)
  · cases h; exact ss_ret0
  · cases h; exact ss_brk
  · cases h; exact ss_never
  · cases h
theorem ps {T : Tab} (tok : TabOk T X) : ∀ f, PS X n T f
  | 0 => { s := fun _ _ _ h => (by cases h), ss := fun _ _ _ h => (by cases h) }
  | f + 1 => have S := ps tok f
    ⟨ps_s tok (pf tok f) S, fun env s m h => by
      cases s with
      | nil => cases h; exact sss_nil
      | cons s r =>
        rw [trSs.eq_def] at h
        dsimp only at h
        obtain ⟨a, ha, h⟩ := bind2 h
        obtain ⟨b, hb, rfl⟩ := map2 h
        exact sss_cons (S.s env _ _ ha) (S.ss env _ _ hb)⟩
/-- the translation of a body is sound -/
theorem sound {T : Tab} (tok : TabOk T X) {f : Nat} {env : Env} {s : List Stmt} {m : MSs} (h : trSs T f env.scope s = some m) : SSs X n env s m := (ps tok f).ss env s m h
end Mine


open PySem PySem.W PyProof.Rows PySem.Calls
set_option Elab.async false
set_option maxRecDepth 100000
set_option linter.unusedVariables false
namespace Mine
variable {X : Cx} {n : Nat}

/-- what a function's scope and its parameters must be -/
def scOk (sc : Scope) (pm : List Str) : Bool := sc.kind == .function && !sc.isGenerator && !sc.isCoroutine && decide (slotsOf sc).Nodup && decide pm.Nodup && decide (sc.names.map (·.1)).Nodup &&
  pm.all fun x => sc.names.lookup x == some .local || sc.names.lookup x == some .cell
structure ScOk (sc : Scope) (pm : List Str) : Prop where
  kind : sc.kind = .function
  gen : sc.isGenerator = false
  co : sc.isCoroutine = false
  nd : (slotsOf sc).Nodup
  pnd : pm.Nodup
  nnd : (sc.names.map (·.1)).Nodup
  ps : ∀ x ∈ pm, sc.names.lookup x = some .local ∨ sc.names.lookup x = some .cell
theorem ScOk.of {sc : Scope} {pm : List Str} (h : scOk sc pm = true) : ScOk sc pm := by
  unfold scOk at h
  simp only [Bool.and_eq_true, beq_iff_eq, decide_eq_true_eq, List.all_eq_true, Bool.not_eq_true'] at h
  obtain ⟨⟨⟨⟨⟨⟨h1, h2⟩, h3⟩, h4⟩, h5⟩, h6⟩, h7⟩ := h
  exact ⟨h1, h2, h3, h4, h5, h6, fun x hx => slot_kind (h7 x hx)⟩

theorem bindL_notin {k : Str → Option NameKind} : ∀ {bs : List (Str × Value)} {m : Str → Option Value} {x : Str}, x ∉ bs.map (·.1) → bindL k bs m x = m x
  | [], _, _, _ => rfl
  | (y, v) :: r, m, x, h => by
    rw [List.map_cons, List.mem_cons, not_or] at h
    unfold bindL
    rw [bindL_notin h.2]
    split
    · simp [h.1]
    · rfl
theorem bindC_notin {k : Str → Option NameKind} : ∀ {bs : List (Str × Value)} {m : Str → Option Value} {x : Str}, x ∉ bs.map (·.1) → bindC k bs m x = m x
  | [], _, _, _ => rfl
  | (y, v) :: r, m, x, h => by
    rw [List.map_cons, List.mem_cons, not_or] at h
    unfold bindC
    rw [bindC_notin h.2]
    split
    · rfl
    · simp [h.1]
theorem bindL_in {k : Str → Option NameKind} : ∀ {bs : List (Str × Value)} {m : Str → Option Value} {x : Str} {v : Value}, (bs.map (·.1)).Nodup → (x, v) ∈ bs → k x = some .local → bindL k bs m x = some v
  | (y, u) :: r, m, x, v, nd, h, hk => by
    rw [List.map_cons, List.nodup_cons] at nd
    unfold bindL
    rcases List.mem_cons.mp h with e | h
    · cases e
      rw [bindL_notin nd.1, if_pos hk]
      simp
    · exact bindL_in nd.2 h hk
theorem bindC_in {k : Str → Option NameKind} : ∀ {bs : List (Str × Value)} {m : Str → Option Value} {x : Str} {v : Value}, (bs.map (·.1)).Nodup → (x, v) ∈ bs → k x ≠ some .local → bindC k bs m x = some v
  | (y, u) :: r, m, x, v, nd, h, hk => by
    rw [List.map_cons, List.nodup_cons] at nd
    unfold bindC
    rcases List.mem_cons.mp h with e | h
    · cases e
      rw [bindC_notin nd.1, if_neg hk]
      simp
    · exact bindC_in nd.2 h hk
theorem cellsFrom_some : ∀ (names : List (Str × NameKind)) (a : Nat) (acc : List (Str × Addr)) (x : Str), ((acc.lookup x).isSome = true ∨ (x, NameKind.cell) ∈ names) → ((cellsFrom a names acc).lookup x).isSome = true
  | [], _, _, _, h => by rcases h with h | h; · exact h
                         · cases h
  | (y, k) :: r, a, acc, x, h => by
    unfold cellsFrom
    split
    · rename_i hk
      refine cellsFrom_some r _ _ x ?_
      by_cases e : x = y
      · subst e; left; simp
      · rcases h with h | h
        · left; rw [List.lookup_cons, beq_eq_false_iff_ne.mpr e]; exact h
        · right
          rcases List.mem_cons.mp h with z | z
          · cases z; exact absurd rfl e
          · exact z
    · rename_i hk
      refine cellsFrom_some r _ _ x ?_
      rcases h with h | h
      · exact .inl h
      · rcases List.mem_cons.mp h with z | z
        · cases z; exact absurd rfl hk
        · exact .inr z
theorem VRs.zip_mem {pm : List Str} {vs : List V} {vs' : List Value} (r : VRs vs vs') : ∀ {x : Str} {v : V}, (pm.zip vs).lookup x = some v → ∃ v', (x, v') ∈ pm.zip vs' ∧ VR v v' := by
  induction r generalizing pm with
  | nil => intro x v h; rw [List.zip_nil_right] at h; cases h
  | cons rv _ ih =>
    intro x v h
    cases pm with
    | nil => cases h
    | cons p pm =>
      rw [List.zip_cons_cons, List.lookup_cons] at h
      split at h
      · rename_i e
        cases h
        exact ⟨_, by rw [List.zip_cons_cons, eq_of_beq e]; exact List.mem_cons_self, rv⟩
      · obtain ⟨v', hm, r⟩ := ih h
        exact ⟨v', by rw [List.zip_cons_cons]; exact List.mem_cons_of_mem _ hm, r⟩
def initLoc (sc : Scope) (pm : List Str) (vs : List V) : Loc := (slotsOf sc).map fun x => (pm.zip vs).lookup x
theorem zip_nodup {pm : List Str} {vs : List Value} (h : pm.Nodup) : ((pm.zip vs).map (·.1)).Nodup := by
  induction pm generalizing vs with
  | nil => simp
  | cons p pm ih =>
    cases vs with
    | nil => simp
    | cons v vs =>
      rw [List.zip_cons_cons, List.map_cons, List.nodup_cons]
      rw [List.nodup_cons] at h
      refine ⟨fun z => h.1 ?_, ih h.2⟩
      obtain ⟨⟨a, b⟩, hm, e⟩ := List.mem_map.mp z
      dsimp only at e
      subst e
      exact (List.of_mem_zip hm).1

def FnPost (Q : V → Led → Prop) : Fl → Loc → Led → Prop := fun fl _ Γ => match fl with
  | .ret v => ∃ Γ', SubP Γ' Γ ∧ Q v Γ'
  | .next => ∃ Γ', SubP Γ' Γ ∧ Q .none Γ'
  | .brk => False

/-- a call, at the level of code -/
def callC (X : Cx) (n : Nat) (fv : V) (vs : List V) (Γ : Led) (Q : V → Led → Prop) : Prop :=
  ∀ fv' vs', VR fv fv' → VRs vs vs' → ∀ env loc A s (Qc : Value → Shared → Prop), X.Ok → EnvOk X env → Room n A → Invt X env loc Γ s.heap →
    (∀ b a Γ' s', Q b Γ' → VR b a → Invt X env loc Γ' s'.heap → Tr env Γ s Γ' s' → Qc a s') → ∀ R : Result → Shared → Prop, (∀ a s', Qc a s' → R (.ok (.ret a)) s') → codeAny X.M A (.call fv' ⟨vs', []⟩) R s
theorem callC.w {fv : V} {vs : List V} {Γ : Led} {Q : V → Led → Prop} (h : callC X n fv vs Γ Q) : callW X n fv vs Γ Q :=
  fun fv' vs' rf rvs env loc A s Qc ok eo rm I k => wpAny_call (h fv' vs' rf rvs env loc A s Qc ok eo rm I (fun b a Γ' s' q r I' T => k b a loc Γ' s' ⟨rfl, q⟩ r I' T) _ fun _ _ h => h)
theorem codeAny_call_cellsB {prog : Program} {w : World} {A : Around} {s : Shared} {R : Result → Shared → Prop} {a : Addr} {o : Obj} {fd : FuncData} {body : List Stmt} {vals : List Value} {binds : List (Str × Value)}
    (hroom : A.depth < recursionLimit) (ho : s.heap.get? a = some o) (hdata : o.data = .func fd) (hlim : s.heap.NoLimit) (hcd : s.heap.CodeRec fd.code fd.qualname)
    (hbody : fd.body = .stmts body) (hbind : BindsTo s fd ⟨vals, []⟩ binds) (hclo : fd.closure = [])
    (hkind : ∀ x ∈ binds, fd.scope.names.lookup x.1 = some .local ∨ (fd.scope.names.lookup x.1 = some .cell ∧ ((cellsFrom (s.heap.objs.size + 1) fd.scope.names []).lookup x.1).isSome = true))
    (h : ∀ s₁, InCallC s (callEnvC fd s.heap.objs.size a).locals (bindL (callEnvC fd s.heap.objs.size a).kindOf binds fun _ => none) (callEnvC fd s.heap.objs.size a).cells
        (bindC (callEnvC fd s.heap.objs.size a).kindOf binds fun _ => none) s₁ →
      wpAny (model prog w) (A.deeper (callEnvC fd s.heap.objs.size a)) (execs body (callEnvC fd s.heap.objs.size a)) (fun f s' => R (.ok (.ret (match f with | .ret v => v | _ => .none))) s')
        (fun e s' => wpAny (model prog w) (A.deeper (callEnvC fd s.heap.objs.size a)) (leaving (callEnvC fd s.heap.objs.size a) e) (fun _ s'' => R (.error e) s'') (fun e' s'' => R (.error e') s'') s') s₁)
    (hco : fd.scope.isCoroutine = false) (hgen : fd.scope.isGenerator = false) (hk : fd.scope.kind = .function) :
    codeAny (model prog w) A (.call (.ref a) ⟨vals, []⟩) R s := by
  refine codeAny_call_function hroom ho hdata hco hgen hbody hcd (hbind _ _ _ _ ?_)
  rw [hclo]
  refine wpAny_newFunctionEnv_cells hk hkind fun env he s' x => ?_
  subst he
  exact ⟨hlim.keeps x.toInCall.keep, codeAny_func (h s' x)⟩
theorem callC_fn {f : Addr} {fd : FuncData} {body : List Stmt} {m : MSs} {T : Tab} {fu : Nat} {pm : List Str} {vs : List V} {Γ : Led} {Q : V → Led → Prop}
    (tok : TabOk T X) (ho : ∃ oc od osl, X.K.lookup f = some ⟨oc, od, .func fd, osl⟩) (hcd : codeIn X.K fd.code fd.qualname = true) (hbody : fd.body = .stmts body) (hclo : fd.closure = []) (hg : fd.globals = mainGlobals) (hb : fd.builtins = builtinsNs)
    (hsc : scOk fd.scope pm = true) (hbind : ∀ vals : List Value, vals.length = pm.length → ∀ s : Shared, X.Ok → (∀ b o, X.hB.get? b = some o → s.heap.get? b = some o) → BindsTo s fd ⟨vals, []⟩ (pm.zip vals)) (htr : trSs T fu fd.scope body = some m)
    (hlen : vs.length = pm.length) (q : wpSs X n m (initLoc fd.scope pm vs) Γ (FnPost Q)) : callC X (n + 1) (.val (.ref f)) vs Γ Q := by
  intro fv' vs' rf rvs env loc A s Qc ok eo rm I k R kR
  cases (show fv' = .ref f from rf)
  obtain ⟨oc, od, osl, ho⟩ := ho
  have S := ScOk.of hsc
  have ho' := I.base _ _ (ok.kin _ _ ho)
  refine (codeAny_call_cellsB (by have := rm.depth; omega) ho' rfl (ok.nolimit.keeps I.base) ((codeRec_of ok.kin hcd).keeps I.base) hbody (hbind vs' (by rw [rvs.length, hlen]) s ok I.base) hclo ?_ ?_ S.co S.gen S.kind)
  · intro x hx
    have hp := (List.of_mem_zip (show (x.1, x.2) ∈ pm.zip vs' from hx)).1
    rcases S.ps _ hp with h | h
    · exact .inl h
    · exact .inr ⟨h, cellsFrom_some _ _ _ _ (.inr (mem_of_lookup h))⟩
  intro s₁ C
  obtain ⟨h₁, tk, rfl, kp⟩ := C.done
  generalize hce : callEnvC fd s.heap.objs.size f = ce at *
  have cl : ce.locals = s.heap.objs.size := by rw [← hce]; rfl
  have cs : ce.scope = fd.scope := by rw [← hce]; rfl
  have cg : ce.globals = mainGlobals := by rw [← hce]; exact hg
  have cb : ce.builtins = builtinsNs := by rw [← hce]; exact hb
  have cc : ce.cells = cellsFrom (s.heap.objs.size + 1) fd.scope.names [] := by rw [← hce]; rfl
  have ck : ∀ x, ce.kindOf x = fd.scope.names.lookup x := fun x => by rw [kindOf_eq, cs]
  have hBs : X.hB.objs.size ≤ s.heap.objs.size := by
    have h1 := eo.size
    obtain ⟨o, ho⟩ := I.loc.foot_lt (a := env.locals) (.inl rfl)
    exact Nat.le_trans h1 (Nat.le_of_lt (Heap.lt_size ho))
  have ff : ∀ a, footF ce a → s.heap.objs.size ≤ a := fun a ha => by
    rcases ha with rfl | ⟨x, hx, e⟩
    · exact Nat.le_of_eq cl.symm
    · have := C.above x a (PySem.mem_of_lookup e)
      rw [cl] at this
      exact Nat.le_of_lt this
  have ffn : ∀ a o, s.heap.get? a = some o → ¬ footF ce a := fun a o e z => absurd (Heap.lt_size e) (Nat.not_lt.mpr (ff a z))
  have ceo : EnvOk X ce := by
    refine ⟨by rw [cs]; exact S.kind, cg, cb, by rw [cs]; exact S.nd, fun x c hx e => ?_, fun x y c hx hy e1 e2 => ?_, by rw [cl]; exact hBs, fun a ha => Heap.get?_none_of_le (Nat.le_trans hBs (ff a ha))⟩
    · have := C.above x c (PySem.mem_of_lookup e)
      exact fun z => absurd this (by rw [z]; exact Nat.lt_irrefl _)
    · exact name_of_addr C.apart (PySem.mem_of_lookup e1) (PySem.mem_of_lookup e2)
  have slot : ∀ (i : Nat) x v, (slotsOf ce.scope)[i]? = some x → (initLoc fd.scope pm vs)[i]? = some (some v) → ∃ v', (x, v') ∈ pm.zip vs' ∧ VR v v' := fun i x v hx hv => by
    rw [cs] at hx
    unfold initLoc at hv
    rw [List.getElem?_map, hx, Option.map_some, Option.some.injEq] at hv
    exact rvs.zip_mem hv
  have nd := zip_nodup (vs := vs') S.pnd
  have Ic : Invt X ce (initLoc fd.scope pm vs) Γ h₁ := by
    refine ⟨fun b o e => kp b o (I.base b o e), ⟨⟨_, C.toInCall.ns, fun i x v hx hk hv => ?_⟩, fun x hx => ?_, fun i x v hx hk hv => ?_⟩, fun e he => (I.led e he).keep fun b _ x hx => kp b x hx, I.nd, fun k hk => ⟨(I.ap k hk).1, fun hf => ?_⟩⟩
    · obtain ⟨v', hm, r⟩ := slot i x v hx hv
      exact ⟨v', bindL_in nd hm hk, r⟩
    · have : ((ce.cells).lookup x).isSome = true := by
        rw [cc]
        exact cellsFrom_some _ _ _ _ (.inr (mem_of_lookup (by rw [← ck]; exact hx)))
      obtain ⟨c, hc⟩ := Option.isSome_iff_exists.mp this
      exact ⟨c, _, hc, C.cell x c hc⟩
    · obtain ⟨v', hm, r⟩ := slot i x v hx hv
      have : ((ce.cells).lookup x).isSome = true := by
        rw [cc]
        exact cellsFrom_some _ _ _ _ (.inr (mem_of_lookup (by rw [← ck]; exact hk)))
      obtain ⟨c, hc⟩ := Option.isSome_iff_exists.mp this
      refine ⟨c, v', hc, ?_, r⟩
      have := C.cell x c hc
      rw [bindC_in nd hm (by rw [hk]; exact fun z => by cases z)] at this
      exact this
    · obtain ⟨o, ho⟩ := I.keyThere hk
      exact ffn k o ho hf
  have rm' : Room n (A.deeper ce) := ⟨rm.hd, by have := rm.depth; show A.depth + 1 + n < _; omega, by have := rm.units; show A.units + 3 + 8 * n < _; omega⟩
  have tr : trSs T fu ce.scope body = some m := by rw [cs]; exact htr
  refine wpNever (sound (n := n) tok tr _ _ _ q (A.deeper ce) { s with heap := h₁, toks := tk } _ ok ceo rm' Ic fun fl fl' l Γ' s' hq hr I' T => ?_)
  have fin : ∀ v v', (∃ Γ'', SubP Γ'' Γ' ∧ Q v Γ'') → VR v v' → R (.ok (.ret v')) s' := by
    rintro v v' ⟨Γ'', sp, hQ⟩ rv
    have I2 := I'.weak .refl sp
    have T2 := T.weak sp
    have kp2 : ∀ b o, s.heap.get? b = some o → b ∉ keys Γ → s'.heap.get? b = some o := fun b o e hk => T2.keep b o (kp b o e) (ffn b o e) hk
    refine kR _ _ (k v v' Γ'' s' hQ rv ⟨I2.base, I.loc.keeps fun b o hf e => kp2 b o e fun z => (I.ap b z).2 hf, I2.led, I2.nd, fun x hx => ⟨(I2.ap x hx).1, fun hf => ?_⟩⟩ ⟨fun b o e _ hk => kp2 b o e hk, fun x hx => ?_, T2.gens, T2.os⟩)
    · rcases T2.fresh x hx with h | h
      · exact (I.ap x h).2 hf
      · obtain ⟨o, ho⟩ := I.loc.foot_lt hf
        have h : h₁.get? x = none := h
        rw [kp _ _ ho] at h; cases h
    · rcases T2.fresh x hx with h | h
      · exact .inl h
      · right
        cases e : s.heap.get? x with
        | none => rfl
        | some o =>
          have h : h₁.get? x = none := h
          rw [kp _ _ e] at h; cases h
  cases fl with
  | next => cases (show fl' = .next from hr); exact fin .none .none hq rfl
  | brk => exact hq.elim
  | ret v => obtain ⟨v', rfl, rv⟩ := hr; exact fin v v' hq rv

end Mine


open PySem PySem.W PyProof.Rows PySem.Calls
set_option Elab.async false
set_option maxRecDepth 100000
set_option linter.unusedVariables false
namespace Mine
variable {X : Cx} {n : Nat} {env : Env} {loc : Loc} {Γ : Led}

/-! ## classes -/
def clsOk (K : Frag) (C : Addr) : Bool := makesIn K C && plainGet K C "x" && findIn K (.ref C) "__setattr__" == some (some (.builtin "object.__setattr__")) && plainOver K C && hasDictIn K C && noSeq K C && selfFirst K C
structure ClsOk (K : Frag) (C : Addr) : Prop where
  makes : makesIn K C = true
  get : ∀ x, plainGet K C x = true
  set : findIn K (.ref C) "__setattr__" = some (some (.builtin "object.__setattr__"))
  over : plainOver K C = true
  dict : hasDictIn K C = true
  seq : noSeq K C = true
  self : selfFirst K C = true
theorem ClsOk.of {K : Frag} {C : Addr} (h : clsOk K C = true) : ClsOk K C := by
  unfold clsOk at h
  simp only [Bool.and_eq_true] at h
  obtain ⟨⟨⟨⟨⟨⟨h1, h2⟩, h3⟩, h4⟩, h5⟩, h6⟩, h7⟩ := h
  exact ⟨h1, fun _ => h2, beq_iff_eq.mp h3, h4, h5, h6, h7⟩

/-! ## fields -/
def putF (k : Nat) (v : V) : List (Nat × V) → List (Nat × V)
  | [] => [(k, v)]
  | (j, u) :: r => if j = k then (j, v) :: r else (j, u) :: putF k v r
def getF (k : Nat) : List (Nat × V) → Option V
  | [] => none
  | (j, u) :: r => if j = k then some u else getF k r
theorem nodup_at {l : List Str} (nd : l.Nodup) {i j : Nat} {x : Str} (hi : l[i]? = some x) (hj : l[j]? = some x) : i = j := getElem?_nodup nd hi hj
theorem getL_hit {x : Str} {h : Int} {t : Tok} {u : Value} {es : List DictEntry} : getL x (⟨h, .str x t, u⟩ :: es) = some (some u) := by
  have hs : (fun e : DictEntry => e.key.isStr x) ⟨h, .str x t, u⟩ = true := by simp [Value.isStr]
  unfold getL
  rw [List.find?_cons_of_pos (p := fun e : DictEntry => e.key.isStr x) hs]
theorem getL_miss {x y : Str} {h : Int} {t : Tok} {u : Value} {es : List DictEntry} (ne : y ≠ x) : getL x (⟨h, .str y t, u⟩ :: es) = getL x es := by
  have hs : ¬ (fun e : DictEntry => e.key.isStr x) ⟨h, .str y t, u⟩ = true := by simp [Value.isStr, ne]
  have ha : ((⟨h, .str y t, u⟩ : DictEntry) :: es).any (·.refKey) = es.any (·.refKey) := by
    rw [List.any_cons]; rfl
  unfold getL
  rw [List.find?_cons_of_neg (p := fun e : DictEntry => e.key.isStr x) hs, ha]
theorem FsR.get {k : Nat} {x : Str} {fs : List (Nat × V)} {es : List DictEntry} (nd : X.at_.Nodup) (hx : X.at_[k]? = some x) (r : FsR X fs es) :
    (∀ v, getF k fs = some v → ∃ v', getL x es = some (some v') ∧ VR v v') ∧ (getF k fs = none → getL x es = some none) := by
  induction r with
  | nil => exact ⟨fun v h => (by cases h), fun _ => rfl⟩
  | @cons j y u u' t fs es hy ru r ih =>
    unfold getF
    by_cases e : j = k
    · subst e
      rw [hy] at hx; cases hx
      rw [if_pos rfl, getL_hit]
      refine ⟨fun v h => ?_, fun h => ?_⟩
      · cases h; exact ⟨_, rfl, ru⟩
      · cases h
    · have ne : y ≠ x := fun z => e (nodup_at nd hy (z ▸ hx))
      rw [if_neg e, getL_miss ne]
      exact ih
theorem FsR.put {k : Nat} {x : Str} {v : V} {v' : Value} {t : Tok} {fs : List (Nat × V)} {es : List DictEntry} (nd : X.at_.Nodup) (hx : X.at_[k]? = some x) (rv : VR v v') (r : FsR X fs es) :
    FsR X (putF k v fs) (putL x (PyData.keyHash X.w.params x) (.str x t) v' es) := by
  induction r with
  | nil => exact .cons hx rv .nil
  | @cons j y u u' t' fs es hy ru r ih =>
    unfold putF putL
    by_cases e : j = k
    · subst e
      rw [hy] at hx; cases hx
      have hs : (Value.str x t').isStr x = true := by simp [Value.isStr]
      simp only [if_true, hs]
      exact .cons hy rv r
    · have ne : (y == x) = false := beq_eq_false_iff_ne.mpr fun z => e (nodup_at nd hy (z ▸ hx))
      have hs : (Value.str y t').isStr x = false := ne
      simp only [if_neg e, hs, Bool.false_eq_true, if_false]
      exact .cons hy ru ih
theorem FsR.length {fs : List (Nat × V)} {es : List DictEntry} (r : FsR X fs es) : es.length = fs.length := by
  induction r with
  | nil => rfl
  | cons _ _ _ ih => simp [ih]
theorem putF_length {k : Nat} {v : V} : ∀ {fs : List (Nat × V)}, (putF k v fs).length ≤ fs.length + 1
  | [] => Nat.le_refl _
  | (j, u) :: r => by
    unfold putF
    split
    · simp
    · have := putF_length (k := k) (v := v) (fs := r)
      simp only [List.length_cons]; omega
theorem getL_isSome {k : Nat} {x : Str} {fs : List (Nat × V)} {es : List DictEntry} (nd : X.at_.Nodup) (hx : X.at_[k]? = some x) (r : FsR X fs es) : (getL x es).isSome = true := by
  have h := r.get nd hx
  cases q : getF k fs with
  | none => rw [h.2 q]; rfl
  | some v => obtain ⟨v', e, _⟩ := h.1 v q; rw [e]; rfl

/-! ## the frame, as the library sees it -/
theorem Invt.fr {h : Heap} (I : Invt X env loc Γ h) (eo : EnvOk X env) : ∃ m, Fr X.hB env.locals h m ∧ ∀ (i : Nat) (x : Str) (v : V), (slotsOf env.scope)[i]? = some x → env.kindOf x = some .local → loc[i]? = some (some v) → ∃ v', m x = some v' ∧ VR v v' := by
  obtain ⟨m, hm, r⟩ := I.loc.m
  exact ⟨m, ⟨hm, I.base, eo.size⟩, r⟩
theorem inst_at {h : Heap} {a C d : Addr} {fs : List (Nat × V)} (r : OR X h a (.inst C d fs)) : ∃ es n, InstAt h a (instObj C d) C (some (dictOf es n)) ∧ FsR X fs es := by
  obtain ⟨e, es, n, e', q⟩ := r
  exact ⟨es, n, ⟨e, rfl, rfl, e'⟩, q⟩
def freeIn (K : Frag) (C : Addr) (x : Str) : Bool := findIn K (.ref C) x == some none

theorem handed_VR {v : V} {v' : Value} (r : VR v v') (h : ∀ u, v ≠ .val u) : handedIn v' = true := by
  cases v with
  | none => cases (show v' = .none from r); rfl
  | bool b => cases (show v' = .bool b from r); rfl
  | int i => obtain ⟨t, rfl⟩ := r; rfl
  | ref a => cases (show v' = .ref a from r); rfl
  | val u => exact absurd rfl (h u)
/-- reading a field -/
theorem attr_inst {a C d : Addr} {fs : List (Nat × V)} {k : Nat} {v : V} {Q : V → Led → Prop} (nd : X.at_.Nodup) (hC : ClsOk X.K C) (hf : ∀ x, X.at_[k]? = some x → freeIn X.K C x = true) (hm : (a, O.inst C d fs) ∈ Γ) (hg : getF k fs = some v) (hv : ∀ u, v ≠ .val u)
    (q : Q v Γ) : attrW X n (.ref a) k Γ Q := by
  intro ov' x rv hx env loc
  cases (show ov' = .ref a from rv)
  intro A s Qc ok eo rm I kq
  obtain ⟨m, F, _⟩ := I.fr eo
  obtain ⟨es, nn, Ia, r⟩ := inst_at (I.led _ hm)
  obtain ⟨v', e, rv⟩ := (r.get nd hx).1 v hg
  exact get_own F ok.kin Ia (hC.get x) hC.dict (beq_iff_eq.mp (hf x hx)) rfl e (handed_VR rv hv) (kq v v' loc Γ _ ⟨rfl, q⟩ rv (I.still fun b o e => e) (Tr.still (fun b o e => e) rfl rfl))

/-- everything but the frame's own dict and one more -/
noncomputable def othersOf (hB : Heap) (L dx : Addr) (h : Heap) : List (Addr × Obj) :=
  (List.range h.objs.size).filterMap fun a => if a = L ∨ a = dx ∨ (hB.get? a).isSome then none else (h.get? a).map fun o => (a, o)
theorem others_mem {hB h : Heap} {L dx : Addr} {p : Addr × Obj} : p ∈ othersOf hB L dx h ↔ h.get? p.1 = some p.2 ∧ p.1 ≠ L ∧ p.1 ≠ dx ∧ hB.get? p.1 = none := by
  unfold othersOf
  rw [List.mem_filterMap]
  constructor
  · rintro ⟨a, ha, e⟩
    split at e
    · cases e
    · rename_i hn
      rw [not_or, not_or] at hn
      obtain ⟨o, ho, rfl⟩ := Option.map_eq_some_iff.mp e
      exact ⟨ho, hn.1, hn.2.1, by cases q : hB.get? a with | none => rfl | some z => rw [q] at hn; exact absurd rfl hn.2.2⟩
  · rintro ⟨h1, h2, h3, h4⟩
    refine ⟨p.1, List.mem_range.mpr (Heap.lt_size h1), ?_⟩
    rw [if_neg, h1]; rfl
    rw [not_or, not_or]
    exact ⟨h2, h3, by rw [h4]; decide⟩
/-- an entry changes, and the frame's dict may be laid anew -/
theorem Invt.upd2 {a : Addr} {o o' : O} {h h' : Heap} {m : Str → Option Value} (I : Invt X env loc ((a, o) :: Γ) h) (eo : EnvOk X env) (hk : kf (a, o') = kf (a, o)) (hs : ∀ b x, b ≠ env.locals → b ∉ kf (a, o) → h.get? b = some x → h'.get? b = some x) (hn : h'.Ns env.locals m)
    (hm : ∀ (i : Nat) (x : Str) (v : V), (slotsOf env.scope)[i]? = some x → env.kindOf x = some .local → loc[i]? = some (some v) → ∃ v', m x = some v' ∧ VR v v') (r : OR X h' a o') : Invt X env loc ((a, o') :: Γ) h' := by
  have nk : ∀ b, footF env b → b ∉ kf (a, o) := fun b hf z => (I.ap b (by rw [keys_cons]; exact List.mem_append_left _ z)).2 hf
  refine ⟨fun b x e => hs b x (fun z => ?_) (fun z => ?_) (I.base b x e), ⟨⟨m, hn, hm⟩, fun x hx => ?_, fun i x v hx hk hv => ?_⟩, fun e he => ?_, ?_, ?_⟩
  · have := eo.new b (.inl z); rw [e] at this; cases this
  · have := (I.ap b (by rw [keys_cons]; exact List.mem_append_left _ z)).1; rw [e] at this; cases this
  · obtain ⟨c, v₀, e, o, ho, hd⟩ := I.loc.c x hx
    exact ⟨c, v₀, e, o, hs c o (eo.apart x c hx e) (nk c (.inr ⟨x, hx, e⟩)) ho, hd⟩
  · obtain ⟨c, v', e, ⟨o, ho, hd⟩, rv⟩ := I.loc.cv i x v hx hk hv
    exact ⟨c, v', e, ⟨o, hs c o (eo.apart x c hk e) (nk c (.inr ⟨x, hk, e⟩)) ho, hd⟩, rv⟩
  · rcases List.mem_cons.mp he with rfl | he
    · exact r
    · refine (I.led e (List.mem_cons_of_mem _ he)).keep fun b hb x e' => hs b x (fun z => ?_) (fun z => ?_) e'
      · exact (I.ap b (by rw [keys_cons]; exact List.mem_append_right _ (mem_keys he hb))).2 (.inl z)
      · have := I.nd
        rw [keys_cons] at this
        exact (List.nodup_append.mp this).2.2 b z b (mem_keys he hb) rfl
  · have := I.nd; rw [keys_cons] at this ⊢; rw [hk]; exact this
  · have := I.ap; rw [keys_cons] at this ⊢; rw [hk]; exact this
/-- writing a field -/
theorem setAttr_inst {a C d : Addr} {fs : List (Nat × V)} {k : Nat} {v : V} {Γ₁ : Led} {Q : Led → Prop} (nd : X.at_.Nodup) (hC : ClsOk X.K C) (hf : ∀ x, X.at_[k]? = some x → freeIn X.K C x = true) (hp : Pick Γ (a, O.inst C d fs) Γ₁) (hlen : fs.length ≤ 900)
    (q : Q ((a, .inst C d (putF k v fs)) :: Γ₁)) : setAttrW X n (.ref a) k v Γ Q := by
  intro o' x v' ro hx rv env loc
  cases (show o' = .ref a from ro)
  refine Tri.pick hp fun A s Qc ok eo rm I kq => ?_
  obtain ⟨m, F, hm⟩ := I.fr eo
  obtain ⟨e1, es, nn, e2, r⟩ := I.led _ List.mem_cons_self
  have hka : ∀ y ∈ kf (a, O.inst C d fs), y ∈ keys ((a, O.inst C d fs) :: Γ₁) := fun y hy => by rw [keys_cons]; exact List.mem_append_left _ hy
  have da : d ≠ a := fun z => by
    have := I.nd
    rw [keys_cons] at this
    have := (List.nodup_append.mp this).1
    simp [kf] at this
    exact this z.symm
  have dL : d ≠ env.locals := fun z => (I.ap d (hka d (by simp [kf]))).2 (.inl z)
  have dB := (I.ap d (hka d (by simp [kf]))).1
  have N : News X.hB env.locals s.heap ((d, dictOf es nn) :: othersOf X.hB env.locals d s.heap) := fun p hp => by
    rcases List.mem_cons.mp hp with rfl | hp
    · exact ⟨e2, dL, dB⟩
    · obtain ⟨a1, a2, _, a4⟩ := others_mem.mp hp
      exact ⟨a1, a2, a4⟩
  refine set_dict F ok.kin N ⟨e1, rfl, rfl, e2⟩ rfl hC.set hC.over ?_ hC.dict (getL_isSome nd hx r) rfl (.head fun p hp => (others_mem.mp hp).2.2.1) ?_ fun h' F' N' => ?_
  · unfold takerIn
    rw [beq_iff_eq.mp (hf x hx)]; rfl
  · rw [(r.put (t := s.toks + 1) nd hx rv).length]
    have := putF_length (k := k) (v := v) (fs := fs)
    omega
  · have kp : ∀ b z, b ≠ env.locals → b ≠ d → s.heap.get? b = some z → h'.get? b = some z := fun b z hl hd e => by
      by_cases hb : X.hB.get? b = none
      · exact (N' (b, z) (List.mem_cons_of_mem _ (others_mem.mpr ⟨e, hl, hd, hb⟩))).1
      · cases q' : X.hB.get? b with
        | none => exact absurd q' hb
        | some z' =>
          have := I.base b z' q'
          rw [e] at this; cases this
          exact F'.keep b _ q'
    have ek : kf (a, O.inst C d (putF k v fs)) = kf (a, O.inst C d fs) := rfl
    have kp2 : ∀ b z, b ≠ env.locals → b ∉ kf (a, O.inst C d fs) → s.heap.get? b = some z → h'.get? b = some z := fun b z hl hk e => kp b z hl (fun y => hk (by simp [kf, y])) e
    refine kq () () loc _ _ ⟨rfl, q⟩ trivial (I.upd2 eo ek kp2 F'.ns hm ⟨kp a _ (fun z => (I.ap a (hka a (by simp [kf]))).2 (.inl z)) (Ne.symm da) e1, _, _, (N' _ List.mem_cons_self).1, r.put nd hx rv⟩) ⟨fun b z e hF hK => ?_, fun y hy => .inl (by rw [keys_cons] at hy ⊢; exact hy), rfl, rfl⟩
    exact kp2 b z (fun y => hF (.inl y)) (fun y => hK (hka b y)) e
end Mine


open PySem PySem.W PyProof.Rows PySem.Calls
set_option Elab.async false
set_option maxRecDepth 100000
set_option linter.unusedVariables false
namespace Mine
variable {X : Cx} {n : Nat} {env : Env} {loc : Loc} {Γ : Led}

/-! ## lists that are read -/
def IsRef (o : V) (a : Addr) : Prop := o = .ref a ∨ o = .val (.ref a)
theorem IsRef.vr {o : V} {a : Addr} {v' : Value} (h : IsRef o a) (r : VR o v') : v' = .ref a := by
  rcases h with rfl | rfl <;> exact r
theorem isRef {a : Addr} : IsRef (.ref a) a := .inl rfl
theorem isRefV {a : Addr} : IsRef (.val (.ref a)) a := .inr rfl
def LI (X : Cx) (Γ : Led) (a : Addr) (xs : List V) : Prop := ∀ env loc h, X.Ok → Invt X env loc Γ h → ∃ vs, h.IsList a vs.toArray ∧ VRs xs vs
def LAt (X : Cx) (Γ : Led) (a : Addr) (xs : List V) : Prop := ∀ env loc h, X.Ok → Invt X env loc Γ h → ∃ vs n, h.get? a = some { cls := .type "list", data := .seq vs.toArray n } ∧ VRs xs vs
theorem LAt.li {a : Addr} {xs : List V} (h : LAt X Γ a xs) : LI X Γ a xs := fun env loc hh ok I => by
  obtain ⟨vs, n, e, r⟩ := h env loc hh ok I
  exact ⟨vs, ⟨_, e, rfl, n, rfl⟩, r⟩
theorem LAt.led {a : Addr} {xs : List V} (hm : (a, O.list xs) ∈ Γ) : LAt X Γ a xs := fun env loc h ok I => I.led _ hm
theorem LI.led {a : Addr} {xs : List V} (hm : (a, O.list xs) ∈ Γ) : LI X Γ a xs := (LAt.led hm).li
def BaseList (X : Cx) (a : Addr) (xs : List V) : Prop := X.Ok → ∃ vs n, X.hB.get? a = some { cls := .type "list", data := .seq vs.toArray n } ∧ VRs xs vs
theorem LAt.base {a : Addr} {xs : List V} (h : BaseList X a xs) : LAt X Γ a xs := fun env loc hh ok I => by
  obtain ⟨vs, n, e, r⟩ := h ok
  exact ⟨vs, n, I.base _ _ e, r⟩
theorem LI.base {a : Addr} {xs : List V} (h : X.Ok → ∃ vs, X.hB.IsList a vs.toArray ∧ VRs xs vs) : LI X Γ a xs := fun env loc hh ok I => by
  obtain ⟨vs, ⟨o, e, c⟩, r⟩ := h ok
  exact ⟨vs, ⟨o, I.base _ _ e, c⟩, r⟩

theorem getW_list {o : V} {a : Addr} {xs : List V} {i : Int} {x : V} {Q : V → Led → Prop} (ho : IsRef o a) (hL : LI X Γ a xs) (h0 : 0 ≤ i) (h1 : i < 2 ^ 63) (hx : xs[i.toNat]? = some x) (q : Q x Γ) : getW X n o (.int i) Γ Q := by
  intro o' i' ro ri env loc
  cases ho.vr ro
  obtain ⟨t, rfl⟩ := ri
  refine Tri.quiet (b := x) (fun A s Qc ok eo rm I k => ?_) ⟨rfl, q⟩
  obtain ⟨vs, hl, r⟩ := hL env loc s.heap ok I
  obtain ⟨v', e, rv⟩ := r.get' hx
  exact wpAny_getItem_list hl h0 h1 (by simpa using e) (k v' s.toks rv)
theorem getW_list_neg {o : V} {a : Addr} {xs : List V} {i : Int} {x : V} {Q : V → Led → Prop} (ho : IsRef o a) (hL : LI X Γ a xs) (h0 : i < 0) (h1 : -(xs.length : Int) ≤ i) (hf : -(2 ^ 63) ≤ i) (hx : xs[(i + xs.length).toNat]? = some x) (q : Q x Γ) : getW X n o (.int i) Γ Q := by
  intro o' i' ro ri env loc
  cases ho.vr ro
  obtain ⟨t, rfl⟩ := ri
  refine Tri.quiet (b := x) (fun A s Qc ok eo rm I k => ?_) ⟨rfl, q⟩
  obtain ⟨vs, hl, r⟩ := hL env loc s.heap ok I
  obtain ⟨v', e, rv⟩ := r.get' hx
  exact wpAny_getItem_list_neg hl h0 (by rw [List.size_toArray, r.length]; exact h1) hf (by rw [List.size_toArray, r.length]; simpa using e) (k v' s.toks rv)
/-- the object's type is list: not written in Python -/
theorem inPython_list {a : Addr} {xs : List V} {o : Value} (ho : o = .ref a) (hL : LI X Γ a xs) : Tri X n env Eq (getitemInPython o) loc Γ (fun r l g => r = false ∧ l = loc ∧ g = Γ) := by
  subst ho
  refine Tri.quiet (b := false) (fun A s Qc ok eo rm I k => ?_) ⟨rfl, rfl, rfl⟩
  obtain ⟨vs, hl, r⟩ := hL env loc s.heap ok I
  rw [getitemInPython_of_ne hl.typeIs.not_modules]
  exact wpAny_bind (wpAny_specialOf hl.typeIs slot_list_getitem.lookup (wpAny_pure (k false s.toks rfl)))
theorem subW_list {o i : V} {a : Addr} {xs : List V} {Q : V → Led → Prop} (ho : IsRef o a) (hL : LI X Γ a xs) (h : getW X n o i Γ Q) : subW X n o i Γ Q := by
  intro o' i' ro ri env loc sl hsl
  refine Tri.bind (inPython_list (ho.vr ro) hL) fun b b' l g hb e => ?_
  obtain ⟨rfl, rfl, rfl⟩ := hb
  subst e
  rw [hsl false]
  exact Tri.operate (h o' i' ro ri env l)
/-- a slice -/
def PartIs : V → Option Int → Prop
  | .none, p => p = none
  | .int i, p => p = some i
  | _, _ => False
theorem PartIs.is {v : V} {v' : Value} {p : Option Int} (h : PartIs v p) (r : VR v v') : IsPart v' p := by
  cases v with
  | none => cases h; cases (show v' = .none from r); exact .none
  | int i => cases h; obtain ⟨t, rfl⟩ := r; exact .int i t
  | bool b => exact h.elim
  | ref a => exact h.elim
  | val u => exact h.elim
def sliceV (xs : List V) (lo hi st : Option Int) : List V :=
  (sliceRange (sliceBounds lo hi st xs.length).1 (sliceBounds lo hi st xs.length).2.1 (sliceBounds lo hi st xs.length).2.2).filterMap (xs[·]?)
theorem VRs.slice {xs : List V} {vs : List Value} (r : VRs xs vs) {lo hi st : Option Int} : VRs (sliceV xs lo hi st) (slicePick vs.toArray lo hi st).toList := by
  unfold sliceV slicePick
  rw [List.size_toArray, r.length]
  simp only [List.getElem?_toArray]
  generalize sliceRange _ _ _ = ks
  induction ks with
  | nil => exact .nil
  | cons k ks ih =>
    cases hx : xs[k]? with
    | none =>
      have hv : vs[k]? = none := by
        rw [List.getElem?_eq_none_iff] at hx ⊢
        rw [r.length]; exact hx
      rw [List.filterMap_cons_none hx, List.filterMap_cons_none hv]
      exact ih
    | some x =>
      obtain ⟨v, hv, rv⟩ := r.get' hx
      rw [List.filterMap_cons_some hx, List.filterMap_cons_some hv]
      exact .cons rv ih
theorem getW_slice {o : V} {a sa : Addr} {xs : List V} {l u st : V} {lo hi sp : Option Int} {Q : V → Led → Prop} (ho : IsRef o a) (hL : LI X Γ a xs) (hs : (sa, O.slice l u st) ∈ Γ) (h1 : PartIs l lo) (h2 : PartIs u hi) (h3 : PartIs st sp) (h0 : sp ≠ some 0) (hlen : xs.length ≤ 1000000)
    (q : ∀ b, Q (.ref b) ((b, .list (sliceV xs lo hi sp)) :: Γ)) : getW X n o (.ref sa) Γ Q := by
  intro o' i' ro ri env loc
  cases ho.vr ro
  cases (show i' = .ref sa from ri)
  intro A s Qc ok eo rm I k
  obtain ⟨vs, hl, r⟩ := hL env loc s.heap ok I
  obtain ⟨l', u', st', e, r1, r2, r3⟩ := I.led _ hs
  have fr : ∀ b ∈ kf (s.heap.objs.size, O.list (sliceV xs lo hi sp)), s.heap.get? b = none := fun b hb => by
    rw [List.mem_singleton.mp hb]; exact get?_size
  have kp : ∀ b o', s.heap.get? b = some o' → (s.heap.push { cls := .type "list", data := .seq (slicePick vs.toArray lo hi sp) }).get? b = some o' := fun b o' e => Heap.get?_push_of_some _ e
  refine wpAny_getItem_list_slice hl ⟨_, e, rfl, rfl⟩ (h1.is r1) (h2.is r2) (h3.is r3) h0 (k (.ref _) _ loc _ _ ⟨rfl, q _⟩ rfl (I.grow kp fr (by simp [kf]) ⟨_, 0, ?_, r.slice⟩) (Tr.grow kp fr rfl rfl)) (by rw [List.size_toArray, r.length]; exact Nat.le_trans hlen (by decide))
  rw [Heap.get?_push_size _ rfl]
theorem tri_newSlice {l u st : V} {l' u' st' : Value} (r1 : VR l l') (r2 : VR u u') (r3 : VR st st') {Q : V → Led → Prop} (q : ∀ a, Q (.ref a) ((a, .slice l u st) :: Γ)) : TE X n env (newFields "slice" [l', u', st']) loc Γ Q :=
  tri_new (o := { cls := .type "slice", data := .fields #[l', u', st'] }) (ob := .slice l u st) (fun A s Qc h => wpAny_newObj_type h (by show 3 ≤ sizeLine + 2; decide)) rfl (fun _ => rfl) (fun h a e => ⟨l', u', st', e, r1, r2, r3⟩) q
theorem SubP.skip {e : Addr × O} : ∀ {Γ : Led}, SubP Γ (e :: Γ)
  | [] => .nil
  | x :: Γ => .cons (.there .here) SubP.skip
theorem LI.grow {a : Addr} {xs : List V} {e : Addr × O} (h : LI X Γ a xs) : LI X (e :: Γ) a xs := fun env loc hh ok I =>
  h env loc hh ok (I.weak .refl SubP.skip)

theorem LAt.grow {a : Addr} {xs : List V} {e : Addr × O} (h : LAt X Γ a xs) : LAt X (e :: Γ) a xs := fun env loc hh ok I =>
  h env loc hh ok (I.weak .refl SubP.skip)
/-- a list's slice, as written -/
theorem slW_list {o : V} {a : Addr} {xs : List V} {l u st : V} {lo hi sp : Option Int} {Q : V → Led → Prop} (ho : IsRef o a) (hL : LI X Γ a xs) (h1 : PartIs l lo) (h2 : PartIs u hi) (h3 : PartIs st sp) (h0 : sp ≠ some 0) (hlen : xs.length ≤ 1000000)
    (q : ∀ b, Q (.ref b) ((b, .list (sliceV xs lo hi sp)) :: Γ)) : slW X n o l u st Γ Q := by
  intro o' l' u' st' ro rl ru rs env loc sl hsl pos
  refine TE.bind (tri_newSlice (Q := fun v g => ∃ a, v = .ref a ∧ g = (a, .slice l u st) :: Γ) rl ru rs fun a => ⟨a, rfl, rfl⟩) fun sv sv' g hsv rsv => ?_
  obtain ⟨sa, rfl, rfl⟩ := hsv
  cases (show sv' = .ref sa from rsv)
  refine Tri.at ?_
  refine Tri.bind (inPython_list (ho.vr ro) hL.grow) fun b b' l g hb e => ?_
  obtain ⟨rfl, rfl, rfl⟩ := hb
  subst e
  have base : TE X n env (getItem o' (.ref sa)) l ((sa, O.slice _ u st) :: Γ) Q := Tri.weak (getW_slice (n := n) (Q := fun v g => ∃ b, v = .ref b ∧ g = (b, .list (sliceV xs lo hi sp)) :: (sa, .slice _ u st) :: Γ) ho hL.grow List.mem_cons_self h1 h2 h3 h0 hlen (fun b => ⟨b, rfl, rfl⟩) o' (.ref sa) ro rfl env l) fun v l' g h => by
    obtain ⟨rfl, b, rfl, rfl⟩ := h
    exact ⟨l', _, .refl, .cons .here SubP.skip, rfl, q b⟩
  rcases hsl (.ref sa) with h | h
  · rw [h false]; exact Tri.operate base
  · rw [h false]; exact Tri.operate base
end Mine


open PySem PySem.W PyProof.Rows PySem.Calls
set_option Elab.async false
set_option maxRecDepth 100000
set_option linter.unusedVariables false
namespace Mine
variable {X : Cx} {n : Nat} {env : Env} {loc : Loc} {Γ : Led}

/-! ## a store into a list -/
theorem setItem_exact {prog : Program} {w : World} {A : Around} {E : Value → Shared → Prop} {s : Shared} {l : Addr} {items : Array Value} {m : Nat} {k : Int} {t : Tok} {v : Value} {Q : Unit → Shared → Prop} (ho : s.heap.get? l = some { cls := .type "list", data := .seq items m })
    (h0 : 0 ≤ k) (hfit : k < 2 ^ 63) (hn : k < items.size) (hQ : ∀ h' m', h'.get? l = some { cls := .type "list", data := .seq (items.setIfInBounds k.toNat v) m' } → Heap.SameBut l s.heap h' → Q () { s with heap := h' }) :
    wpAny (model prog w) A (setItem (.ref l) (.int k t) v) Q E s := by
  have hT : s.TypeIs (.ref l) "list" := ⟨_, ho, rfl⟩
  unfold setItem
  refine wpAny_holding (wpAny_bind (wpAny_sequenceKey hT (by decide) ?_))
  refine wpAny_bind (wpAny_callSpecial?_slot (name := Str.ofString "__setitem__") hT slot_list_setitem (wpAny_call_entry slot_list_setitem hT entry_list_setitem ?_ (args_list_setitem _ _ _)))
  show wpAny _ _ (Builtin.List.listSubscript? (.int k t) >>= _) _ _ s
  refine wpAny_bind (wpAny_listSubscript_int (fitsIndex_of h0 hfit) ?_)
  clear hfit
  obtain ⟨j, rfl⟩ := Int.eq_ofNat_of_zero_le h0
  have hj : j < items.size := by omega
  have fin : Q () { s with heap := s.heap.update l (Obj.mapSeq (·.setIfInBounds j v)) } := by
    obtain ⟨m', hd'⟩ := Obj.data_mapSeq (o := { cls := .type "list", data := .seq items m }) rfl (·.setIfInBounds j v)
    refine hQ _ m' ?_ (Heap.SameBut.update ..)
    rw [Heap.get?_update_self _ ho (Obj.isFreed_of_seq hd')]
    exact congrArg some (by rw [show (j : Int).toNat = j from rfl, ← hd']; rfl)
  show wpAny _ _ ((seqItemAt l j >>= fun r => pure (r.map (j, ·))) >>= _) _ _ s
  refine wpAny_bind (wpAny_bind (wpAny_seqItemAt ho rfl (wpAny_pure ?_)))
  rw [Array.getElem?_eq_getElem hj]
  show wpAny _ _ (setSeqItemAt l j v >>= _) _ _ s
  refine wpAny_bind (wpAny_setSeqItemAt ho rfl ?_)
  first
    | exact wpAny_bind (wpAny_pure (wpAny_pure ⟨.none, rfl, wpAny_pure fin⟩))
    | exact wpAny_pure ⟨.none, rfl, wpAny_pure fin⟩
theorem VRs.set {xs : List V} {vs : List Value} (r : VRs xs vs) {i : Nat} {x : V} {v : Value} (rv : VR x v) : VRs (xs.set i x) (vs.set i v) := by
  induction r generalizing i with
  | nil => exact .nil
  | cons r1 r ih =>
    cases i with
    | zero => exact .cons rv r
    | succ i => exact .cons r1 ih
theorem setW_list {a : Addr} {xs : List V} {i : Nat} {v : V} {Γ₁ : Led} {Q : Led → Prop} (hp : Pick Γ (a, O.list xs) Γ₁) (hi : i < xs.length) (hlen : xs.length ≤ 1000000) (q : Q ((a, .list (xs.set i v)) :: Γ₁)) : setW X n (.ref a) (.int i) v Γ Q := by
  intro o' i' v' ro ri rv env loc
  cases (show o' = .ref a from ro)
  obtain ⟨t, rfl⟩ := ri
  refine Tri.pick hp fun A s Qc ok eo rm I kq => ?_
  obtain ⟨vs, m, e, r⟩ := I.led _ List.mem_cons_self
  refine setItem_exact e (by omega) (by omega) (by rw [List.size_toArray, r.length]; omega) fun h' m' e' hs => ?_
  have hs' : ∀ b, b ∉ kf (a, O.list xs) → h'.get? b = s.heap.get? b := fun b hb => hs.2 b fun z => hb (by simp [kf, z])
  exact kq () () loc _ _ ⟨rfl, q⟩ trivial (I.upd (o' := .list (xs.set i v)) rfl hs' ⟨vs.set i v', m', by rw [e']; simp, r.set rv⟩) (Tr.upd rfl hs' rfl rfl)

/-! ## reading words -/
theorem callW_len_list {o : V} {a : Addr} {xs : List V} {Q : V → Led → Prop} (ho : IsRef o a) (hL : LI X Γ a xs) (hlen : xs.length ≤ 1000000) (q : Q (.int xs.length) Γ) : callW X n (.val (.builtin "len")) [o] Γ Q := by
  intro fv' vs' rf rvs env loc
  cases (show fv' = .builtin "len" from rf)
  obtain ⟨v', rfl, r⟩ := rvs.one
  cases ho.vr r
  refine Tri.quiet (b := .int xs.length) (fun A s Qc ok eo rm I k => ?_) ⟨rfl, q⟩
  obtain ⟨vs, hl, r⟩ := hL env loc s.heap ok I
  refine PySem.Calls.call_len_list hl (by rw [List.size_toArray, r.length]; omega) (k _ _ ?_)
  rw [List.size_toArray, r.length]
  exact ⟨_, rfl⟩
theorem truthS_list {o : V} {a : Addr} {xs : List V} {Q : Bool → Led → Prop} (ho : IsRef o a) (hL : LI X Γ a xs) (hlen : xs.length ≤ 1000000) (q : Q (!xs.isEmpty) Γ) : truthS X n o Γ Q := by
  intro a' ra env loc
  cases ho.vr ra
  refine Tri.quiet (b := !xs.isEmpty) (fun A s Qc ok eo rm I k => ?_) ⟨rfl, q⟩
  obtain ⟨vs, hl, r⟩ := hL env loc s.heap ok I
  refine wpAny_truthy_list hl (by rw [List.size_toArray, r.length]; omega) (k _ _ ?_)
  cases r <;> rfl
/-- the frame, with nothing made -/
theorem Invt.newsNil {h : Heap} (I : Invt X env loc Γ h) (eo : EnvOk X env) : ∃ m, Fr X.hB env.locals h m := by
  obtain ⟨m, F, _⟩ := I.fr eo
  exact ⟨m, F⟩
theorem grow_push {s : Shared} {o : Obj} {ob : O} {Qc : Value → Shared → Prop} {Q : V → Led → Prop} (I : Invt X env loc Γ s.heap) (hf : o.isFreed = false) (hk : ∀ a, kf (a, ob) = [a]) (ho : ∀ h a, h.get? a = some o → OR X h a ob) (q : ∀ a, Q (.ref a) ((a, ob) :: Γ))
    (k : ∀ b a loc' Γ' s', (loc' = loc ∧ Q b Γ') → VR b a → Invt X env loc' Γ' s'.heap → Tr env Γ s Γ' s' → Qc a s') {h' : Heap} (e : h' = s.heap.push o) {tk : Nat} : Qc (.ref s.heap.objs.size) { s with heap := h', toks := tk } := by
  subst e
  have fr : ∀ b ∈ kf (s.heap.objs.size, ob), s.heap.get? b = none := fun b hb => by
    rw [hk] at hb; rw [List.mem_singleton.mp hb]; exact Heap.get?_none_of_le (Nat.le_refl _)
  have kp : ∀ b o', s.heap.get? b = some o' → (s.heap.push o).get? b = some o' := fun b o' e => Heap.get?_push_of_some _ e
  exact k (.ref s.heap.objs.size) _ loc _ _ ⟨rfl, q _⟩ rfl (I.grow kp fr (by rw [hk]; simp) (ho _ _ (Heap.get?_push_size _ hf))) (Tr.grow kp fr rfl rfl)
theorem binS_concat {o1 o2 : V} {a b : Addr} {xs ys : List V} {Q : V → Led → Prop} (h1 : IsRef o1 a) (h2 : IsRef o2 b) (hx : LAt X Γ a xs) (hy : LAt X Γ b ys) (hlen : xs.length + ys.length ≤ 1000000) (q : ∀ c, Q (.ref c) ((c, .list (xs ++ ys)) :: Γ)) : binS X n .Add o1 o2 Γ Q := by
  intro a' b' ra rb env loc
  cases h1.vr ra
  cases h2.vr rb
  intro A s Qc ok eo rm I k
  obtain ⟨vs, m1, e1, r1⟩ := hx env loc s.heap ok I
  obtain ⟨ws, m2, e2, r2⟩ := hy env loc s.heap ok I
  have e : vs.toArray ++ ws.toArray = (vs ++ ws).toArray := by simp
  refine concat_meets ⟨_, e1, rfl⟩ ⟨_, e2, rfl⟩ noFill_list_add seq_list_add PySem.F.slot_list_add PySem.F.entry_list_add (PySem.F.args_list_add_2 _ _) (list_addW a b vs.toArray ws.toArray m1 m2 _ _ _ _ ?_) ⟨e1, e2, ?_⟩
  · rw [List.size_toArray, List.size_toArray, r1.length, r2.length]; exact Nat.le_trans hlen (by decide)
  rw [e]
  exact grow_push (tk := s.toks) I (o := { cls := .type "list", data := .seq (vs ++ ws).toArray }) (ob := .list (xs ++ ys)) rfl (fun _ => rfl) (fun h a e => ⟨_, 0, e, r1.append r2⟩) q k rfl
theorem foldl_rep (v : Value) : ∀ (k : Nat) (acc : Array Value), List.foldl (fun x1 x2 => x1 ++ x2) acc (List.replicate k #[v]) = acc ++ (List.replicate k v).toArray
  | 0, acc => by simp
  | k + 1, acc => by
    rw [List.replicate_succ, List.foldl_cons, foldl_rep v k, List.replicate_succ]
    apply Array.toList_inj.mp
    simp
theorem VR.rep {x : V} {v : Value} (r : VR x v) : ∀ k, VRs (List.replicate k x) (List.replicate k v)
  | 0 => .nil
  | k + 1 => .cons r (VR.rep r k)
theorem binS_rep {o1 : V} {a : Addr} {x : V} {i : Int} {Q : V → Led → Prop} (h1 : IsRef o1 a) (hx : LAt X Γ a [x]) (hlo : -(2 ^ 62) ≤ i) (hi : i ≤ 1000000) (q : ∀ c, Q (.ref c) ((c, .list (List.replicate i.toNat x)) :: Γ)) : binS X n .Mult o1 (.int i) Γ Q := by
  intro a' b' ra rb env loc
  cases h1.vr ra
  obtain ⟨t, rfl⟩ := rb
  intro A s Qc ok eo rm I k
  obtain ⟨vs, m1, e1, r1⟩ := hx env loc s.heap ok I
  obtain ⟨v, rfl, rv⟩ := r1.one
  have hlen : (List.replicate i.toNat v).length ≤ 1000000 := by rw [List.length_replicate]; omega
  have e : List.foldl (fun x1 x2 => x1 ++ x2) #[] (List.replicate (if ([v] : List Value).toArray.isEmpty = true then 0 else i.toNat) [v].toArray) = (List.replicate i.toNat v).toArray := by
    have := foldl_rep v i.toNat #[]
    simpa using this
  refine wpAny_binaryOp_repeat_ref (T := "list") (U := "int") (by decide) ⟨_, e1, rfl⟩ (fun s' => typeIs_int s' i t) noFill_list_mul PySem.F.fills_int_mul PySem.F.slot_int_rmul repeat_list PySem.F.slot_int_index.lookup
    (call_meets PySem.F.slot_int_rmul (typeIs_int s i t) PySem.F.entry_int_rmul (PySem.F.args_int_rmul_2 _ _) (int___rmul___int_list i t a [v].toArray m1)
      ⟨e1, rfl, ⟨_, e1, rfl⟩, call_meets PySem.F.slot_list_mul ⟨_, e1, rfl⟩ PySem.F.entry_list_mul (PySem.F.args_list_mul_2 _ _)
        (AutoListH.list___mul___list_int_3 a [v].toArray m1 i t (by simp [Builtin.List.listFitsIndex]; omega) (by simp; omega) (by simp [Builtin.List.listTooLong, sizeLine]; omega))
        ⟨e1, ?_⟩⟩)
  rw [e]
  exact grow_push (tk := s.toks) I (o := { cls := .type "list", data := .seq (List.replicate i.toNat v).toArray }) (ob := .list (List.replicate i.toNat x)) rfl (fun _ => rfl) (fun h a e => ⟨_, 0, e, VR.rep rv _⟩) q k rfl
end Mine


open PySem PySem.W PyProof.Rows PySem.Calls PySem.SeqAt
set_option Elab.async false
set_option maxRecDepth 100000
set_option linter.unusedVariables false
namespace Mine
variable {X : Cx} {n : Nat} {env : Env} {loc : Loc} {Γ : Led}

/-! ## equality of lists of ints -/
def intsV (l : List Int) : List V := l.map .int
theorem VRs.ints_get {is : List Int} {vs : List Value} (r : VRs (intsV is) vs) {j : Nat} (h1 : j < is.length) (h2 : j < vs.toArray.size) : ∃ t, vs.toArray[j] = .int is[j] t := by
  have hx : (intsV is)[j]? = some (.int is[j]) := by
    unfold intsV
    rw [List.getElem?_map, List.getElem?_eq_getElem h1]; rfl
  obtain ⟨v, hv, t, rfl⟩ := r.get' hx
  refine ⟨t, ?_⟩
  rw [List.getElem_toArray]
  exact Option.some.inj ((List.getElem?_eq_getElem (by simpa using h2)).symm.trans hv)
theorem intsV_length {is : List Int} : (intsV is).length = is.length := by simp [intsV]
theorem all_range_eq {is js : List Int} (h : is.length = js.length) : (List.range is.length).all (fun j => is[j]! == js[j]!) = (is == js) := by
  rw [Bool.eq_iff_iff]
  simp only [List.all_eq_true, List.mem_range, beq_iff_eq]
  constructor
  · intro hh
    refine List.ext_getElem h fun j h1 h2 => ?_
    have := hh j h1
    rw [getElem!_pos is j h1, getElem!_pos js j h2] at this
    exact this
  · rintro rfl j hj; rfl
theorem cmp_lists {o1 o2 : V} {a b : Addr} {is js : List Int} {neg : Bool} {op : CmpOp} {Q : V → Led → Prop} (hop : (op = .Eq ∧ neg = false) ∨ (op = .NotEq ∧ neg = true)) (h1 : IsRef o1 a) (h2 : IsRef o2 b) (hx : LI X Γ a (intsV is)) (hy : LI X Γ b (intsV js)) (q : Q (.bool ((is == js) ^^ neg)) Γ) : cmpS X n op o1 o2 Γ Q := by
  intro a' b' ra rb env loc
  cases h1.vr ra
  cases h2.vr rb
  refine Tri.quiet (b := .bool ((is == js) ^^ neg)) (fun A s Qc ok eo rm I k => ?_) ⟨rfl, q⟩
  obtain ⟨vs, hl, r1⟩ := hx env loc s.heap ok I
  obtain ⟨ws, hb, r2⟩ := hy env loc s.heap ok I
  have hu : A.units < cLine := by have := rm.units; omega
  have hv := r1.length
  have hw := r2.length
  rw [intsV_length] at hv hw
  by_cases hlen : is.length = js.length
  · have hsz : vs.toArray.size = ws.toArray.size := by rw [List.size_toArray, List.size_toArray, hv, hw, hlen]
    have he : ∀ j (h1 : j < vs.toArray.size) (h2 : j < ws.toArray.size), EqAt A.in1 s vs.toArray[j] ws.toArray[j] (is[j]! == js[j]!) := fun j h1 h2 => by
      have k1 : j < is.length := by rw [List.size_toArray, hv] at h1; exact h1
      have k2 : j < js.length := by rw [List.size_toArray, hw] at h2; exact h2
      obtain ⟨t, e1⟩ := r1.ints_get k1 h1
      obtain ⟨u, e2⟩ := r2.ints_get k2 h2
      rw [e1, e2, getElem!_pos is j k1, getElem!_pos js j k2]
      exact EqAt.int_int _ _ _ _
    have hall : (List.range vs.toArray.size).all (fun j => is[j]! == js[j]!) = (is == js) := by
      rw [List.size_toArray, hv]; exact all_range_eq hlen
    rcases hop with ⟨rfl, rfl⟩ | ⟨rfl, rfl⟩
    · refine eq_listAt (e := fun j => is[j]! == js[j]!) hl hb hsz hu he (k _ s.toks ?_)
      rw [hall]; show Value.bool _ = Value.bool _; simp
    · refine RcNeAt.lists (e := fun j => is[j]! == js[j]!) hl hb hsz hu he _ _ _ _ (k _ s.toks ?_)
      rw [hall]; show Value.bool _ = Value.bool _; simp
  · have hsz : (vs.toArray.size != ws.toArray.size) = true := by rw [List.size_toArray, List.size_toArray, hv, hw]; simpa using hlen
    have hf : (is == js) = false := beq_eq_false_iff_ne.mpr fun z => hlen (by rw [z])
    rcases hop with ⟨rfl, rfl⟩ | ⟨rfl, rfl⟩
    · refine eq_list_lengthsAt hl hb hsz hu (k _ s.toks ?_)
      rw [hf]; rfl
    · refine RcNeAt.lists_lengths hl hb hsz hu _ _ _ _ (k _ s.toks ?_)
      rw [hf]; rfl

/-! ## isinstance, max, list -/
theorem callW_isi_int_int {i : Int} {Q : V → Led → Prop} (q : Q (.bool true) Γ) : callW X n (.val (.builtin "isinstance")) [.int i, .val (.type "int")] Γ Q := by
  intro fv' vs' rf rvs env loc
  cases (show fv' = .builtin "isinstance" from rf)
  obtain ⟨u', v', rfl, ⟨t, rfl⟩, rv⟩ := rvs.two
  cases (show v' = .type "int" from rv)
  exact tri_bool (fun A s Qc rm k => IsiPair.int_int (k s.toks)) q
theorem callW_isi_int_bool {i : Int} {Q : V → Led → Prop} (q : Q (.bool false) Γ) : callW X n (.val (.builtin "isinstance")) [.int i, .val (.type "bool")] Γ Q := by
  intro fv' vs' rf rvs env loc
  cases (show fv' = .builtin "isinstance" from rf)
  obtain ⟨u', v', rfl, ⟨t, rfl⟩, rv⟩ := rvs.two
  cases (show v' = .type "bool" from rv)
  exact tri_bool (fun A s Qc rm k => IsiPair.int_bool (k _)) q
theorem callW_isi_list {o : V} {a : Addr} {xs : List V} {Q : V → Led → Prop} (ho : IsRef o a) (hL : LI X Γ a xs) (q : Q (.bool true) Γ) : callW X n (.val (.builtin "isinstance")) [o, .val (.type "list")] Γ Q := by
  intro fv' vs' rf rvs env loc
  cases (show fv' = .builtin "isinstance" from rf)
  obtain ⟨u', v', rfl, ru, rv⟩ := rvs.two
  cases (show v' = .type "list" from rv)
  cases ho.vr ru
  refine Tri.quiet (b := .bool true) (fun A s Qc ok eo rm I k => ?_) ⟨rfl, q⟩
  obtain ⟨vs, hl, r⟩ := hL env loc s.heap ok I
  exact PyProof.Rows.call_isinstance_yes hl.typeIs PySem.F.isi_meta_list PySem.F.sub_list_list (k _ s.toks rfl)
theorem callW_max {i j : Int} {Q : V → Led → Prop} (q : Q (.int (max i j)) Γ) : callW X n (.val (.builtin "max")) [.int i, .int j] Γ Q := by
  intro fv' vs' rf rvs env loc
  cases (show fv' = .builtin "max" from rf)
  obtain ⟨u', v', rfl, ⟨t, rfl⟩, ⟨u, rfl⟩⟩ := rvs.two
  intro A s Qc ok eo rm I k
  refine max_two_ints rm.hd fun h' tk kp => ?_
  refine k (.int (max i j)) _ loc Γ { s with heap := h', toks := tk } ⟨rfl, q⟩ ?_ (I.still kp) (Tr.still kp rfl rfl)
  by_cases c : j > i
  · rw [if_pos c]; exact ⟨u, by rw [Int.max_eq_right (by omega)]⟩
  · rw [if_neg c]; exact ⟨t, by rw [Int.max_eq_left (by omega)]⟩
theorem callW_list {o : V} {a : Addr} {xs : List V} {Q : V → Led → Prop} (ho : IsRef o a) (hL : LAt X Γ a xs) (hlen : xs.length ≤ 1000000) (q : ∀ b, Q (.ref b) ((b, .list xs) :: Γ)) : callW X n (.val (.type "list")) [o] Γ Q := by
  intro fv' vs' rf rvs env loc
  cases (show fv' = .type "list" from rf)
  obtain ⟨v', rfl, r⟩ := rvs.one
  cases ho.vr r
  intro A s Qc ok eo rm I k
  obtain ⟨vs, m, e, r⟩ := hL env loc s.heap ok I
  refine call_list_seq a (.inl rfl) e rfl rfl (fun h' c' kp e' => ?_) (by rw [List.size_toArray, r.length]; exact Nat.le_trans hlen (by decide))
  have fr : ∀ b ∈ kf (s.heap.objs.size, O.list xs), s.heap.get? b = none := fun b hb => by rw [List.mem_singleton.mp hb]; exact get?_size
  exact k (.ref _) _ loc _ { s with heap := h' } ⟨rfl, q _⟩ rfl (I.grow kp fr (by simp [kf]) ⟨vs, c', e', r⟩) (Tr.grow kp fr rfl rfl)

/-! ## methods of lists -/
theorem methR_list {a : Addr} {xs : List V} {k : Nat} {id : String} (hL : LAt X Γ a xs) (hx : ∀ x, X.at_[k]? = some x → Slot "list" x id) (hty : typeOf (.builtin id) = pure (.type "method_descriptor")) : methR X n Γ (.ref a) k (.builtin id) true := by
  intro ov' x rv hk env loc pl
  cases (show ov' = .ref a from rv)
  refine Tri.quiet (b := (.builtin id, [.ref a])) (fun A s Qc ok eo rm I kq => ?_) ⟨rfl, rfl, rfl⟩
  obtain ⟨vs, m, e, r⟩ := hL env loc s.heap ok I
  refine getMethod_builtin (T := "list") ⟨_, e, rfl⟩ PySem.F.plainAttrs_list (hx x hk) hty (fun b hb => ?_) (kq _ s.toks rfl)
  cases hb
  exact ⟨_, e, rfl⟩
theorem callW_append {a : Addr} {xs : List V} {v : V} {Γ₁ : Led} {Q : V → Led → Prop} (hp : Pick Γ (a, O.list xs) Γ₁) (hlen : xs.length ≤ 1000000) (q : Q .none ((a, .list (xs ++ [v])) :: Γ₁)) : callW X n (.val (.builtin "list.append")) [.ref a, v] Γ Q := by
  intro fv' vs' rf rvs env loc
  cases (show fv' = .builtin "list.append" from rf)
  obtain ⟨u', v', rfl, ru, rv⟩ := rvs.two
  cases (show u' = .ref a from ru)
  exact Tri.pick hp (tri_append hlen rv q)
theorem callW_extend {a b : Addr} {o : V} {xs ys : List V} {Γ₁ : Led} {Q : V → Led → Prop} (hp : Pick Γ (a, O.list xs) Γ₁) (ho : IsRef o b) (hy : LAt X ((a, O.list xs) :: Γ₁) b ys) (hlen : xs.length + ys.length ≤ 1000000) (q : Q .none ((a, .list (xs ++ ys)) :: Γ₁)) : callW X n (.val (.builtin "list.extend")) [.ref a, o] Γ Q := by
  intro fv' vs' rf rvs env loc
  cases (show fv' = .builtin "list.extend" from rf)
  obtain ⟨u', v', rfl, ru, rv⟩ := rvs.two
  cases (show u' = .ref a from ru)
  cases ho.vr rv
  refine Tri.pick hp fun A s Qc ok eo rm I k => ?_
  obtain ⟨vs, m, e, r⟩ := I.led (a, .list xs) (List.mem_cons_self)
  obtain ⟨ws, m2, e2, r2⟩ := hy env loc s.heap ok I
  have hsz' : vs.toArray.size + ws.toArray.size ≤ sizeLine := by rw [List.size_toArray, List.size_toArray, r.length, r2.length]; exact Nat.le_trans hlen (by decide)
  refine call_meets PySem.F.slot_list_extend ⟨_, e, rfl⟩ PySem.F.entry_list_extend (PySem.F.args_list_extend_2 _ _) (AutoSeq1.list_extend_list_list_0 a vs.toArray m b ws.toArray m2 (extend_door hsz') (Nat.le_trans (Nat.le_add_right _ _) hsz') (Nat.le_succ_of_le hsz')) ⟨e, e2, ?_⟩
  have ea : vs.toArray ++ ws.toArray = (vs ++ ws).toArray := by simp
  have ho' : (s.heap.update a (Obj.mapSeq fun x => x ++ ws.toArray)).get? a = some { cls := .type "list", data := .seq (vs ++ ws).toArray (if (vs.toArray ++ ws.toArray).size == vs.toArray.size then m else m + 1) } := by
    rw [Heap.get?_update_self _ e (by rw [mapSeq_app]; rfl), mapSeq_app, ea]
  have hs' : ∀ c, c ∉ kf (a, O.list xs) → (s.heap.update a (Obj.mapSeq fun x => x ++ ws.toArray)).get? c = s.heap.get? c := fun c hc => (Heap.SameBut.update ..).2 c fun z => hc (by simp [kf, z])
  exact k .none .none loc _ { s with heap := _ } ⟨rfl, q⟩ rfl (I.upd (o' := .list (xs ++ ys)) rfl hs' ⟨vs ++ ws, _, ho', r.append r2⟩) (Tr.upd rfl hs' rfl rfl)

/-! ## what may be called -/
theorem keeps_builtin {i : String} : keepsW X (.val (.builtin i)) := by
  intro fv' rf ok
  cases (show fv' = .builtin i from rf)
  exact fun A s Qc _ k => wpAny_pure (k _)
theorem keeps_type {i : String} : keepsW X (.val (.type i)) := by
  intro fv' rf ok
  cases (show fv' = .type i from rf)
  exact fun A s Qc _ k => wpAny_pure (k _)
theorem keeps_K {a : Addr} (h : keepIn X.K (.ref a) = true) : keepsW X (.val (.ref a)) := by
  intro fv' rf ok
  cases (show fv' = .ref a from rf)
  obtain ⟨k, _, L⟩ := looks_keep (M := X.M) h ok.kin
  exact fun A s Qc kp q => L A Qc never s kp (q k)

/-! ## tables of the base -/
def BaseDict (X : Cx) (a : Addr) (f : Int → Option Value) : Prop := X.Ok → X.hB.IntMap a f
theorem IntMap.keeps {h h' : Heap} {a : Addr} {f : Int → Option Value} (m : h.IntMap a f) (k : ∀ b o, h.get? b = some o → h'.get? b = some o) : h'.IntMap a f := by
  obtain ⟨o, es, ep, e, r⟩ := m
  exact ⟨o, es, ep, k _ _ e, r⟩
theorem cmp_in {o : V} {a : Addr} {f : Int → Option Value} {i : Int} {Q : V → Led → Prop} (ho : IsRef o a) (hd : BaseDict X a f) (q : Q (.bool (f i).isSome) Γ) : cmpS X n .In (.int i) o Γ Q := by
  intro a' b' ra rb env loc
  obtain ⟨t, rfl⟩ := ra
  cases ho.vr rb
  refine Tri.quiet (b := .bool (f i).isSome) (fun A s Qc ok eo rm I k => ?_) ⟨rfl, q⟩
  exact wpAny_in_intMap (IntMap.keeps (hd ok) I.base) (k _ _ rfl)
theorem subW_dict {o : V} {a : Addr} {f : Int → Option Value} {i : Int} {v : Value} {Q : V → Led → Prop} (ho : IsRef o a) (hd : BaseDict X a f) (hf : f i = some v) (q : Q (.val v) Γ) : subW X n o (.int i) Γ Q := by
  intro o' i' ro ri env loc sl hsl
  cases ho.vr ro
  obtain ⟨t, rfl⟩ := ri
  refine Tri.quiet (b := .val v) (fun A s Qc ok eo rm I k => ?_) ⟨rfl, q⟩
  have hm := IntMap.keeps (hd ok) I.base
  rw [getitemInPython_of_ne hm.typeIs.not_modules]
  refine wpAny_bind (wpAny_bind (wpAny_specialOf hm.typeIs slot_dict_getitem.lookup (wpAny_pure ?_)))
  rw [hsl false]
  exact wpAny_operating (wpAny_getItem_intMap hm hf (k _ _ rfl))
end Mine


open PySem PySem.W PyProof.Rows PySem.Calls PySem.SeqAt
set_option Elab.async false
set_option maxRecDepth 100000
set_option linter.unusedVariables false
namespace Mine
variable {X : Cx} {n : Nat} {env : Env} {loc : Loc} {Γ : Led}

theorem Room.create {A : Around} {C : Addr} {rest : List Value} (r : Room (n + 1) A) : Room n (A.under (.builtin "type.__call__" ⟨.ref C :: rest, []⟩)) := by
  have h1 : (Code.builtin "type.__call__" ⟨.ref C :: rest, []⟩).weight = 1 := by kernel_rfl
  have h2 : (Code.builtin "type.__call__" ⟨.ref C :: rest, []⟩).cUnits = 1 := by kernel_rfl
  refine ⟨r.hd, ?_, ?_⟩
  · have := r.depth
    show A.depth + (Code.builtin "type.__call__" ⟨.ref C :: rest, []⟩).weight + n < _
    rw [h1]; omega
  · have := r.units
    show A.units + (Code.builtin "type.__call__" ⟨.ref C :: rest, []⟩).cUnits + 8 * n < _
    rw [h2]; omega
theorem Room.in1 {A : Around} (r : Room (n + 1) A) : Room n A.in1 := ⟨r.hd, by have := r.depth; show A.depth + n < _; omega, by have := r.units; show A.units + 1 + 8 * n < _; omega⟩
def initIn (K : Frag) (C f : Addr) : Bool := findIn K (.ref C) "__init__" == some (some (.ref f)) && typeIn K (.ref f) == some (.type "function")
/-- an object of a class is made -/
theorem callC_cls {C f : Addr} {vs : List V} {Q : V → Led → Prop} (hC : ClsOk X.K C) (hi : initIn X.K C f = true) (h : ∀ a d, callC X n (.val (.ref f)) (.ref a :: vs) ((a, .inst C d []) :: Γ) (fun v Γ' => v = .none ∧ Q (.ref a) Γ')) : callC X (n + 1) (.val (.ref C)) vs Γ Q := by
  unfold initIn at hi
  rw [Bool.and_eq_true] at hi
  intro fv' vs' rf rvs env loc A s Qc ok eo rm I k R kR
  cases (show fv' = .ref C from rf)
  have XK := ok.kin.keeps I.base
  obtain ⟨hh, g, d, t, os⟩ := s
  refine make_core (makes_of XK hC.makes) (looks_findIn XK (beq_iff_eq.mp hi.1)) (fun self => bind_fn XK self (beq_iff_eq.mp hi.2)) (.inl rfl) ?_
  have kp : ∀ b o, hh.get? b = some o → ((hh.push emptyDict).push (instObj C hh.objs.size)).get? b = some o := fun b o e => Heap.get?_push_of_some _ (Heap.get?_push_of_some _ e)
  have e1 : ((hh.push emptyDict).push (instObj C hh.objs.size)).get? (hh.objs.size + 1) = some (instObj C hh.objs.size) := by
    have := Heap.get?_push_size (hh.push emptyDict) (o := instObj C hh.objs.size) rfl
    rwa [Heap.size_push] at this
  have e2 : ((hh.push emptyDict).push (instObj C hh.objs.size)).get? hh.objs.size = some (dictOf [] 0) := Heap.get?_push_of_some _ (Heap.get?_push_size _ rfl)
  have fr : ∀ b ∈ kf (hh.objs.size + 1, O.inst C hh.objs.size []), hh.get? b = none := fun b hb => by
    simp [kf] at hb
    rcases hb with rfl | rfl
    · exact Heap.get?_none_of_le (Nat.le_succ _)
    · exact get?_size
  have nd : (kf (hh.objs.size + 1, O.inst C hh.objs.size [])).Nodup := by
    simp only [kf, List.nodup_cons, List.mem_singleton, List.not_mem_nil, not_false_eq_true, List.nodup_nil, and_true]
    exact Nat.succ_ne_self _
  have I2 : Invt X env loc ((hh.objs.size + 1, O.inst C hh.objs.size []) :: Γ) ((hh.push emptyDict).push (instObj C hh.objs.size)) := I.grow kp fr nd ⟨e1, [], 0, e2, .nil⟩
  have T2 : Tr env Γ ⟨hh, g, d, t, os⟩ ((hh.objs.size + 1, O.inst C hh.objs.size []) :: Γ) ⟨(hh.push emptyDict).push (instObj C hh.objs.size), g, d, t, os⟩ := Tr.grow kp fr rfl rfl
  refine h (hh.objs.size + 1) hh.objs.size _ (.ref (hh.objs.size + 1) :: vs') rfl (.cons rfl rvs) env loc _ ⟨_, g, d, t, os⟩ (fun a s' => a = .none ∧ Qc (.ref (hh.objs.size + 1)) s') ok eo rm.create I2 (fun b a Γ' s' q r I' T => ?_) _ fun a s' hq => ⟨hq.1, kR _ _ hq.2⟩
  obtain ⟨rfl, q⟩ := q
  exact ⟨r, k _ _ Γ' s' q rfl I' (T2.trans T I')⟩

/-! ## an object's own methods -/
def methIn (K : Frag) (C f : Addr) (x : Str) : Bool := findIn K (.ref C) x == some (some (.ref f)) && isFn K (.ref f)
theorem methR_inst {a C d f : Addr} {fs : List (Nat × V)} {k : Nat} (nd : X.at_.Nodup) (hC : ClsOk X.K C) (hm : ∀ x, X.at_[k]? = some x → methIn X.K C f x = true) (hl : (a, O.inst C d fs) ∈ Γ) (hn : getF k fs = none) : methR X n Γ (.ref a) k (.ref f) true := by
  intro ov' x rv hk env loc pl
  cases (show ov' = .ref a from rv)
  have hm := hm x hk
  unfold methIn at hm
  rw [Bool.and_eq_true] at hm
  refine Tri.quiet (b := (.ref f, [.ref a])) (fun A s Qc ok eo rm I kq => ?_) ⟨rfl, rfl, rfl⟩
  obtain ⟨m, F, _⟩ := I.fr eo
  obtain ⟨es, nn, Ia, r⟩ := inst_at (I.led _ hl)
  exact method_inst F ok.kin Ia (hC.get x) (beq_iff_eq.mp hm.1) hm.2 ((r.get nd hk).2 hn) (kq _ s.toks rfl)
theorem callW_len_inst {a C d f : Addr} {fs : List (Nat × V)} {Q : V → Led → Prop} (hC : ClsOk X.K C) (hm : methIn X.K C f "__len__" = true) (hl : (a, O.inst C d fs) ∈ Γ) (h : callW X n (.val (.ref f)) [.ref a] Γ (fun v Γ' => ∃ i, v = .int i ∧ 0 ≤ i ∧ i < 2 ^ 63 ∧ Q (.int i) Γ')) : callW X (n + 1) (.val (.builtin "len")) [.ref a] Γ Q := by
  unfold methIn at hm
  rw [Bool.and_eq_true] at hm
  intro fv' vs' rf rvs env loc
  cases (show fv' = .builtin "len" from rf)
  obtain ⟨v', rfl, r⟩ := rvs.one
  cases (show v' = .ref a from r)
  intro A s Qc ok eo rm I k
  obtain ⟨m, F, _⟩ := I.fr eo
  obtain ⟨es, nn, Ia, r⟩ := inst_at (I.led _ hl)
  refine len_K F ok.kin Ia (beq_iff_eq.mp hm.1) hm.2 (h (.ref f) [.ref a] rfl (.cons rfl .nil) env loc A.in1 s _ ok eo rm.in1 I fun b v l Γ' s' q rv I' T => ?_)
  obtain ⟨rfl, i, rfl, h0, h1, q⟩ := q
  obtain ⟨u, rfl⟩ := rv
  exact ⟨⟨h0, h1⟩, k (.int i) _ _ Γ' { s' with toks := _ } ⟨rfl, q⟩ ⟨_, rfl⟩ I' ⟨T.keep, T.fresh, T.gens, T.os⟩⟩
theorem getW_inst {a C d f : Addr} {i : V} {fs : List (Nat × V)} {Q : V → Led → Prop} (hC : ClsOk X.K C) (hm : methIn X.K C f "__getitem__" = true) (hl : (a, O.inst C d fs) ∈ Γ) (h : callW X n (.val (.ref f)) [.ref a, i] Γ Q) : getW X n (.ref a) i Γ Q := by
  unfold methIn at hm
  rw [Bool.and_eq_true] at hm
  intro o' i' ro ri env loc
  cases (show o' = .ref a from ro)
  intro A s Qc ok eo rm I k
  obtain ⟨m, F, _⟩ := I.fr eo
  obtain ⟨es, nn, Ia, r⟩ := inst_at (I.led _ hl)
  exact getItem_K F ok.kin Ia hC.seq (beq_iff_eq.mp hm.1) hm.2 (h (.ref f) [.ref a, i'] rfl (.cons rfl (.cons ri .nil)) env loc A s Qc ok eo rm I k)
theorem inPython_inst {a C d f : Addr} {fs : List (Nat × V)} (hm : methIn X.K C f "__getitem__" = true) (hf : fnIn X.K f = true) (hl : (a, O.inst C d fs) ∈ Γ) : Tri X n env Eq (getitemInPython (.ref a)) loc Γ (fun r l g => r = true ∧ l = loc ∧ g = Γ) := by
  unfold methIn at hm
  rw [Bool.and_eq_true] at hm
  refine Tri.quiet (b := true) (fun A s Qc ok eo rm I kq => ?_) ⟨rfl, rfl, rfl⟩
  have XK := ok.kin.keeps I.base
  obtain ⟨es, nn, Ia, r⟩ := inst_at (I.led _ hl)
  unfold fnIn at hf
  split at hf
  · rename_i e
    unfold getitemInPython
    refine wpAny_bind (wpAny_bind (Ia.type.here ((looks_findIn XK (beq_iff_eq.mp hm.1)).here ?_)))
    dsimp only
    exact wpAny_bind (wpAny_load (XK _ _ e) (wpAny_pure (kq true s.toks rfl)))
  · cases hf
theorem subW_inst {a C d f : Addr} {i : V} {fs : List (Nat × V)} {Q : V → Led → Prop} (hm : methIn X.K C f "__getitem__" = true) (hf : fnIn X.K f = true) (hl : (a, O.inst C d fs) ∈ Γ) (h : callW X n (.val (.ref f)) [.ref a, i] Γ Q) : subW X (n + 1) (.ref a) i Γ Q := by
  intro o' i' ro ri env loc sl hsl
  cases (show o' = .ref a from ro)
  refine Tri.bind (inPython_inst hm hf hl) fun b b' l g hb e => ?_
  obtain ⟨rfl, rfl, rfl⟩ := hb
  subst e
  rw [hsl true]
  unfold methIn at hm
  rw [Bool.and_eq_true] at hm
  intro A s Qc ok eo rm I k
  have XK := ok.kin.keeps I.base
  obtain ⟨es, nn, Ia, r⟩ := inst_at (I.led _ hl)
  refine wpAny_runValue (codeAny_builtin entry_sub ?_)
  unfold Builtin.«lifetime.subscript»
  have ha : A.under (.builtin "lifetime.subscript" ⟨[.ref a, i'], []⟩) = A.in1 := Around.under_plain (by kernel_rfl) (by kernel_rfl)
  rw [ha]
  refine wpAny_bind (special_fn XK Ia (beq_iff_eq.mp hm.1) (beq_iff_eq.mp hm.2) ?_)
  refine h (.ref f) [.ref a, i'] rfl (.cons rfl (.cons ri .nil)) env l A.in1 s _ ok eo rm.in1 I fun b v l Γ' s' q rv I' T => ?_
  exact wpAny_pure (k b v l Γ' s' q rv I' T)
theorem slW_inst {a C d f : Addr} {l u : V} {fs : List (Nat × V)} {Q : V → Led → Prop} (hC : ClsOk X.K C) (hm : methIn X.K C f "__getitem__" = true) (hf : fnIn X.K f = true) (hl : (a, O.inst C d fs) ∈ Γ)
    (h : ∀ sa, callW X n (.val (.ref f)) [.ref a, .ref sa] ((sa, .slice l u .none) :: Γ) Q) : slW X (n + 1) (.ref a) l u .none Γ Q := by
  intro o' l' u' st' ro rl ru rs env loc sl hsl pos
  cases (show o' = .ref a from ro)
  refine TE.bind (tri_newSlice (Q := fun v g => ∃ a, v = .ref a ∧ g = (a, .slice l u .none) :: Γ) rl ru rs fun a => ⟨a, rfl, rfl⟩) fun sv sv' g hsv rsv => ?_
  obtain ⟨sa, rfl, rfl⟩ := hsv
  cases (show sv' = .ref sa from rsv)
  refine Tri.at ?_
  rcases hsl (.ref sa) with hs | hs
  · exact subW_inst hm hf (List.mem_cons_of_mem _ hl) (h sa) (.ref a) (.ref sa) rfl rfl env loc sl hs
  · refine Tri.bind (inPython_inst hm hf (List.mem_cons_of_mem _ hl)) fun b b' l g hb e => ?_
    obtain ⟨rfl, rfl, rfl⟩ := hb
    subst e
    rw [hs true]
    refine Tri.operate ?_
    intro A s Qc ok eo rm I k
    exact getW_inst hC hm (List.mem_cons_of_mem _ hl) (h sa) (.ref a) (.ref sa) rfl rfl env l A s Qc ok eo (rm.le (Nat.le_succ n)) I k
theorem binS_inst {a b C d e f : Addr} {op : Operator} {fs gs : List (Nat × V)} {Q : V → Led → Prop} (hC : ClsOk X.K C) (hm : methIn X.K C f (PySem.dunder op.info.2) = true) (hl : (a, O.inst C d fs) ∈ Γ) (hl2 : (b, O.inst C e gs) ∈ Γ)
    (h : callW X n (.val (.ref f)) [.ref a, .ref b] Γ (fun v Γ => (∀ u, v ≠ .val u) ∧ Q v Γ)) : binS X n op (.ref a) (.ref b) Γ Q := by
  unfold methIn at hm
  rw [Bool.and_eq_true] at hm
  intro a' b' ra rb env loc
  cases (show a' = .ref a from ra)
  cases (show b' = .ref b from rb)
  intro A s Qc ok eo rm I k
  obtain ⟨m, F, _⟩ := I.fr eo
  obtain ⟨es, nn, Ia, r⟩ := inst_at (I.led _ hl)
  obtain ⟨es2, nn2, Ib, r2⟩ := inst_at (I.led _ hl2)
  refine binop_K F ok.kin Ia Ib.type hC.self (beq_iff_eq.mp hm.1) hm.2 (h (.ref f) [.ref a, .ref b] rfl (.cons rfl (.cons rfl .nil)) env loc A s _ ok eo rm I fun v v' l Γ' s' q rv I' T => ?_)
  obtain ⟨rfl, hv, q⟩ := q
  have := k v v' _ Γ' s' ⟨rfl, q⟩ rv I' T
  cases v with
  | none => cases (show v' = .none from rv); exact this
  | bool b => cases (show v' = .bool b from rv); exact this
  | int i => obtain ⟨t, rfl⟩ := rv; exact this
  | ref a => cases (show v' = .ref a from rv); exact this
  | val u => exact absurd rfl (hv u)
end Mine


open PySem PySem.W PyProof.Rows PySem.Calls PySem.SeqAt
set_option Elab.async false
set_option maxRecDepth 100000
set_option linter.unusedVariables false
namespace Mine
variable {X : Cx} {n : Nat} {env : Env} {loc : Loc} {Γ : Led}

theorem iterL_list {v : V} {a : Addr} {xs : List V} (ho : IsRef v a) (hL : LI X Γ a xs) : iterL X n Γ v a := by
  intro v' rv env loc A s Qc ok eo rm I k
  cases ho.vr rv
  obtain ⟨vs, hl, r⟩ := hL env loc s.heap ok I
  have kp : ∀ b o, s.heap.get? b = some o → (s.heap.push { cls := .type "list_iterator", data := .fields #[.ref a, .int 0 0] }).get? b = some o := fun b o e => Heap.get?_push_of_some _ e
  exact wpAny_pyIter_list hl (k _ { s with heap := _ } get?_size ⟨_, Heap.get?_push_size _ rfl, rfl, rfl⟩ (I.still kp) (Tr.still kp rfl rfl))
theorem callW_iter {o : V} {a : Addr} {xs : List V} {Q : V → Led → Prop} (ho : IsRef o a) (hL : LI X Γ a xs) (q : ∀ I, Q (.ref I) ((I, .liter a 0) :: Γ)) : callW X n (.val (.builtin "iter")) [o] Γ Q := by
  intro fv' vs' rf rvs env loc
  cases (show fv' = .builtin "iter" from rf)
  obtain ⟨v', rfl, r⟩ := rvs.one
  cases ho.vr r
  intro A s Qc ok eo rm I k
  obtain ⟨vs, hl, r⟩ := hL env loc s.heap ok I
  refine PySem.Calls.call_function_entry (by decide +kernel) (by decide +kernel) (entryFor_of_tree (by kernel_rfl)) (by unfold argsOk; kernel_rfl) (b := Builtin.«iter») ?_
  unfold Builtin.«iter»
  refine wpAny_bind (m := someArgs "iter" 1 2 _) (wpAny_pure ?_)
  show wpAny _ _ (do ret (← pyIter (.ref a))) _ _ s
  have fr : ∀ b ∈ kf (s.heap.objs.size, O.liter a 0), s.heap.get? b = none := fun b hb => by rw [List.mem_singleton.mp hb]; exact get?_size
  have kp : ∀ b o, s.heap.get? b = some o → (s.heap.push { cls := .type "list_iterator", data := .fields #[.ref a, .int 0 0] }).get? b = some o := fun b o e => Heap.get?_push_of_some _ e
  exact wpAny_bind (wpAny_pyIter_list hl (wpAny_pure ⟨_, rfl, k (.ref _) _ loc _ { s with heap := _ } ⟨rfl, q _⟩ rfl (I.grow kp fr (by simp [kf]) ⟨_, Heap.get?_push_size _ rfl, rfl, rfl⟩) (Tr.grow kp fr rfl rfl)⟩))
theorem iterL_inst {x C d f a : Addr} {fs : List (Nat × V)} (hm : methIn X.K C f "__iter__" = true) (hl : (x, O.inst C d fs) ∈ Γ)
    (h : callW X n (.val (.ref f)) [.ref x] Γ (fun v Γ' => ∃ I, v = .ref I ∧ Γ' = (I, .liter a 0) :: Γ)) : iterL X n Γ (.ref x) a := by
  unfold methIn at hm
  rw [Bool.and_eq_true] at hm
  intro v' rv env loc A s Qc ok eo rm I k
  cases (show v' = .ref x from rv)
  have XK := ok.kin.keeps I.base
  obtain ⟨es, nn, Ia, r⟩ := inst_at (I.led _ hl)
  have hc : wpAny X.M A (call (.ref f) [.ref x]) (fun it s' => ∃ J, it = .ref J ∧ s'.TypeIs it "list_iterator" ∧ Qc it s') never s := by
    refine h (.ref f) [.ref x] rfl (.cons rfl .nil) env loc A s _ ok eo rm I fun v v' l Γ' s' q rv I' T => ?_
    obtain ⟨rfl, J, rfl, rfl⟩ := q
    cases (show v' = .ref J from rv)
    have hJ : s'.heap.IsListIter J a 0 := I'.led (J, .liter a 0) List.mem_cons_self
    have hnk : J ∉ keys Γ := fun z => by
      have := I'.nd
      rw [keys_cons] at this
      exact (List.nodup_append.mp this).2.2 J (by simp [kf]) J z rfl
    have hn : s.heap.get? J = none := (T.fresh J (by rw [keys_cons]; simp [kf])).elim (fun z => absurd z hnk) id
    obtain ⟨o, e, c, dd⟩ := id hJ
    exact ⟨J, rfl, ⟨o, e, c⟩, k J s' hn hJ (I'.weak .refl SubP.skip) (T.weak SubP.skip)⟩
  unfold pyIter
  refine wpAny_bind (wpAny_bind (Ia.type.here ((looks_findIn XK (beq_iff_eq.mp hm.1)).here ?_)))
  show wpAny X.M A (callSpecialIfBoundUnlessNone? (.ref x) "__iter__" _ >>= _) Qc never s
  have fin : wpAny X.M A (call (.ref f) [.ref x] >>= fun v => pure (some v)) (fun r s' => wpAny X.M A (match r with
      | some it => (do match ← specialOf it "__next__" with
        | none => rule "iter.non-iterator"; raiseError "TypeError" s!"iter() returned non-iterator of type '{← typeNameOf it}'"
        | some _ => pure it)
      | none => (do match ← bindSpecialIfBound? (.ref x) "__getitem__" with
        | none => rule "iter.not-iterable"; raiseError "TypeError" s!"'{← typeNameOf (.ref x)}' object is not iterable"
        | some _ => rule "iter.getitem-fallback"; newFields "iterator" [.ref x, ← mkInt 0])) Qc never s') never s := by
    refine wpAny_bind (wpAny_mono hc (fun it s' q => ?_) fun _ _ z => z)
    obtain ⟨J, rfl, hT, hq⟩ := q
    exact wpAny_pure (wpAny_bind (wpAny_specialOf hT slot_listiter_next.lookup (wpAny_pure hq)))
  refine wpAny_bind ?_
  simp only [callSpecialIfBoundUnlessNone?, bindSpecialIfBound?]
  refine wpAny_holding (wpAny_bind (wpAny_bind (wpAny_bind (Ia.type.here ((looks_findIn XK (beq_iff_eq.mp hm.1)).here ?_)))))
  refine wpAny_bind (wpAny_askSetting (wpAny_ite ?_))
  split
  · exact wpAny_bind ((bind_fn XK _ (beq_iff_eq.mp hm.2)).here (wpAny_pure (by exact fin)))
  · exact wpAny_tryCatch (wpAny_bind ((bind_fn XK _ (beq_iff_eq.mp hm.2)).here (wpAny_pure (by exact fin))))
end Mine


open PySem PySem.W PyProof.Rows PySem.Calls PySem.SeqAt
set_option Elab.async false
set_option maxRecDepth 100000
set_option linter.unusedVariables false
namespace Mine
variable {X : Cx} {n : Nat} {env : Env} {loc : Loc} {Γ : Led}

theorem cmp_is_none {a : Addr} {Q : V → Led → Prop} (q : Q (.bool false) Γ) : cmpS X n .Is (.ref a) .none Γ Q := by
  intro a' b' ra rb env loc
  cases (show a' = .ref a from ra)
  cases (show b' = .none from rb)
  exact tri_bool (fun A s Qc rm k => is_ref_none (k s.toks)) q
theorem sub_at {h : Heap} {a C d : Addr} {xs : List V} (r : OR X h a (.sub C d xs)) : ∃ vs n od, InstAt h a { cls := .ref C, dict := some d, data := .seq vs.toArray n } C (some od) ∧ VRs xs vs := by
  obtain ⟨⟨vs, n, e, q⟩, od, e'⟩ := r
  exact ⟨vs, n, od, ⟨e, rfl, rfl, e'⟩, q⟩
theorem callW_type_sub {a C d : Addr} {xs : List V} {Q : V → Led → Prop} (hl : (a, O.sub C d xs) ∈ Γ) (q : Q (.val (.ref C)) Γ) : callW X n (.val (.type "type")) [.ref a] Γ Q := by
  intro fv' vs' rf rvs env loc
  cases (show fv' = .type "type" from rf)
  obtain ⟨v', rfl, r⟩ := rvs.one
  cases (show v' = .ref a from r)
  refine Tri.quiet (b := .val (.ref C)) (fun A s Qc ok eo rm I k => ?_) ⟨rfl, q⟩
  obtain ⟨vs, m, od, Ia, r⟩ := sub_at (I.led _ hl)
  refine wpAny_call (codeAny_of_tree ?_)
  show wpAny _ _ (callAny (.type "type") _) _ _ _
  refine wpAny_pure ⟨Code.quiet_builtin _ (by decide +kernel), codeAny_builtin PySem.F.entry_type_call ?_⟩
  rw [Around.under_plain (weight_type_call_type "type" [.ref a] []) (units_type_call_type "type" [.ref a] [])]
  unfold Builtin.«type.__call__»
  show wpAny _ _ (shownTypeOf (.ref a) >>= fun v => ret v) _ _ _
  unfold shownTypeOf
  refine wpAny_bind (wpAny_bind (Ia.type.here ?_))
  exact wpAny_pure (wpAny_pure (k (.ref C) s.toks rfl))
theorem looks_isType {M : Model} {h : Heap} {K : Frag} {C : Addr} (XK : K.In h) (h2 : isClsIn K C = true) : Looks M h (isType (.ref C)) true := by
  unfold isClsIn clsIn at h2
  split at h2
  · rename_i e
    exact (Looks.ld (XK _ _ e)).andThen .now
  · cases h2
theorem callW_issub {C : Addr} {T : String} {Q : V → Led → Prop} (h1 : isClsIn X.K C = true) (h2 : subIn X.K (.ref C) (.type T) = some true) (hT : typeOf (.type T) = pure (.type "type")) (q : Q (.bool true) Γ) : callW X n (.val (.builtin "issubclass")) [.val (.ref C), .val (.type T)] Γ Q := by
  intro fv' vs' rf rvs env loc
  cases (show fv' = .builtin "issubclass" from rf)
  obtain ⟨u', v', rfl, ru, rv⟩ := rvs.two
  cases (show u' = .ref C from ru)
  cases (show v' = .type T from rv)
  refine Tri.quiet (b := .bool true) (fun A s Qc ok eo rm I k => ?_) ⟨rfl, q⟩
  have XK := ok.kin.keeps I.base
  refine call_issubclass (S := fun _ R s => X.K.In s.heap ∧ R (.ok (.ret (.bool true))) s) (fun prog w A R s hs => issubclass_outer ?_) ⟨XK, k _ s.toks rfl⟩
  obtain ⟨hh, g, d, tt, os⟩ := s
  have L1 := looks_isType (M := model prog w) hs.1 h1
  have L2 := looks_subIn (M := model prog w) hs.1 h2
  unfold Builtin.«issubclass.nested»
  refine wpAny_bind (wpAny_of_eq hT ?_)
  rw [if_pos (by decide)]
  k_delta "plainIsSubclass"
  refine wpAny_bind (wpAny_bind (L1.at (wpAny_bind (m := isType (.type T)) (wpAny_pure (a := true) ?_))))
  rw [if_pos (by decide)]
  exact L2.at (wpAny_pure hs.2)
theorem methR_type {T : String} {k : Nat} {v : Value} (hT : typeOf (.type T) = pure (.type "type")) (hst : Manifest.isStub T = false) (hv : handedIn v = true) (hf : ∀ x, X.at_[k]? = some x → findCls X.K (.type T) (.type "type") x = some (.val v)) : methR X n Γ (.val (.type T)) k v false := by
  intro ov' x rv hk env loc pl
  cases (show ov' = .type T from rv)
  refine Tri.quiet (b := (v, [])) (fun A s Qc ok eo rm I kq => ?_) ⟨rfl, rfl, rfl⟩
  obtain ⟨m, F, _⟩ := I.fr eo
  exact method_type F ok.kin hT hst (hf x hk) hv (kq _ _ rfl)
theorem tupItem_run {prog : Program} {w : World} {A : Around} {E : Value → Shared → Prop} {s : Shared} {a : Addr} {o : Obj} {items : Array Value} {n : Nat} {k : Int} {u : Tok} {j : Nat} {x : Value} {Q : Value → Shared → Prop} (ho : s.heap.get? a = some o) (hd : o.data = .seq items n)
    (hi : Looks (model prog w) s.heap (isInstance (.ref a) (.type "tuple")) true) (hlo : -(2 ^ 63) ≤ k) (hhi : k < 2 ^ 63) (hj : seqIndex? k items.size = some j) (hx : items[j]? = some x) (h : Q x s) : wpAny (model prog w) A (call (.builtin "tuple.__getitem__") [.ref a, .int k u]) Q E s := by
  refine wpAny_call (codeAny_call_builtin PySem.F.slot_tuple_getitem.plain PySem.F.entry_tuple_getitem (@check_slot (model prog w) _ _ _ "tuple.__getitem__" "tuple" "__getitem__" (.ref a) [.int k u] [] _ (by decide +kernel) (by decide +kernel) hi (PySem.F.args_tuple_getitem_2 _ _) ?_))
  show wpAny _ _ (Builtin.Tuple.tupleItemsOf (.ref a) >>= _) _ _ s
  have hit : ∀ {Q : Array Value → Shared → Prop} {E : Value → Shared → Prop} {A : Around}, Q items s → wpAny (model prog w) A (Builtin.Tuple.tupleItemsOf (.ref a)) Q E s := fun q => by
    unfold Builtin.Tuple.tupleItemsOf
    exact wpAny_bind (wpAny_seqItems ho hd (wpAny_pure q))
  refine wpAny_bind (hit ?_)
  refine wpAny_bind (wpAny_typeOf (typeIs_int s k u) ?_)
  rw [if_neg (by decide)]
  refine wpAny_bind (wpAny_specialOf (T := "int") (typeIs_int s k u) int_index ?_)
  rw [if_neg (by simp)]
  refine wpAny_bind (wpAny_of_eq (a := k) rfl ?_)
  rw [if_neg (by simp only [Bool.or_eq_true, decide_eq_true_eq]; omega)]
  simp only [hj, Option.bind_some, hx]
  exact wpAny_pure h
/-- a tuple's item, of a tuple of an own class -/
theorem callW_tupItem {a C d : Addr} {xs : List V} {i : Int} {x : V} {Q : V → Led → Prop} (hs : subIn X.K (.ref C) (.type "tuple") = some true) (hl : (a, O.sub C d xs) ∈ Γ) (hlen : xs.length ≤ 1000000) (h0 : 0 ≤ i) (hx : xs[i.toNat]? = some x) (q : Q x Γ) : callW X n (.val (.builtin "tuple.__getitem__")) [.ref a, .int i] Γ Q := by
  intro fv' vs' rf rvs env loc
  cases (show fv' = .builtin "tuple.__getitem__" from rf)
  obtain ⟨u', v', rfl, ru, t, rfl⟩ := rvs.two
  cases (show u' = .ref a from ru)
  refine Tri.quiet (b := x) (fun A s Qc ok eo rm I k => ?_) ⟨rfl, q⟩
  have XK := ok.kin.keeps I.base
  obtain ⟨vs, m, od, Ia, r⟩ := sub_at (I.led _ hl)
  obtain ⟨v, hv, rv⟩ := r.get' hx
  have hi : i.toNat < xs.length := (List.getElem?_eq_some_iff.mp hx).1
  exact tupItem_run Ia.at_ rfl (Ia.type.andThen (looks_subIn XK hs)) (by omega) (by omega) (seqIndex_of h0 (by rw [List.size_toArray, r.length]; omega)) (by simpa using hv) (k v s.toks rv)
/-- a field of an object of the base -/
def fieldIn (K : Frag) (a C d : Addr) (x : Str) (v : Value → Bool) : Bool := plainGet K C x && hasDictIn K C && freeIn K C x && (match K.lookup a, K.lookup d with
  | some ⟨.ref C', some d', .plain, _⟩, some ⟨.type "dict", none, .dict es _, sl⟩ => C' == C && d' == d && sl.size == 0 && (match getL x es.toList with | some (some u) => v u && handedIn u | _ => false)
  | _, _ => false)
theorem attr_base {a C d : Addr} {k : Nat} {v : V} {p : Value → Bool} {Q : V → Led → Prop} (hp : ∀ u, p u = true → VR v u) (hf : ∀ x, X.at_[k]? = some x → fieldIn X.K a C d x p = true) (q : Q v Γ) : attrW X n (.val (.ref a)) k Γ Q := by
  intro ov' x rv hx env loc
  cases (show ov' = .ref a from rv)
  refine Tri.quiet (b := v) (fun A s Qc ok eo rm I kq => ?_) ⟨rfl, q⟩
  have XK := ok.kin.keeps I.base
  obtain ⟨m, F, _⟩ := I.fr eo
  have h := hf x hx
  unfold fieldIn at h
  simp only [Bool.and_eq_true] at h
  obtain ⟨⟨⟨h1, h2⟩, h3⟩, h4⟩ := h
  split at h4
  · rename_i C' d' sl es n' sl' e1 e2
    simp only [Bool.and_eq_true, beq_iff_eq] at h4
    obtain ⟨⟨⟨rfl, rfl⟩, h5⟩, h6⟩ := h4
    split at h6
    · rename_i u e3
      rw [Bool.and_eq_true] at h6
      have hsl : sl' = #[] := Array.eq_empty_of_size_eq_zero h5
      subst hsl
      exact get_own (es := es.toList) (n := n') F ok.kin ⟨XK _ _ e1, rfl, rfl, by simpa using XK _ _ e2⟩ h1 h2 (beq_iff_eq.mp h3) rfl e3 h6.2 (kq u _ (hp u h6.1))
    · cases h6
  · cases h4
end Mine


open PySem PySem.W PyProof.Rows PySem.Calls PySem.SeqAt
set_option Elab.async false
set_option maxRecDepth 100000
set_option linter.unusedVariables false
namespace Mine
variable {X : Cx} {n : Nat} {env : Env} {loc : Loc} {Γ : Led}

def propIn (K : Frag) (C p f : Addr) (x : Str) : Bool := (clsIn K C).isSome && findIn K (.ref C) x == some (some (.ref p)) && specialIn K (.ref p) "__get__" == some (some (.ref f)) && takesIn K (.ref p) == some true
def tupCls (K : Frag) (C : Addr) : Bool := findIn K (.ref C) "__getattribute__" == some (some (.builtin "tuple.__getattribute__")) && findIn K (.ref C) "__getattr__" == some none && subIn K (.ref C) (.type "tuple") == some true
theorem attr_sub {a C d p f : Addr} {xs : List V} {k : Nat} {Q : V → Led → Prop} (hC : tupCls X.K C = true) (hp : ∀ x, X.at_[k]? = some x → propIn X.K C p f x = true) (hl : (a, O.sub C d xs) ∈ Γ)
    (h : callW X n (.val (.ref f)) [.val (.ref p), .ref a, .val (.ref C)] Γ (fun v Γ' => (∀ u, v ≠ .val u) ∧ Q v Γ')) : attrW X (n + 1) (.ref a) k Γ Q := by
  intro ov' x rv hx env loc
  cases (show ov' = .ref a from rv)
  intro A s Qc ok eo rm I kq
  obtain ⟨hh, gg, dd, tt, os⟩ := s
  have XK : X.K.In hh := ok.kin.keeps I.base
  obtain ⟨vs, m, od, Ia, r⟩ := sub_at (I.led _ hl)
  dsimp only at Ia
  unfold tupCls at hC
  simp only [Bool.and_eq_true, beq_iff_eq] at hC
  obtain ⟨⟨h1, h2⟩, h3⟩ := hC
  have hp := hp x hx
  unfold propIn at hp
  simp only [Bool.and_eq_true, beq_iff_eq] at hp
  obtain ⟨⟨⟨p1, p2⟩, p3⟩, p4⟩ := hp
  have L0 := Ia.type (M := X.M)
  have L1 := looks_findIn (M := X.M) XK h1
  have L2 := looks_findIn (M := X.M) XK h2
  have L3 := looks_find (M := X.M) XK Ia (findObj_data p1 p2 p3 p4)
  have L4 : Looks X.M hh (isInstance (.ref a) (.type "tuple")) true := L0.andThen (looks_subIn XK h3)
  have hcall : ∀ tk, wpAny X.M A.in1 (call (.ref f) [.ref p, .ref a, .ref C]) (fun v s' => handedIn v = true ∧ Qc v s') never ⟨hh, gg, dd, tk, os⟩ := fun tk =>
    h (.ref f) [.ref p, .ref a, .ref C] rfl (.cons rfl (.cons rfl (.cons rfl .nil))) env loc A.in1 ⟨hh, gg, dd, tk, os⟩ _ ok eo rm.in1 I fun b v l Γ' s' q rv I' T => by
      obtain ⟨rfl, hv, q⟩ := q
      exact ⟨handed_VR rv hv, kq b v _ Γ' s' ⟨rfl, q⟩ rv I' ⟨T.keep, T.fresh, T.gens, T.os⟩⟩
  unfold getAttr getAttrBy
  refine wpAny_bind (wpAny_mkText (wpAny_holding (wpAny_bind (L0.at (wpAny_bind (L1.at ?_))))))
  dsimp only
  rw [show (onTheHeap (.ref C) && Value.builtin "tuple.__getattribute__" == Value.builtin "object.__getattribute__") = false from by rw [show (Value.builtin "tuple.__getattribute__" == Value.builtin "object.__getattribute__") = false from by decide +kernel, Bool.and_false], if_neg (by decide)]
  unfold getAttrByItsOwn hookBefore
  rw [if_pos (show onTheHeap (.ref C) = true from rfl)]
  refine wpAny_bind (L2.at (wpAny_bind (wpAny_attempt (wpAny_holding ?_))))
  unfold callGetattribute
  rw [show (true && onTheHeap (Value.builtin "tuple.__getattribute__")) = false from rfl, if_neg (by decide)]
  unfold boundAndCalled
  rw [PySem.F.slot_tuple_getattribute.bind]
  refine wpAny_bind (wpAny_pure ?_)
  show wpAny _ _ (call (.builtin "tuple.__getattribute__") [.ref a, .str x tt]) _ _ _
  refine wpAny_call (codeAny_call_builtin PySem.F.slot_tuple_getattribute.plain am_entry_tuple_getattribute (@check_slot X.M _ _ ⟨hh, gg, dd, tt + 1, os⟩ "tuple.__getattribute__" "tuple" "__getattribute__" (.ref a) [.str x tt] [] _ (by decide +kernel) (by decide +kernel) L4 (PySem.F.args_tuple_getattribute_2 _ _) ?_))
  refine wpAny_bind (wpAny_pure (wpAny_bind (wpAny_pure (wpAny_bind (L0.at (wpAny_bind (L3.at ?_)))))))
  show wpAny _ _ (do ret (← holding [.ref p] (call (.ref f) [.ref p, .ref a, .ref C]))) _ _ _
  refine wpAny_bind (wpAny_holding (wpAny_mono (hcall _) (fun v s' hv => ?_) fun _ _ z => z.elim))
  refine wpAny_pure ?_
  show wpAny _ _ (handedOut v) _ _ _
  rw [handedOut_of hv.1]
  exact wpAny_pure hv.2
end Mine


open PySem PySem.W PyProof.Rows PySem.Calls PySem.SeqAt
set_option Elab.async false
set_option maxRecDepth 100000
set_option linter.unusedVariables false
namespace Mine
variable {X : Cx} {n : Nat} {env : Env} {loc : Loc} {Γ : Led}

/-! ## a class above tuple, with a __new__ of its own -/
def subClsIn (K : Frag) (C : Addr) : Bool := match K.lookup C with
  | some ⟨_, _, .cls cd, sl⟩ => !cd.hasDel && (sl.toList[4]?).join == some .none && cd.mro == [.ref C, .type "tuple", .type "object"] && cd.bases == [.type "tuple"] && specialIn K (.ref C) "__call__" == some (some (.builtin "type.__call__")) && instIn K (.ref C) (.type "type") == some true &&
      findIn K (.ref C) "__init__" == some (some (.builtin "object.__init__"))
  | _ => false
structure SubCls (M : Model) (h : Heap) (C : Addr) : Prop where
  obj : ∃ oc od cd sl, h.get? C = some ⟨oc, od, .cls cd, sl⟩ ∧ cd.hasDel = false
  mro : Looks M h (mroOf (.ref C)) [.ref C, .type "tuple", .type "object"]
  made : Looks M h (Bind.madeBy (.ref C)) none
  base : Looks M h (Bind.staticBase (.ref C)) (.type "tuple")
  typ : Looks M h (isType (.ref C)) true
  sub : ∀ b, [Value.ref C, .type "tuple", .type "object"].contains b = true → Looks M h (isSubtype (.ref C) b) true
  call : Looks M h (specialOf (.ref C) "__call__") (some (.builtin "type.__call__"))
  inst : Looks M h (isInstance (.ref C) (.type "type")) true
  init : Looks M h (typeLookup (.ref C) "__init__") (some (.builtin "object.__init__"))
theorem bestBase_tuple : Builtin.Slots.bestBase [.type "tuple"] = pure (.type "tuple") := by kernel_rfl
theorem subCls_of {K : Frag} {M : Model} {h : Heap} (XK : K.In h) {C : Addr} (e : subClsIn K C = true) : SubCls M h C := by
  unfold subClsIn at e
  split at e
  · rename_i oc od cd sl ho
    simp only [Bool.and_eq_true, Bool.not_eq_true', beq_iff_eq] at e
    obtain ⟨⟨⟨⟨⟨⟨e1, e2⟩, e3⟩, e4⟩, e5⟩, e6⟩, e7⟩ := e
    have hc : clsIn K C = some cd := by unfold clsIn; rw [ho]
    have hm : Looks M h (mroOf (.ref C)) cd.mro := (looks_clsIn XK hc).andThen .now
    have made : Looks M h (Bind.madeBy (.ref C)) none := by
      intro A Q E s k q
      unfold Bind.madeBy
      refine wpAny_bind (hm A _ E s k ?_)
      rw [e3, List.forIn_cons]
      refine wpAny_bind (wpAny_bind (wpAny_bind (wpAny_bind (wpAny_loadPart (k _ _ (XK _ _ ho)) (wpAny_pure ?_)))))
      dsimp only
      rw [← Array.getElem?_toList, e2]
      exact wpAny_pure (wpAny_pure (wpAny_pure q))
    refine ⟨⟨oc, od, cd, sl, XK _ _ ho, e1⟩, e3 ▸ hm, made, ?_, looks_isType XK (by unfold isClsIn; rw [hc]; rfl), fun b hb => looks_mroIn XK ?_, looks_specialIn XK e5, looks_instIn XK e6, looks_findIn XK e7⟩
    · intro A Q E s k q
      unfold Bind.staticBase
      refine wpAny_bind (hm A _ E s k ?_)
      rw [e3, List.forIn_cons]
      refine wpAny_bind (wpAny_bind ?_)
      dsimp only
      refine wpAny_bind (made A _ E s k ?_)
      rw [if_neg (by decide)]
      refine wpAny_bind (looks_clsIn XK hc A _ E s k ?_)
      rw [e4, bestBase_tuple]
      refine wpAny_bind (wpAny_pure (wpAny_pure ?_))
      dsimp only
      rw [List.forIn_cons]
      dsimp only
      rw [PySem.F.called_tuple.made]
      refine wpAny_bind (wpAny_bind (wpAny_pure ?_))
      exact wpAny_pure (wpAny_pure (wpAny_pure q))
    · unfold mroIn; rw [hc, Option.bind_some, e3, if_neg (by simp), hb]
  · cases e

theorem tupNew_args (C : Addr) (v : Value) : argsOk "tuple.__new__" ⟨[.ref C, v], []⟩ := by unfold argsOk; kernel_rfl
theorem tupNew_check {prog : Program} {w : World} {A : Around} {E : Value → Shared → Prop} {s : Shared} {C : Addr} {v : Value} {Q : Unit → Shared → Prop} (S : SubCls (model prog w) s.heap C) (q : Q () s) : wpAny (model prog w) A (checkBuiltinCall "tuple.__new__" ⟨[.ref C, v], []⟩) Q E s := by
  have h1 : builtinKind "tuple.__new__" = some .builtinFn := by decide +kernel
  have h2 : splitId "tuple.__new__" = some ("tuple", "__new__") := by decide +kernel
  have hm := PySem.F.called_tuple.made
  have ha := tupNew_args C v
  simp only [checkBuiltinCall, h1, h2]
  rw [if_pos (by decide)]
  refine wpAny_bind (S.typ.here ?_)
  rw [if_neg (by decide)]
  refine wpAny_bind ((S.sub (.type "tuple") (by simp)).here ?_)
  rw [if_neg (by decide)]
  refine wpAny_bind (S.base.here ?_)
  rw [hm]
  refine wpAny_bind (wpAny_pure ?_)
  dsimp only
  rw [if_neg (by simp)]
  cases hsig : Manifest.signature? "tuple.__new__" with
  | none => exact wpAny_pure q
  | some sig =>
    simp only [argsOk, hsig] at ha
    have h2 : Bind.checkArgs "tuple.__new__" sig ⟨[.ref C, v], []⟩ = pure () := ha
    show wpAny _ A (Bind.checkArgs "tuple.__new__" sig ⟨[.ref C, v], []⟩) Q E s
    rw [h2]; exact wpAny_pure q
theorem madeHere_sub {M : Model} {h : Heap} {C : Addr} (S : SubCls M h C) : Looks M h (Bind.madeHere "tuple.__new__" (.ref C)) () := by
  refine S.base.andThen ?_
  rw [PySem.F.called_tuple.made]
  exact Looks.of_pure (by simp)
theorem callW_tupNew {C t : Addr} {xs : List V} {Q : V → Led → Prop} (hC : subClsIn X.K C = true) (hl : (t, O.tup xs) ∈ Γ) (hlen : xs.length ≤ 1000000) (q : ∀ a d, Q (.ref a) ((a, .sub C d xs) :: Γ)) : callW X n (.val (.builtin "tuple.__new__")) [.val (.ref C), .ref t] Γ Q := by
  intro fv' vs' rf rvs env loc
  cases (show fv' = .builtin "tuple.__new__" from rf)
  obtain ⟨u', v', rfl, ru, rv⟩ := rvs.two
  cases (show u' = .ref C from ru)
  cases (show v' = .ref t from rv)
  intro A s Qc ok eo rm I k
  have XK := ok.kin.keeps I.base
  have S := subCls_of (M := X.M) XK hC
  obtain ⟨vs, m, e, r⟩ := I.led _ hl
  have hsz : vs.toArray.size ≤ sizeLine := by rw [List.size_toArray, r.length]; exact Nat.le_trans hlen (by decide)
  refine wpAny_call (codeAny_call_builtin (by decide +kernel) PySem.F.entry_tuple_new (tupNew_check S ?_))
  unfold Builtin.«tuple.__new__»
  dsimp only
  refine wpAny_bind (S.typ.here ?_)
  rw [if_neg (by decide)]
  refine wpAny_bind ((S.sub (.type "tuple") (by simp)).here ?_)
  rw [if_neg (by decide)]
  refine wpAny_bind ((madeHere_sub S).here (wpAny_bind (S.init.here ?_)))
  rw [if_pos (by decide)]
  refine wpAny_bind (wpAny_pure (wpAny_bind (wpAny_pure ?_)))
  show wpAny _ _ (if false = true then _ else _) _ _ s
  rw [if_neg Bool.false_ne_true]
  refine wpAny_bind (wpAny_collect_seq t (.inr rfl) e rfl rfl (fun h' kp => ?_) hsz)
  refine wpAny_bind (wpAny_pure (wpAny_bind (wpAny_alloc (wpAny_bind ?_))))
  have I1 : Invt X env loc Γ h' := I.still kp
  have kp2 : ∀ b o, h'.get? b = some o → ((h'.push { cls := .type "dict", data := .dict #[] }).push { cls := .ref C, dict := some h'.objs.size, data := .seq vs.toArray }).get? b = some o := fun b o e => Heap.get?_push_of_some _ (Heap.get?_push_of_some _ e)
  have e1 : ((h'.push { cls := .type "dict", data := .dict #[] }).push { cls := .ref C, dict := some h'.objs.size, data := .seq vs.toArray }).get? (h'.objs.size + 1) = some { cls := .ref C, dict := some h'.objs.size, data := .seq vs.toArray } := by
    have := Heap.get?_push_size (h'.push { cls := .type "dict", data := .dict #[] }) (o := { cls := .ref C, dict := some h'.objs.size, data := .seq vs.toArray }) rfl
    rwa [Heap.size_push] at this
  have e2 : ((h'.push { cls := .type "dict", data := .dict #[] }).push { cls := .ref C, dict := some h'.objs.size, data := .seq vs.toArray }).get? h'.objs.size = some { cls := .type "dict", data := .dict #[] } := Heap.get?_push_of_some _ (Heap.get?_push_size _ rfl)
  have fr : ∀ b ∈ kf (h'.objs.size + 1, O.sub C h'.objs.size xs), h'.get? b = none := fun b hb => by
    simp [kf] at hb
    rcases hb with rfl | rfl
    · exact Heap.get?_none_of_le (Nat.le_succ _)
    · exact get?_size
  have nd : (kf (h'.objs.size + 1, O.sub C h'.objs.size xs)).Nodup := by
    simp only [kf, List.nodup_cons, List.mem_singleton, List.not_mem_nil, not_false_eq_true, List.nodup_nil, and_true]
    exact Nat.succ_ne_self _
  have I2 := I1.grow (ob := .sub C h'.objs.size xs) kp2 fr nd ⟨⟨vs, 0, e1, r⟩, _, e2⟩
  have T2 : Tr env Γ s ((h'.objs.size + 1, O.sub C h'.objs.size xs) :: Γ) { s with heap := (h'.push { cls := .type "dict", data := .dict #[] }).push { cls := .ref C, dict := some h'.objs.size, data := .seq vs.toArray } } :=
    (Tr.still (s' := { s with heap := h' }) kp rfl rfl).trans (Tr.grow kp2 fr rfl rfl) I2
  have fin := k (.ref (h'.objs.size + 1)) _ loc _ _ ⟨rfl, q _ _⟩ rfl I2 T2
  obtain ⟨⟨oc, od, cd, sl, hC', hdel⟩, _⟩ := S
  have hC2 := kp2 _ _ (kp _ _ hC')
  unfold newObj
  dsimp only
  rw [if_neg (Nat.not_lt.mpr (by simpa using hsz))]
  unfold newObjAsIs classHasDel
  refine wpAny_bind (wpAny_alloc ?_)
  dsimp only
  refine wpAny_bind (wpAny_bind (wpAny_load hC2 (wpAny_pure ?_)))
  rw [hdel, if_neg Bool.false_ne_true]
  refine wpAny_pure (wpAny_pure ?_)
  rw [Heap.size_push]
  exact fin

end Mine


open PySem PySem.W PyProof.Rows PySem.Calls PySem.SeqAt
set_option Elab.async false
set_option maxRecDepth 100000
set_option linter.unusedVariables false
namespace Mine
variable {X : Cx} {n : Nat} {env : Env} {loc : Loc} {Γ : Led}

theorem oi_args3 (a b c : Value) : argsOk "object.__init__" ⟨[a, b, c], []⟩ := by unfold argsOk; kernel_rfl
theorem callC_sub {C p f : Addr} {u v : V} {Q : V → Led → Prop} (hC : subClsIn X.K C = true) (hn : readsIn X.K C (.type "type") = true) (hf : findCls X.K (.ref C) (.type "type") "__new__" = some (.get (.builtin "staticmethod.__get__") (.ref p) .none (.ref C))) (hr : ∃ rest, recIn X.K p "staticmethod" = some (.ref f :: rest))
    (h : callW X n (.val (.ref f)) [.val (.ref C), u, v] Γ (fun r Γ' => ∃ a d xs, r = .ref a ∧ (a, O.sub C d xs) ∈ Γ' ∧ Q r Γ')) : callC X (n + 1) (.val (.ref C)) [u, v] Γ Q := by
  intro fv' vs' rf rvs env loc A s Qc ok eo rm I k R kR
  cases (show fv' = .ref C from rf)
  obtain ⟨u', v', rfl, ru, rv⟩ := rvs.two
  have XK := ok.kin.keeps I.base
  have S := subCls_of (M := X.M) XK hC
  obtain ⟨rest, hr⟩ := hr
  have hcall : ∀ tk, wpAny X.M (A.under (.builtin "type.__call__" ⟨.ref C :: [u', v'], []⟩)) (call (.ref f) [.ref C, u', v']) (fun r' s' => ∃ a d xs, r' = .ref a ∧ OR X s'.heap a (.sub C d xs) ∧ (∀ b o, X.hB.get? b = some o → s'.heap.get? b = some o) ∧ Qc r' s') never { s with toks := tk } := fun tk =>
    h (.ref f) [.ref C, u', v'] rfl (.cons rfl (.cons ru (.cons rv .nil))) env loc _ { s with toks := tk } _ ok eo rm.create I fun b v l Γ' s' q rv' I' T => by
      obtain ⟨rfl, a, d, xs, rfl, hm, q⟩ := q
      cases (show v = .ref a from rv')
      exact ⟨a, d, xs, rfl, I'.led _ hm, I'.base, k (.ref a) _ Γ' s' q rfl I' ⟨T.keep, T.fresh, T.gens, T.os⟩⟩
  obtain ⟨hh, gg, dd, tt, os⟩ := s
  dsimp only at XK S hcall
  obtain ⟨⟨oc, od, cd, sl, hCo, hdel⟩, hmro, hmade, hbase, htyp, hsub, hcal, hinst, hinit⟩ := id S
  refine codeAny_of_tree ?_
  show wpAny _ _ (callAny (.ref C) _) _ _ _
  refine nd_load hCo ?_
  show wpAny _ _ (callAny.viaDunder (.ref C) _) _ _ _
  unfold callAny.viaDunder
  refine wpAny_bind (hcal.at ?_)
  dsimp only
  rw [tc_bind]
  refine wpAny_bind (wpAny_pure (wpAny_bind (wpAny_pure ?_)))
  refine wpAny_pure (a := Fin.again (.call (.builtin "type.__call__") ⟨.ref C :: [u', v'], []⟩)) (And.intro rfl ?_)
  refine codeAny_call_builtin_at (Code.quiet_builtin _ (by decide +kernel)) entry_typeCall (check_slot tc_kind tc_split hinst (tc_args _ _ _) ?_)
  unfold Builtin.«type.__call__»
  dsimp only
  show wpAny _ _ (if false = true then _ else _) _ _ _
  rw [if_neg Bool.false_ne_true]
  refine wpAny_bind (hmro.at ?_)
  rw [if_neg (by simp)]
  refine wpAny_bind (hmade.at ?_)
  dsimp only
  refine wpAny_bind ?_
  refine cls_bind XK hn hf (wpAny_call (sm_get (s := ⟨hh, gg, dd, tt + 1, os⟩) XK hr (handed_on rfl ?_)))
  refine wpAny_bind (wpAny_holding (wpAny_mono (hcall _) (fun r' s' hq => ?_) fun _ _ z => z.elim))
  obtain ⟨a, d, xs, rfl, hob, hbs, hq⟩ := hq
  obtain ⟨vs, m, od', Ia, r⟩ := sub_at hob
  have XK' := ok.kin.keeps hbs
  have S' := subCls_of (M := X.M) XK' hC
  obtain ⟨h', g', d', t', os'⟩ := s'
  dsimp only at Ia S'
  have L1 : Looks X.M h' (isInstance (.ref a) (.ref C)) true := Ia.type.andThen (S'.sub (.ref C) (by simp))
  have L2 : Looks X.M h' (isInstance (.ref a) (.type "object")) true := Ia.type.andThen (S'.sub (.type "object") (by simp))
  have hq' := kR _ _ hq
  refine wpAny_bind (L1.at ?_)
  rw [if_neg (by decide)]
  refine wpAny_bind (wpAny_holding ?_)
  unfold callSpecial? specialOf
  refine wpAny_bind (wpAny_bind (Ia.type.at (S'.init.at ?_)))
  dsimp only
  refine wpAny_holding ?_
  rw [oi_bind]
  refine wpAny_bind (wpAny_pure (wpAny_bind ?_))
  refine wpAny_call (codeAny_call_builtin oi_plain entry_oi (@check_slot X.M _ _ ⟨h', g', d', t', os'⟩ "object.__init__" "object" "__init__" (.ref a) [u', v'] [] _ oi_kind oi_split L2 (oi_args3 (.ref a) u' v') ?_))
  unfold Builtin.«object.__init__»
  dsimp only
  show wpAny _ _ (if true = true then _ else _) _ _ _
  rw [if_pos rfl]
  refine wpAny_bind (Ia.type.at (wpAny_bind (S'.init.at (wpAny_bind (S'.made.at ?_)))))
  rw [if_neg (by simp), if_neg (by simp)]
  exact wpAny_pure (wpAny_pure (wpAny_pure hq'))
end Mine


open PySem PySem.W PyProof.Rows PySem.Calls PySem.SeqAt
set_option Elab.async false
set_option maxRecDepth 100000
set_option linter.unusedVariables false
namespace Mine

/-! ## bits -/
theorem nat_or_split : ∀ (a b : Nat), (a ||| b) = (a ^^^ b) + (a &&& b) := by
  intro a
  induction a using Nat.strongRecOn with
  | ind a ih =>
    intro b
    by_cases h : a = 0
    · subst h; simp
    · have e := ih (a / 2) (by omega) (b / 2)
      have h1 : (a ||| b) / 2 = a / 2 ||| b / 2 := by rw [Nat.or_div_two]
      have h2 : (a ^^^ b) / 2 = a / 2 ^^^ b / 2 := by rw [Nat.xor_div_two]
      have h3 : (a &&& b) / 2 = a / 2 &&& b / 2 := by rw [Nat.and_div_two]
      have m1 : (a ||| b) % 2 = (a ^^^ b) % 2 + (a &&& b) % 2 := by
        have q1 := Nat.or_mod_two_eq_one (a := a) (b := b)
        have q2 := Nat.and_mod_two_eq_one (a := a) (b := b)
        have q3 := Nat.xor_mod_two_eq_one (a := a) (b := b)
        have r1 : a % 2 = 0 ∨ a % 2 = 1 := by omega
        have r2 : b % 2 = 0 ∨ b % 2 = 1 := by omega
        have s1 : (a ||| b) % 2 = 0 ∨ (a ||| b) % 2 = 1 := by omega
        have s2 : (a &&& b) % 2 = 0 ∨ (a &&& b) % 2 = 1 := by omega
        omega
      omega
theorem bitNot_nat (a : Nat) : Builtin.bitNot (a : Int) = -(a : Int) - 1 := by
  show (Builtin.bitNot (a : Int)) = _
  unfold Builtin.bitNot
  omega
theorem bitAnd_nat (a b : Nat) : Builtin.bitAnd a b = ((a &&& b : Nat) : Int) := by
  unfold Builtin.bitAnd
  rw [decide_eq_true (Int.natCast_nonneg a), decide_eq_true (Int.natCast_nonneg b)]
  rfl
theorem bitOr_nat (a b : Nat) : Builtin.bitOr a b = ((a ||| b : Nat) : Int) := by
  unfold Builtin.bitOr
  have n1 : ¬ (0 ≤ Builtin.bitNot (a : Int)) := by rw [bitNot_nat]; omega
  have n2 : ¬ (0 ≤ Builtin.bitNot (b : Int)) := by rw [bitNot_nat]; omega
  have e1 : (Builtin.bitNot (Builtin.bitNot (a : Int))).toNat = a := by
    rw [bitNot_nat]; unfold Builtin.bitNot; omega
  have e2 : (Builtin.bitNot (Builtin.bitNot (b : Int))).toNat = b := by
    rw [bitNot_nat]; unfold Builtin.bitNot; omega
  unfold Builtin.bitAnd
  rw [decide_eq_false n1, decide_eq_false n2]
  show Builtin.bitNot (Builtin.bitNot (((Builtin.bitNot (Builtin.bitNot (a : Int))).toNat ||| (Builtin.bitNot (Builtin.bitNot (b : Int))).toNat : Nat) : Int)) = _
  rw [e1, e2, bitNot_nat]
  unfold Builtin.bitNot
  omega
theorem bitXor_nat (a b : Nat) : Builtin.bitXor a b = ((a ^^^ b : Nat) : Int) := by
  unfold Builtin.bitXor
  rw [bitOr_nat, bitAnd_nat, nat_or_split]
  omega

/-! ## the field of 256 -/
def xt (a : Nat) : Nat := if 2 * a > 255 then (2 * a) ^^^ 285 else 2 * a
def expL : Nat → Nat → List Nat
  | 0, _ => []
  | k + 1, a => a :: expL k (xt a)
def expT : List Nat := expL 256 1
def E (k : Nat) : Nat := expT.getD (k % 255) 0
def logT : List Nat := (List.range 256).map fun a => if a = 0 then 0 else (expT.take 255).idxOf a
def L (a : Nat) : Nat := logT.getD a 0
def mul (a b : Nat) : Nat := if a = 0 ∨ b = 0 then 0 else E (L a + L b)

theorem E_period (k : Nat) : E k = E (k % 255) := by unfold E; rw [Nat.mod_mod]
theorem fact_E : (List.range 255).all (fun k => decide (E k < 256) && decide (0 < E k) && decide (L (E k) = k) && decide (E (k + 1) = xt (E k))) = true := by decide +kernel
theorem fact_L : (List.range 256).all (fun a => a == 0 || (decide (L a < 255) && decide (E (L a) = a))) = true := by decide +kernel
end Mine


open PySem PySem.W PyProof.Rows PySem.Calls PySem.SeqAt
set_option Elab.async false
set_option maxRecDepth 100000
set_option linter.unusedVariables false
namespace Mine
variable {X : Cx} {n : Nat} {Γ : Led} {Q : V → Led → Prop}

def FnIs (X : Cx) (f : Addr) (k : Nat) (par : List (Option Nat)) (m : MSs) : Prop :=
  keepIn X.K (.ref f) = true ∧ ∀ n vs Γ Q, vs.length = k → wpSs X n m (par.map fun o => o.bind fun i => vs[i]?) Γ (FnPost Q) → callC X (n + 1) (.val (.ref f)) vs Γ Q
theorem FnIs.w {f : Addr} {k : Nat} {par : List (Option Nat)} {m : MSs} (h : FnIs X f k par m) {vs : List V} (hl : vs.length = k) (q : wpSs X n m (par.map fun o => o.bind fun i => vs[i]?) Γ (FnPost Q)) :
    keepsW X (.val (.ref f)) ∧ callW X (n + 1) (.val (.ref f)) vs Γ Q := ⟨keeps_K h.1, (h.2 n vs Γ Q hl q).w⟩

def expI : List Int := expT.map fun a : Nat => (a : Int)
def logI : List Int := logT.map fun a : Nat => (a : Int)
def m_glog : MSs := (.cons (.ite (.cmp .Lt (.loc 0) (.int 1)) (.cons .never .nil) .nil) (.cons (.ret (.sub (.val (.ref 108)) (.loc 0))) .nil))
def m_gexp : MSs := (.cons (.ret (.sub (.val (.ref 107)) (.bin .Mod (.loc 0) (.int 255)))) .nil)
theorem L_get {a : Nat} (h : a < 256) : (intsV logI)[a]? = some (.int (L a)) := by
  have hl : logT.length = 256 := by decide +kernel
  unfold intsV logI L
  rw [List.getElem?_map, List.getElem?_map, List.getElem?_eq_getElem (by omega), List.getD_eq_getElem?_getD, List.getElem?_eq_getElem (by omega)]
  rfl
theorem E_get {k : Nat} (h : k < 256) : (intsV expI)[k]? = some (.int (expT.getD k 0 : Nat)) := by
  have hl : expT.length = 256 := by decide +kernel
  unfold intsV expI
  rw [List.getElem?_map, List.getElem?_map, List.getElem?_eq_getElem (by omega), List.getD_eq_getElem?_getD, List.getElem?_eq_getElem (by omega)]
  rfl
theorem glog_spec (h : FnIs X 115 1 [some 0] m_glog) (ht : BaseList X 108 (intsV logI)) {a : Nat} (h1 : 1 ≤ a) (h2 : a < 256) (q : Q (.int (L a)) Γ) : keepsW X (.val (.ref 115)) ∧ callW X (n + 1) (.val (.ref 115)) [.int a] Γ Q := by
  refine h.w rfl ?_
  simp only [m_glog, wpSs, wpS, wpE, wpT]
  refine ⟨_, rfl, ?_⟩
  simp only [cmpW, truthW]
  refine ⟨fun hb => ?_, fun _ => ?_⟩
  · simp at hb; omega
  · refine ⟨_, rfl, ?_⟩
    refine subW_list isRefV (LAt.base ht).li (getW_list isRefV (LAt.base ht).li (by omega) (by omega) (x := .int (L a)) ?_ ?_)
    · rw [Int.toNat_natCast]; exact L_get h2
    · exact ⟨Γ, .refl, q⟩
end Mine


open PySem PySem.W PyProof.Rows PySem.Calls PySem.SeqAt
set_option Elab.async false
set_option maxRecDepth 100000
set_option linter.unusedVariables false
namespace Mine
variable {X : Cx} {n : Nat} {Γ : Led} {Q : V → Led → Prop}

/-! ## slices -/
theorem pick_run {α : Type} (xs : List α) : ∀ (c a : Nat), ((List.range c).map fun k => a + k).filterMap (xs[·]?) = (xs.drop a).take c
  | 0, a => by simp
  | c + 1, a => by
    rw [List.range_succ_eq_map, List.map_cons, List.map_map]
    have e : ((fun k => a + k) ∘ Nat.succ) = fun k => (a + 1) + k := by funext k; simp; omega
    rw [e]
    have ih := pick_run xs c (a + 1)
    cases h : xs[a]? with
    | none =>
      rw [List.filterMap_cons_none (by simpa using h), ih]
      have := List.getElem?_eq_none_iff.mp h
      rw [List.drop_eq_nil_of_le (by omega), List.drop_eq_nil_of_le this]; simp
    | some x =>
      rw [List.filterMap_cons_some (by simpa using h), ih]
      obtain ⟨hlt, e2⟩ := List.getElem?_eq_some_iff.mp h
      rw [List.drop_eq_getElem_cons hlt, e2, List.take_succ_cons]
theorem sliceV_run {xs : List V} {lo hi : Option Int} {a b : Nat} (h : sliceBounds lo hi none xs.length = ((a : Int), (b : Int), 1)) : sliceV xs lo hi none = (xs.drop a).take (b - a) := by
  unfold sliceV
  rw [h, ← pick_run]
  have e : sliceRange (a : Int) (b : Int) 1 = (List.range (b - a)).map fun k => a + k := by
    unfold sliceRange
    have hc : (if (1 : Int) > 0 then (if (a : Int) < b then ((b : Int) - a + 1 - 1) / 1 else 0) else (if (a : Int) > b then ((a : Int) - b - 1 - 1) / (-1) else 0)).toNat = b - a := by
      rw [if_pos (by omega)]
      by_cases hl : (a : Int) < b
      · rw [if_pos hl]; omega
      · rw [if_neg hl]; omega
    dsimp only
    rw [hc]
    refine List.map_congr_left fun k _ => ?_
    omega
  rw [e]
theorem sliceV_from {xs : List V} {a : Nat} (h : a ≤ xs.length) : sliceV xs (some a) none none = xs.drop a := by
  rw [sliceV_run (a := a) (b := xs.length)]
  · rw [List.take_of_length_le (by simp)]
  · unfold sliceBounds; simp; omega
theorem sliceV_to {xs : List V} {b : Nat} (h : b ≤ xs.length) : sliceV xs none (some b) none = xs.take b := by
  rw [sliceV_run (a := 0) (b := b)]
  · simp
  · unfold sliceBounds; simp; omega
theorem sliceV_mid {xs : List V} {a b : Nat} (h : a ≤ xs.length) (h2 : b ≤ xs.length) : sliceV xs (some a) (some b) none = (xs.drop a).take (b - a) := by
  rw [sliceV_run (a := a) (b := b)]
  unfold sliceBounds; simp; omega
theorem sliceV_last {xs : List V} {d : Nat} (h0 : 0 < d) (h : d ≤ xs.length) : sliceV xs (some (-(d : Int))) none none = xs.drop (xs.length - d) := by
  rw [sliceV_run (a := xs.length - d) (b := xs.length)]
  · rw [List.take_of_length_le (by simp)]
  · unfold sliceBounds; simp; omega

/-! ## octets -/
def ns (l : List Nat) : List V := l.map fun a : Nat => .int a
theorem ns_length {l : List Nat} : (ns l).length = l.length := by simp [ns]
theorem ns_get {l : List Nat} {k : Nat} {a : Nat} (h : l[k]? = some a) : (ns l)[k]? = some (.int a) := by
  unfold ns; rw [List.getElem?_map, h]; rfl
theorem ns_get' {l : List Nat} {k : Nat} {v : V} (h : (ns l)[k]? = some v) : ∃ a, l[k]? = some a ∧ v = .int a := by
  unfold ns at h; rw [List.getElem?_map] at h
  obtain ⟨a, ha, rfl⟩ := Option.map_eq_some_iff.mp h
  exact ⟨a, ha, rfl⟩
theorem ns_append {l r : List Nat} : ns l ++ ns r = ns (l ++ r) := by simp [ns]
theorem ns_drop {l : List Nat} {a : Nat} : (ns l).drop a = ns (l.drop a) := by simp [ns, List.map_drop]
theorem ns_take {l : List Nat} {a : Nat} : (ns l).take a = ns (l.take a) := by simp [ns, List.map_take]
theorem ns_rep {k a : Nat} : List.replicate k (V.int a) = ns (List.replicate k a) := by simp [ns]
theorem ns_set {l : List Nat} {i a : Nat} : (ns l).set i (.int a) = ns (l.set i a) := by simp [ns, List.map_set]
theorem ns_ints {l : List Nat} : ns l = intsV (l.map fun a : Nat => (a : Int)) := by simp [ns, intsV]

/-! ## Polynomial.__init__ -/
def strip : List Nat → List Nat
  | [] => []
  | [a] => [a]
  | a :: b :: r => if a = 0 then strip (b :: r) else a :: b :: r
theorem strip_drop : ∀ {l : List Nat} {k : Nat}, k < l.length → (∀ j < k, l[j]? = some 0) → (k + 1 = l.length ∨ ∃ a, l[k]? = some a ∧ a ≠ 0) → l.drop k = strip l
  | [], k, h, _, _ => by simp at h
  | [a], k, h, _, _ => by
    have : k = 0 := by simp at h; omega
    subst this; rfl
  | a :: b :: r, 0, _, _, h2 => by
    rcases h2 with h2 | ⟨c, hc, hne⟩
    · simp at h2
    · simp at hc; subst hc
      simp [strip, hne]
  | a :: b :: r, k + 1, h, h1, h2 => by
    have h0 := h1 0 (by omega)
    simp at h0; subst h0
    rw [List.drop_succ_cons]
    simp only [strip, if_true]
    refine strip_drop (by simp at h ⊢; omega) (fun j hj => ?_) ?_
    · have := h1 (j + 1) (by omega); simpa using this
    · rcases h2 with h2 | ⟨c, hc, hne⟩
      · left; simp at h2 ⊢; omega
      · right; exact ⟨c, by simpa using hc, hne⟩
def m_init2 : MSs := (.cons (.asgAttr (.loc 0) 0 (.bin .Add (.slice (.loc 1) (.loc 3) .none .none) (.bin .Mult (.list (.cons (.int 0) .nil)) (.loc 2)))) .nil)
def m_init : MSs := (.cons (.ite (.not (.val (.loc 1))) (.cons .never .nil) .nil)
  (.cons (.asg 3 (.int 0))
  (.cons (.loop (.loc 3) (.rng (.call (.val (.builtin "len")) (.cons (.loc 1) .nil))) (.cons (.ite (.cmp .NotEq (.sub (.loc 1) (.loc 3)) (.int 0)) (.cons .brk .nil) .nil) .nil))
  (.cons (.asgAttr (.loc 0) 0 (.bin .Add (.slice (.loc 1) (.loc 3) .none .none) (.bin .Mult (.list (.cons (.int 0) .nil)) (.loc 2)))) .nil))))
/-- what is known of the classes of the prefix -/
structure PolyK (X : Cx) : Prop where
  nd : X.at_.Nodup
  cls : ClsOk X.K 172
  num : ∀ x, X.at_[0]? = some x → freeIn X.K 172 x = true
  init : initIn X.K 172 136 = true
  initF : FnIs X 136 3 [some 0, some 1, some 2, none] m_init
  kcls : keepIn X.K (.ref 172) = true
theorem SubP.tail {e : Addr × O} {R Γ : Led} (h : SubP R Γ) : SubP R (e :: Γ) := by
  induction h with
  | refl => exact SubP.skip
  | nil => exact .nil
  | cons h _ ih => exact .cons (.there h) ih
theorem mem1 {e : Addr × O} {Γ : Led} : e ∈ e :: Γ := List.mem_cons_self
theorem mem2 {e e1 : Addr × O} {Γ : Led} : e ∈ e1 :: e :: Γ := .tail _ mem1
theorem mem3 {e e1 e2 : Addr × O} {Γ : Led} : e ∈ e1 :: e2 :: e :: Γ := .tail _ mem2
theorem mem4 {e e1 e2 e3 : Addr × O} {Γ : Led} : e ∈ e1 :: e2 :: e3 :: e :: Γ := .tail _ mem3
theorem truthW_list {o : V} {a : Addr} {xs : List V} {Q : Bool → Led → Prop} (ho : IsRef o a) (hL : LI X Γ a xs) (hlen : xs.length ≤ 1000000) (q : Q (!xs.isEmpty) Γ) : truthW X n o Γ Q := by
  have h := truthS_list (n := n) ho hL hlen q
  rcases ho with rfl | rfl <;> exact h
theorem init_spec (P : PolyK X) {a d b : Addr} {o : V} {xs : List Nat} {s : Nat} (ho : IsRef o b) (hL : ∀ Γ', SubP Γ Γ' → LAt X Γ' b (ns xs)) (h0 : xs ≠ []) (hlen : xs.length ≤ 900000) (hs : s ≤ 1000)
    (q : ∀ l, Q .none ((a, .inst 172 d [(0, .ref l)]) :: (l, .list (ns (strip xs ++ List.replicate s 0))) :: Γ)) : callC X (n + 1) (.val (.ref 136)) [.ref a, o, .int s] ((a, .inst 172 d []) :: Γ) Q := by
  refine P.initF.2 n _ _ Q rfl ?_
  have hL1 := hL ((a, .inst 172 d []) :: Γ) SubP.skip
  have k1 : keepsW X (.val (.builtin "len")) := keeps_builtin
  simp only [m_init, wpSs, wpS, wpE, wpT, wpI, wpEs]
  refine ⟨o, rfl, truthW_list ho hL1.li (by rw [ns_length]; omega) ⟨fun h => ?_, fun _ => ?_⟩⟩
  · cases xs with
    | nil => exact absurd rfl h0
    | cons _ _ => simp [ns] at h
  refine ⟨o, rfl, k1, callW_len_list ho hL1.li (by rw [ns_length]; omega) ⟨_, rfl, by omega, by rw [ns_length]; omega, ?_⟩⟩
  let G : Led := (a, .inst 172 d []) :: Γ
  let lc : Nat → Loc := fun j => [some (.ref a), some o, some (.int s), some (.int (j : Int))]
  refine ⟨xs.length, fun k loc Γ' => Γ' = G ∧ k ≤ xs.length ∧ loc = lc (k - 1) ∧ ∀ j < k, xs[j]? = some 0, ⟨rfl, Nat.zero_le _, rfl, fun j hj => absurd hj (Nat.not_lt_zero _)⟩, ?_⟩
  rintro k loc Γ' ⟨rfl, hk, rfl, hz⟩
  have pos : 0 < xs.length := List.length_pos_iff.mpr h0
  -- what follows the loop
  have post : ∀ j, j < xs.length → (∀ i < j, xs[i]? = some 0) → (j + 1 = xs.length ∨ ∃ a, xs[j]? = some a ∧ a ≠ 0) →
      wpSs X n m_init2 (lc j) G (FnPost Q) := by
    intro j hj h1 h2
    have hd := strip_drop hj h1 h2
    simp only [m_init2, wpSs, wpS, wpE, wpEs]
    refine ⟨o, rfl, .int (j : Int), rfl, ?_⟩
    refine slW_list ho hL1.li (lo := some (j : Int)) (hi := none) (sp := none) rfl rfl rfl (by simp) (by rw [ns_length]; omega) fun l1 => ⟨by decide, fun c => ⟨.int (s : Int), rfl, ?_⟩⟩
    rw [sliceV_from (by rw [ns_length]; omega), ns_drop, hd]
    refine binS_rep isRef (LAt.led List.mem_cons_self) (by omega) (by omega) fun c2 => ?_
    rw [Int.toNat_natCast, show V.int 0 = V.int ((0 : Nat) : Int) from rfl, ns_rep]
    refine binS_concat isRef isRef (LAt.led mem3) (LAt.led mem1) (by rw [ns_length, ns_length, ← hd]; simp; omega) fun l => ?_
    rw [ns_append]
    refine ⟨.ref a, rfl, ?_⟩
    exact setAttr_inst P.nd P.cls P.num (.there (.there (.there (.there .here)))) (by simp) ⟨_, .cons .here (.cons .here (.tail (.tail (.tail .refl)))), q l⟩
  refine ⟨hk, ⟨fun hlt => ?_, fun hge => ?_⟩⟩
  · have hlt : k < xs.length := by rw [ns_length] at hlt; omega
    obtain ⟨v, hv⟩ : ∃ v, xs[k]? = some v := ⟨_, List.getElem?_eq_getElem hlt⟩
    refine ⟨o, rfl, .int (0 + (k : Int)), by simp [lc], ?_⟩
    rw [Int.zero_add]
    refine subW_list ho hL1.li (getW_list ho hL1.li (by omega) (by omega) (x := .int v) (by rw [Int.toNat_natCast]; exact ns_get hv) ?_)
    simp only [cmpW, truthW]
    refine ⟨fun hne => ?_, fun he => ?_⟩
    · have hne : v ≠ 0 := by simpa using hne
      have := post k hlt hz (.inr ⟨v, hv, hne⟩)
      simp only [m_init2, wpSs, wpS, wpE, wpEs] at this
      simpa [lc] using this
    · have he : v = 0 := by simpa using he
      subst he
      refine ⟨_, G, .refl, .refl, rfl, hlt, rfl, fun j hj => ?_⟩
      by_cases e : j = k
      · rw [e]; exact hv
      · exact hz j (by omega)
  · have hke : k = xs.length := by rw [ns_length] at hge; omega
    have := post (k - 1) (by omega) (fun i hi => hz i (by omega)) (.inl (by omega))
    simp only [m_init2, wpSs, wpS, wpE, wpEs] at this
    exact this
end Mine


open PySem PySem.W PyProof.Rows PySem.Calls PySem.SeqAt
set_option Elab.async false
set_option maxRecDepth 100000
set_option linter.unusedVariables false
namespace Mine
variable {X : Cx} {n : Nat} {Γ : Led} {Q : V → Led → Prop}

/-! ## gexp -/
def EI (i : Int) : Nat := E (i.fmod 255).toNat
theorem fmod_range (i : Int) : 0 ≤ i.fmod 255 ∧ i.fmod 255 < 255 := by
  rw [Int.fmod_eq_emod_of_nonneg _ (by decide)]; omega
theorem EI_nat (k : Nat) : EI (k : Int) = E k := by
  unfold EI
  rw [Int.fmod_eq_emod_of_nonneg _ (by decide), E_period k]
  have : ((k : Int) % 255).toNat = k % 255 := by omega
  rw [this]
theorem gexp_spec (h : FnIs X 122 1 [some 0] m_gexp) (ht : BaseList X 107 (intsV expI)) {i : Int} (q : Q (.int (EI i)) Γ) : keepsW X (.val (.ref 122)) ∧ callW X (n + 1) (.val (.ref 122)) [.int i] Γ Q := by
  refine h.w rfl ?_
  simp only [m_gexp, wpSs, wpS, wpE]
  refine ⟨_, rfl, ?_⟩
  simp only [binW]
  obtain ⟨h0, h1⟩ := fmod_range i
  refine ⟨by decide, subW_list isRefV (LAt.base ht).li (getW_list isRefV (LAt.base ht).li h0 (by omega) (x := .int (EI i)) ?_ ⟨Γ, .refl, q⟩)⟩
  have := E_get (k := (i.fmod 255).toNat) (by omega)
  rw [this]
  unfold EI E
  rw [Nat.mod_eq_of_lt (a := (i.fmod 255).toNat) (by omega)]

/-! ## polynomials -/
def m_pget : MSs := (.cons (.ret (.sub (.attr (.loc 0) 0) (.loc 1))) .nil)
def m_piter : MSs := (.cons (.ret (.call (.val (.builtin "iter")) (.cons (.attr (.loc 0) 0) .nil))) .nil)
def m_plen : MSs := (.cons (.ret (.call (.val (.builtin "len")) (.cons (.attr (.loc 0) 0) .nil))) .nil)
def m_pmul : MSs := (.cons (.asg 2 (.bin .Mult (.list (.cons (.int 0) .nil)) (.bin .Sub (.bin .Add (.call (.val (.builtin "len")) (.cons (.loc 0) .nil)) (.call (.val (.builtin "len")) (.cons (.loc 1) .nil))) (.int 1))))
  (.cons (.loop (.two 3 4) (.enum (.loc 0)) (.cons (.loop (.two 5 6) (.enum (.loc 1)) (.cons (.augSub (.loc 2) (.bin .Add (.loc 3) (.loc 5)) .BitXor (.call (.val (.ref 122)) (.cons (.bin .Add (.call (.val (.ref 115)) (.cons (.loc 4) .nil)) (.call (.val (.ref 115)) (.cons (.loc 6) .nil))) .nil))) .nil)) .nil))
  (.cons (.ret (.call (.val (.ref 172)) (.cons (.loc 2) (.cons (.int 0) .nil)))) .nil)))
def m_pmod5 : MSs := (.cons (.ret (.bin .Mod (.call (.val (.ref 172)) (.cons (.loc 4) (.cons (.int 0) .nil))) (.loc 1))) .nil)
def m_pmod4 : MSs := (.cons (.ite (.val (.loc 2)) (.cons (.expr (.meth (.loc 4) 7 (.cons (.slice (.loc 0) (.neg (.loc 2)) .none .none) .nil))) .nil) .nil) m_pmod5)
def m_pmod3 : MSs := (.cons (.asg 4 (.comp [none, none, none, some 3] (.two 1 2) (.zip (.loc 0) (.loc 1)) .tt (.bin .BitXor (.loc 1) (.call (.val (.ref 122)) (.cons (.bin .Add (.call (.val (.ref 115)) (.cons (.loc 2) .nil)) (.loc 3)) .nil))))) m_pmod4)
def m_pmod2 : MSs := (.cons (.asg 3 (.bin .Sub (.call (.val (.ref 115)) (.cons (.sub (.loc 0) (.int 0)) .nil)) (.call (.val (.ref 115)) (.cons (.sub (.loc 1) (.int 0)) .nil)))) m_pmod3)
def m_pmod1 : MSs := (.cons (.ite (.cmp .Lt (.loc 2) (.int 0)) (.cons (.ret (.loc 0)) .nil) .nil) m_pmod2)
def m_pmod : MSs := (.cons (.asg 2 (.bin .Sub (.call (.val (.builtin "len")) (.cons (.loc 0) .nil)) (.call (.val (.builtin "len")) (.cons (.loc 1) .nil)))) m_pmod1)
structure PolyF (X : Cx) : Prop extends PolyK X where
  glog : FnIs X 115 1 [some 0] m_glog
  gexp : FnIs X 122 1 [some 0] m_gexp
  lt : BaseList X 108 (intsV logI)
  et : BaseList X 107 (intsV expI)
  get : methIn X.K 172 143 "__getitem__" = true
  getN : fnIn X.K 143 = true
  getF : FnIs X 143 2 [some 0, some 1] m_pget
  iter : methIn X.K 172 150 "__iter__" = true
  iterF : FnIs X 150 1 [some 0] m_piter
  len : methIn X.K 172 157 "__len__" = true
  lenF : FnIs X 157 1 [some 0] m_plen
  mul : methIn X.K 172 164 (PySem.dunder Operator.Mult.info.2) = true
  mulF : FnIs X 164 2 [some 0, some 1, none, none, none, none, none] m_pmul
  mod : methIn X.K 172 169 (PySem.dunder Operator.Mod.info.2) = true
  modF : FnIs X 169 2 [some 0, some 1, none, none, none] m_pmod
  ext : ∀ x, X.at_[7]? = some x → Slot "list" x "list.extend"
  app : ∀ x, X.at_[6]? = some x → Slot "list" x "list.append"
def Pl (Γ : Led) (a : Addr) (xs : List Nat) : Prop := ∃ d l, (a, O.inst 172 d [(0, .ref l)]) ∈ Γ ∧ (l, O.list (ns xs)) ∈ Γ
theorem Pl.grow {a : Addr} {xs : List Nat} {e : Addr × O} (h : Pl Γ a xs) : Pl (e :: Γ) a xs := by
  obtain ⟨d, l, h1, h2⟩ := h
  exact ⟨d, l, .tail _ h1, .tail _ h2⟩
theorem attr_num (P : PolyF X) {a d l : Addr} (h : (a, O.inst 172 d [(0, .ref l)]) ∈ Γ) (q : Q (.ref l) Γ) : attrW X n (.ref a) 0 Γ Q := attr_inst P.nd P.cls P.num h rfl (fun _ => by simp) q
theorem plen_spec (P : PolyF X) {a : Addr} {xs : List Nat} (h : Pl Γ a xs) (hl : xs.length ≤ 1000000) (q : Q (.int xs.length) Γ) : callW X (n + 2) (.val (.builtin "len")) [.ref a] Γ Q := by
  obtain ⟨d, l, h1, h2⟩ := h
  refine callW_len_inst P.cls P.len h1 (P.lenF.w rfl ?_).2
  simp only [m_plen, wpSs, wpS, wpE, wpEs]
  refine ⟨_, rfl, attr_num P h1 ⟨keeps_builtin, callW_len_list isRef (LI.led h2) (by rw [ns_length]; exact hl) ?_⟩⟩
  rw [ns_length]
  exact ⟨Γ, .refl, _, rfl, by omega, by omega, q⟩
theorem piter_spec (P : PolyF X) {a d l : Addr} {xs : List Nat} (h1 : (a, O.inst 172 d [(0, .ref l)]) ∈ Γ) (h2 : (l, O.list (ns xs)) ∈ Γ) : iterL X (n + 1) Γ (.ref a) l := by
  refine iterL_inst P.iter h1 (P.iterF.w rfl ?_).2
  simp only [m_piter, wpSs, wpS, wpE, wpEs]
  exact ⟨_, rfl, attr_num P h1 ⟨keeps_builtin, callW_iter isRef (LI.led h2) fun I => ⟨_, .refl, I, rfl, rfl⟩⟩⟩
theorem pget_spec (P : PolyF X) {a : Addr} {xs : List Nat} {i : Nat} {v : Nat} (h : Pl Γ a xs) (hx : xs[i]? = some v) (hl : xs.length ≤ 1000000) (q : Q (.int v) Γ) : subW X (n + 2) (.ref a) (.int i) Γ Q := by
  obtain ⟨d, l, h1, h2⟩ := h
  refine subW_inst P.get P.getN h1 (P.getF.w rfl ?_).2
  simp only [m_pget, wpSs, wpS, wpE, wpEs]
  have hi : i < xs.length := (List.getElem?_eq_some_iff.mp hx).1
  exact ⟨_, rfl, attr_num P h1 ⟨_, rfl, subW_list isRef (LI.led h2) (getW_list isRef (LI.led h2) (by omega) (by omega) (by rw [Int.toNat_natCast]; exact ns_get hx) ⟨Γ, .refl, q⟩)⟩⟩
theorem psl_spec (P : PolyF X) {a : Addr} {xs : List Nat} {k : Nat} (h : Pl Γ a xs) (h0 : 0 < k) (hk : k ≤ xs.length) (hl : xs.length ≤ 1000000) (q : ∀ b, Q (.ref b) ((b, .list (ns (xs.drop (xs.length - k)))) :: Γ)) : slW X (n + 2) (.ref a) (.int (-(k : Int))) .none .none Γ Q := by
  obtain ⟨d, l, h1, h2⟩ := h
  refine slW_inst P.cls P.get P.getN h1 fun sa => (P.getF.w rfl ?_).2
  simp only [m_pget, wpSs, wpS, wpE, wpEs]
  refine ⟨_, rfl, attr_num P (.tail _ h1) ⟨_, rfl, subW_list isRef (LI.led (.tail _ h2)) (getW_slice (lo := some (-(k : Int))) (hi := none) (sp := none) isRef (LI.led (.tail _ h2)) mem1 rfl rfl rfl (by simp) (by rw [ns_length]; exact hl) fun b => ?_)⟩⟩
  rw [sliceV_last h0 (by rw [ns_length]; exact hk), ns_drop, ns_length]
  exact ⟨_, .cons .here (.tail .refl), q b⟩
/-- a polynomial is made -/
theorem make_spec (P : PolyF X) {b : Addr} {o : V} {xs : List Nat} {s : Nat} (ho : IsRef o b) (hL : ∀ Γ', SubP Γ Γ' → LAt X Γ' b (ns xs)) (h0 : xs ≠ []) (hlen : xs.length ≤ 900000) (hs : s ≤ 1000)
    (q : ∀ a d l, Q (.ref a) ((a, .inst 172 d [(0, .ref l)]) :: (l, .list (ns (strip xs ++ List.replicate s 0))) :: Γ)) : keepsW X (.val (.ref 172)) ∧ callW X (n + 2) (.val (.ref 172)) [o, .int s] Γ Q :=
  ⟨keeps_K P.kcls, (callC_cls P.cls P.init fun a d => init_spec P.toPolyK ho hL h0 hlen hs fun l => ⟨rfl, q a d l⟩).w⟩
end Mine


open PySem PySem.W PyProof.Rows PySem.Calls PySem.SeqAt
set_option Elab.async false
set_option maxRecDepth 100000
set_option linter.unusedVariables false
set_option linter.unusedSimpArgs false
namespace Mine
variable {X : Cx} {n : Nat} {Γ : Led} {Q : V → Led → Prop}

def oct (l : List Nat) : Prop := ∀ v ∈ l, v < 256
def pos (l : List Nat) : Prop := ∀ v ∈ l, 1 ≤ v ∧ v < 256
def mulIn (num : List Nat) (i x : Nat) (ys : List Nat) (j : Nat) : List Nat := (List.range j).foldl (fun num j => num.set (i + j) (num.getD (i + j) 0 ^^^ mul x (ys.getD j 0))) num
def mulOut (xs ys : List Nat) (k : Nat) : List Nat := (List.range k).foldl (fun num i => mulIn num i (xs.getD i 0) ys ys.length) (List.replicate (xs.length + ys.length - 1) 0)
def mulL (xs ys : List Nat) : List Nat := mulOut xs ys xs.length
theorem mulIn_succ {num : List Nat} {i x : Nat} {ys : List Nat} {j : Nat} : mulIn num i x ys (j + 1) = (mulIn num i x ys j).set (i + j) ((mulIn num i x ys j).getD (i + j) 0 ^^^ mul x (ys.getD j 0)) := by
  unfold mulIn; rw [List.range_succ, List.foldl_append]; rfl
theorem mulIn_length {num : List Nat} {i x : Nat} {ys : List Nat} : ∀ {j : Nat}, (mulIn num i x ys j).length = num.length
  | 0 => rfl
  | j + 1 => by rw [mulIn_succ, List.length_set, mulIn_length]
theorem mulOut_succ {xs ys : List Nat} {k : Nat} : mulOut xs ys (k + 1) = mulIn (mulOut xs ys k) k (xs.getD k 0) ys ys.length := by
  unfold mulOut; rw [List.range_succ, List.foldl_append]; rfl
theorem mulOut_length {xs ys : List Nat} : ∀ {k : Nat}, (mulOut xs ys k).length = xs.length + ys.length - 1
  | 0 => by simp [mulOut]
  | k + 1 => by rw [mulOut_succ, mulIn_length, mulOut_length]
theorem mul_pos {a b : Nat} (ha : 1 ≤ a) (hb : 1 ≤ b) : mul a b = E (L a + L b) := by
  unfold mul; rw [if_neg (by omega)]
theorem getD_of {l : List Nat} {k v : Nat} (h : l[k]? = some v) : l.getD k 0 = v := by rw [List.getD_eq_getElem?_getD, h]; rfl

theorem pmul_spec (P : PolyF X) {a b : Addr} {xs ys : List Nat} (ha : Pl Γ a xs) (hb : Pl Γ b ys) (px : pos xs) (py : pos ys) (hx : xs ≠ []) (hy : ys ≠ []) (lx : xs.length ≤ 1000) (ly : ys.length ≤ 1000)
    (q : ∀ r d l, Q (.ref r) ((r, .inst 172 d [(0, .ref l)]) :: (l, .list (ns (strip (mulL xs ys)))) :: Γ)) : callW X (n + 3) (.val (.ref 164)) [.ref a, .ref b] Γ Q := by
  refine (P.mulF.w rfl ?_).2
  have zx : 0 < xs.length := List.length_pos_iff.mpr hx
  have zy : 0 < ys.length := List.length_pos_iff.mpr hy
  simp only [m_pmul, wpSs, wpS, wpE, wpEs, wpT, wpI]
  refine ⟨by decide, fun c0 => ⟨.ref a, rfl, keeps_builtin, plen_spec P ha.grow (by omega) ⟨.ref b, rfl, keeps_builtin, plen_spec P hb.grow (by omega) ?_⟩⟩⟩
  simp only [binW]
  refine binS_rep isRef (LAt.led mem1) (by omega) (by omega) fun c => ?_
  have ez : ((xs.length : Int) + (ys.length : Int) - 1).toNat = xs.length + ys.length - 1 := by omega
  rw [ez, show V.int 0 = V.int ((0 : Nat) : Int) from rfl, ns_rep]
  obtain ⟨d, l, h1, h2⟩ := ha
  obtain ⟨d', l', h1', h2'⟩ := hb
  refine ⟨.ref a, rfl, _, l, ns xs, rfl, piter_spec P (.tail _ (.tail _ h1)) (.tail _ (.tail _ h2)), .tail _ (.tail _ h2), ?_⟩
  let lc : Loc := [some (.ref a), some (.ref b), some (.ref c), none, none, none, none]
  let G : Led := (c0, .list [V.int ((0 : Nat) : Int)]) :: Γ
  refine ⟨xs.length, fun k loc Γ' => k ≤ xs.length ∧ loc = lc ∧ Γ' = (c, .list (ns (mulOut xs ys k))) :: G, ⟨Nat.zero_le _, rfl, rfl⟩, ?_⟩
  rintro k loc Γ' ⟨hk, rfl, rfl⟩
  refine ⟨hk, ns xs, .tail _ (.tail _ h2), fun v hv => ?_, fun hge => ?_⟩
  · obtain ⟨x, hx', rfl⟩ := ns_get' hv
    have hlt : k < xs.length := (List.getElem?_eq_some_iff.mp hx').1
    have hx1 := px x (List.mem_of_getElem? hx')
    show ∃ v, _ ∧ _
    refine ⟨.ref b, rfl, _, l', ns ys, rfl, piter_spec P (.tail _ (.tail _ h1')) (.tail _ (.tail _ h2')), .tail _ (.tail _ h2'), ?_⟩
    let lc2 : Loc := [some (.ref a), some (.ref b), some (.ref c), some (.int (k : Int)), some (.int (x : Int)), none, none]
    refine ⟨ys.length, fun j loc Γ' => j ≤ ys.length ∧ loc = lc2 ∧ Γ' = (c, .list (ns (mulIn (mulOut xs ys k) k x ys j))) :: G, ⟨Nat.zero_le _, rfl, rfl⟩, ?_⟩
    rintro j loc Γ' ⟨hj, rfl, rfl⟩
    refine ⟨hj, ns ys, .tail _ (.tail _ h2'), fun v hv => ?_, fun hge => ?_⟩
    · obtain ⟨y, hy', rfl⟩ := ns_get' hv
      have hlt' : j < ys.length := (List.getElem?_eq_some_iff.mp hy').1
      have hy1 := py y (List.mem_of_getElem? hy')
      have hlen : (mulIn (mulOut xs ys k) k x ys j).length = xs.length + ys.length - 1 := by rw [mulIn_length, mulOut_length]
      obtain ⟨u, hu⟩ : ∃ u, (mulIn (mulOut xs ys k) k x ys j)[k + j]? = some u := ⟨_, List.getElem?_eq_getElem (by omega)⟩
      show ∃ v, _ ∧ _
      refine ⟨.ref c, rfl, .int k, rfl, .int j, rfl, ?_⟩
      refine getW_list isRef (LI.led mem1) (by omega) (by omega) (x := .int u) (by rw [show ((k : Int) + (j : Int)).toNat = k + j by omega]; exact ns_get hu) ?_
      refine ⟨.int x, rfl, ?_⟩
      have gx := fun Q q => glog_spec (n := n + 1) (Γ := (c, O.list (ns (mulIn (mulOut xs ys k) k x ys j))) :: G) (Q := Q) P.glog P.lt hx1.1 hx1.2 q
      have gy := fun Q q => glog_spec (n := n + 1) (Γ := (c, O.list (ns (mulIn (mulOut xs ys k) k x ys j))) :: G) (Q := Q) P.glog P.lt hy1.1 hy1.2 q
      have ge := fun Q q => gexp_spec (n := n + 1) (Γ := (c, O.list (ns (mulIn (mulOut xs ys k) k x ys j))) :: G) (Q := Q) (i := (L x : Int) + (L y : Int)) P.gexp P.et q
      refine gx _ ⟨.int y, rfl, gy _ (ge _ ?_)⟩
      have ee : EI ((L x : Int) + (L y : Int)) = mul x y := by
        rw [mul_pos hx1.1 hy1.1, ← EI_nat]; rfl
      simp only [inW]
      rw [ee, bitXor_nat]
      have hkj : ((k : Int) + (j : Int)) = ((k + j : Nat) : Int) := by omega
      rw [hkj]
      refine setW_list .here (by rw [ns_length]; omega) (by rw [ns_length]; omega) ?_
      refine ⟨_, _, ?_, .refl, hlt', rfl, ?_⟩
      · intro i w hw
        match i, hw with
        | 0, hw => exact hw
        | 1, hw => exact hw
        | 2, hw => exact hw
        | 3, hw => exact hw
        | 4, hw => exact hw
        | 5, hw => simp [lc2] at hw
        | 6, hw => simp [lc2] at hw
        | i + 7, hw => simp [lc2] at hw
      · rw [mulIn_succ, getD_of hu, getD_of hy', ← ns_set]
    · have hje : j = ys.length := by rw [ns_length] at hge; omega
      subst hje
      refine ⟨lc, _, ?_, .refl, hlt, rfl, ?_⟩
      · intro i w hw
        match i, hw with
        | 0, hw => exact hw
        | 1, hw => exact hw
        | 2, hw => exact hw
        | 3, hw => simp [lc] at hw
        | 4, hw => simp [lc] at hw
        | 5, hw => simp [lc] at hw
        | 6, hw => simp [lc] at hw
        | i + 7, hw => simp [lc] at hw
      · rw [mulOut_succ, getD_of hx']
  · have hke : k = xs.length := by rw [ns_length] at hge; omega
    subst hke
    refine ⟨.ref c, rfl, ?_⟩
    have hlen : (mulL xs ys).length = xs.length + ys.length - 1 := mulOut_length
    refine make_spec P (xs := mulL xs ys) (s := 0) isRef (fun Γ' sp => LAt.led (sp.mem _ mem1)) (fun z => by rw [z] at hlen; simp at hlen; omega) (by omega) (by omega) fun r dd ll => ⟨_, ?_, q r dd ll⟩
    simp only [List.replicate_zero, List.append_nil]
    exact .cons .here (.cons .here (.tail (.tail .refl)))
end Mine


open PySem PySem.W PyProof.Rows PySem.Calls PySem.SeqAt
set_option Elab.async false
set_option maxRecDepth 100000
set_option linter.unusedVariables false
set_option linter.unusedSimpArgs false
namespace Mine
variable {X : Cx} {n : Nat} {Γ : Led} {Q : V → Led → Prop}

def zipL (xs ys : List Nat) : List Nat := List.zipWith (fun x y => x ^^^ EI ((L y : Int) + ((L (xs.headD 0) : Int) - (L (ys.headD 0) : Int)))) xs ys
def pstep (xs ys : List Nat) : List Nat := zipL xs ys ++ xs.drop ys.length
def pmodF : Nat → List Nat → List Nat → List Nat
  | 0, xs, _ => xs
  | f + 1, xs, ys => if xs.length < ys.length then xs else pmodF f (strip (pstep xs ys)) ys
def Good : Nat → List Nat → List Nat → Prop
  | 0, xs, ys => xs.length < ys.length
  | f + 1, xs, ys => xs.length < ys.length ∨ ((∃ x, xs[0]? = some x ∧ 1 ≤ x ∧ x < 256) ∧ Good f (strip (pstep xs ys)) ys)
theorem headD_of {l : List Nat} {v : Nat} (h : l[0]? = some v) : l.headD 0 = v := by
  cases l with
  | nil => cases h
  | cons a r => simpa using h
theorem pstep_length {xs ys : List Nat} (h : ys.length ≤ xs.length) : (pstep xs ys).length = xs.length := by
  unfold pstep zipL; simp; omega
theorem strip_length : ∀ (l : List Nat), (strip l).length ≤ l.length
  | [] => Nat.le_refl _
  | [a] => Nat.le_refl _
  | a :: b :: r => by
    unfold strip
    split
    · have := strip_length (b :: r); simp at this ⊢; omega
    · exact Nat.le_refl _
theorem strip_ne : ∀ {l : List Nat}, l ≠ [] → strip l ≠ []
  | [], h => absurd rfl h
  | [a], _ => by simp [strip]
  | a :: b :: r, _ => by
    unfold strip
    split
    · exact strip_ne (by simp)
    · simp

theorem pmod_spec (P : PolyF X) : ∀ (f : Nat) {Γ : Led} {Q : V → Led → Prop} {a b : Addr} {xs ys : List Nat}, Pl Γ a xs → Pl Γ b ys → pos ys → 2 ≤ ys.length → Good f xs ys → xs ≠ [] → xs.length ≤ 1000 → ys.length ≤ 1000 →
    (∀ r Δ, Pl (Δ ++ Γ) r (pmodF f xs ys) → Q (.ref r) (Δ ++ Γ)) → callW X (n + 3 + f) (.val (.ref 169)) [.ref a, .ref b] Γ Q := by
  intro f
  induction f with
  | zero =>
    intro Γ Q a b xs ys ha hb py ly g hx lx ly2 q
    refine (P.modF.w rfl ?_).2
    simp only [m_pmod, wpSs, wpS, wpE, wpEs]
    refine ⟨.ref a, rfl, keeps_builtin, plen_spec P ha (by omega) ⟨.ref b, rfl, keeps_builtin, plen_spec P hb (by omega) ?_⟩⟩
    simp only [binW, m_pmod1, wpSs, wpS, wpE, wpT]
    refine ⟨_, rfl, ?_⟩
    simp only [cmpW, truthW]
    have hlt : xs.length < ys.length := g
    refine ⟨fun _ => ⟨.ref a, rfl, Γ, .refl, q a [] ha⟩, fun h => ?_⟩
    simp at h; omega
  | succ f ih =>
    intro Γ Q a b xs ys ha hb py ly g hx lx ly2 q
    refine (P.modF.w (n := n + 3 + f) rfl ?_).2
    simp only [m_pmod, wpSs, wpS, wpE, wpEs]
    have e1 : n + 3 + f = (n + 1 + f) + 2 := by omega
    rw [e1]
    refine ⟨.ref a, rfl, keeps_builtin, plen_spec P ha (by omega) ⟨.ref b, rfl, keeps_builtin, plen_spec P hb (by omega) ?_⟩⟩
    simp only [binW, m_pmod1, wpSs, wpS, wpE, wpT]
    refine ⟨_, rfl, ?_⟩
    simp only [cmpW, truthW]
    refine ⟨fun h => ?_, fun h => ?_⟩
    · have hlt : xs.length < ys.length := by simp at h; omega
      refine ⟨.ref a, rfl, Γ, .refl, q a [] ?_⟩
      simp only [pmodF, if_pos hlt, List.nil_append]
      exact ha
    · have hge : ys.length ≤ xs.length := by simp at h; omega
      rcases g with g | ⟨⟨x0, hx0, hx1, hx2⟩, g⟩
      · omega
      obtain ⟨y0, hy0⟩ : ∃ y, ys[0]? = some y := ⟨_, List.getElem?_eq_getElem (by omega)⟩
      have hy1 := py y0 (List.mem_of_getElem? hy0)
      have gl := fun (v : Nat) (h1 : 1 ≤ v) (h2 : v < 256) Γ Q q => glog_spec (n := n + 1 + f + 1) (Γ := Γ) (Q := Q) P.glog P.lt h1 h2 q
      have ge := fun (i : Int) Γ Q q => gexp_spec (n := n + 1 + f + 1) (Γ := Γ) (Q := Q) (i := i) P.gexp P.et q
      simp only [m_pmod2, wpSs, wpS, wpE, wpEs]
      refine ⟨.ref a, rfl, pget_spec P ha hx0 (by omega) (gl x0 hx1 hx2 _ _ ⟨.ref b, rfl, pget_spec P hb hy0 (by omega) (gl y0 hy1.1 hy1.2 _ _ ?_)⟩)⟩
      obtain ⟨d, l, h1, h2⟩ := ha
      obtain ⟨d', l', h1', h2'⟩ := hb
      simp only [binW, m_pmod3, wpSs, wpS, wpE, wpEs, wpT, wpI]
      refine ⟨.ref a, rfl, .ref b, rfl, n + 1 + f + 1, l, l', ns xs, ns ys, rfl, ?_, ?_, h2, h2', fun acc => ?_⟩
      · exact piter_spec P h1 h2
      · exact piter_spec P h1' h2'
      refine ⟨ys.length, fun k zs Γ' => Γ' = Γ ∧ k ≤ ys.length ∧ zs = ns ((zipL xs ys).take k), ⟨rfl, Nat.zero_le _, by simp [ns]⟩, ?_⟩
      rintro k zs Γ' ⟨rfl, hk, rfl⟩
      have zl : (zipL xs ys).length = ys.length := by unfold zipL; simp; omega
      refine ⟨hk, by rw [ns_length]; simp; omega, ns xs, ns ys, h2, h2', fun u v hu hv => ?_, fun hend => ?_⟩
      · obtain ⟨x, hxk, rfl⟩ := ns_get' hu
        obtain ⟨y, hyk, rfl⟩ := ns_get' hv
        have hlt : k < ys.length := (List.getElem?_eq_some_iff.mp hyk).1
        have hyp := py y (List.mem_of_getElem? hyk)
        show (_ ∧ _)
        refine ⟨fun h => by simp at h, fun _ => ⟨.int x, rfl, .int y, rfl, gl y hyp.1 hyp.2 _ _ ⟨_, rfl, ge _ _ _ ?_⟩⟩⟩
        simp only [bitXor_nat]
        refine ⟨Γ', .refl, rfl, hlt, ?_⟩
        have hz : (zipL xs ys)[k]? = some (x ^^^ EI ((L y : Int) + ((L x0 : Int) - (L y0 : Int)))) := by
          unfold zipL
          rw [List.getElem?_zipWith, hxk, hyk, headD_of hx0, headD_of hy0]
        rw [List.take_succ, hz]
        simp [ns]
      · have hke : k = ys.length := by rw [ns_length, ns_length] at hend; omega
        subst hke
        rw [List.take_of_length_le (by omega)]
        have fin : ∀ (Δ : Led) m, Pl (Δ ++ Γ') a xs → Pl (Δ ++ Γ') b ys → (m, O.list (ns (pstep xs ys))) ∈ Δ ++ Γ' → wpSs X (n + 1 + f + 2) m_pmod5 [some (.ref a), some (.ref b), some (.int ((xs.length : Int) - (ys.length : Int))), some (.int ((L x0 : Int) - (L y0 : Int))), some (.ref m)] (Δ ++ Γ') (FnPost Q) := by
          intro Δ m hpa hpb hm
          simp only [m_pmod5, wpSs, wpS, wpE, wpEs]
          have pl := pstep_length hge
          have pne : pstep xs ys ≠ [] := fun z => by rw [z] at pl; simp at pl; omega
          refine ⟨.ref m, rfl, make_spec P (n := n + 1 + f) (xs := pstep xs ys) (s := 0) isRef (fun Γ'' sp => LAt.led (sp.mem _ hm)) pne (by omega) (by omega) fun r dd ll => ⟨.ref b, rfl, ?_⟩⟩
          simp only [binW, List.replicate_zero, List.append_nil]
          obtain ⟨db, lb, hb1, hb2⟩ := hpb
          have sl := strip_length (pstep xs ys)
          refine binS_inst P.cls P.mod mem1 (.tail _ (.tail _ hb1)) (e1 ▸ ih (Γ := (r, .inst 172 dd [(0, .ref ll)]) :: (ll, .list (ns (strip (pstep xs ys)))) :: (Δ ++ Γ')) (xs := strip (pstep xs ys)) ⟨dd, ll, mem1, mem2⟩ ⟨db, lb, .tail _ (.tail _ hb1), .tail _ (.tail _ hb2)⟩ py ly g (strip_ne pne) (by omega) ly2 fun r' Δ' hr => ⟨fun u => by simp, ?_⟩)
          have := q r' (Δ' ++ (r, .inst 172 dd [(0, .ref ll)]) :: (ll, .list (ns (strip (pstep xs ys)))) :: Δ) (by
            simp only [pmodF, if_neg (Nat.not_lt.mpr hge)]
            simpa using hr)
          refine ⟨_, .refl, ?_⟩
          simpa using this
        simp only [m_pmod4, wpSs, wpS, wpE, wpEs, wpT]
        refine ⟨_, rfl, ?_⟩
        simp only [truthW]
        have ha' : Pl Γ' a xs := ⟨d, l, h1, h2⟩
        have hb' : Pl Γ' b ys := ⟨d', l', h1', h2'⟩
        refine ⟨fun hd => ?_, fun hd => ?_⟩
        · have hlt : ys.length < xs.length := by simp at hd; omega
          have hdif : ((xs.length : Int) - (ys.length : Int)) = ((xs.length - ys.length : Nat) : Int) := by omega
          refine ⟨.ref acc, rfl, _, true, methR_list (LAt.led mem1) P.ext (by rw [PySem.F.type_list_extend]), .ref a, rfl, _, rfl, _, rfl, ?_⟩
          rw [hdif]
          refine psl_spec P ha'.grow (by omega) (by omega) (by omega) fun sl => ⟨keeps_builtin, callW_extend (.there .here) isRef (LAt.led mem2) (by rw [ns_length, ns_length]; simp; omega) ⟨rfl, ?_⟩⟩
          have ed : xs.length - (xs.length - ys.length) = ys.length := by omega
          rw [ed, ns_append]
          have := fin [(acc, .list (ns (pstep xs ys))), (sl, .list (ns (xs.drop ys.length)))] acc ha'.grow.grow hb'.grow.grow mem1
          rw [hdif] at this
          exact this
        · have heq : xs.length = ys.length := by simp at hd; omega
          have ep : pstep xs ys = zipL xs ys := by unfold pstep; rw [List.drop_eq_nil_of_le (by omega), List.append_nil]
          exact fin [(acc, .list (ns (zipL xs ys)))] acc ha'.grow hb'.grow (by rw [ep]; exact mem1)
end Mine


open PySem PySem.W PyProof.Rows PySem.Calls PySem.SeqAt
set_option Elab.async false
set_option maxRecDepth 100000
set_option linter.unusedVariables false
set_option linter.unusedSimpArgs false
namespace Mine
variable {X : Cx} {n : Nat} {Γ : Led} {Q : V → Led → Prop}

def m_binit2 : MSs := (.cons (.asgAttr (.loc 0) 2 (.int 0)) .nil)
def m_binit : MSs := (.cons (.asgAttr (.loc 0) 1 (.list .nil)) m_binit2)
def m_bput : MSs := (.cons (.loop (.loc 3) (.rng (.loc 2)) (.cons (.expr (.meth (.loc 0) 9 (.cons (.cmp .Eq (.bin .BitAnd (.bin .RShift (.loc 1) (.bin .Sub (.bin .Sub (.loc 2) (.loc 3)) (.int 1))) (.int 1)) (.int 1)) .nil))) .nil)) .nil)
def m_blen : MSs := (.cons (.ret (.attr (.loc 0) 2)) .nil)
def m_bbit4 : MSs := (.cons (.augAttr (.loc 0) 2 .Add (.int 1)) .nil)
def m_bbit3 : MSs := (.cons (.ite (.val (.loc 1)) (.cons (.augSub (.attr (.loc 0) 1) (.loc 2) .BitOr (.bin .RShift (.int 128) (.bin .Mod (.attr (.loc 0) 2) (.int 8)))) .nil) .nil) m_bbit4)
def m_bbit2 : MSs := (.cons (.ite (.cmp .LtE (.call (.val (.builtin "len")) (.cons (.attr (.loc 0) 1) .nil)) (.loc 2)) (.cons (.expr (.meth (.attr (.loc 0) 1) 6 (.cons (.int 0) .nil))) .nil) .nil) m_bbit3)
def m_bbit : MSs := (.cons (.asg 2 (.bin .FloorDiv (.attr (.loc 0) 2) (.int 8))) m_bbit2)
structure BufF (X : Cx) : Prop where
  nd : X.at_.Nodup
  cls : ClsOk X.K 297
  f1 : ∀ x, X.at_[1]? = some x → freeIn X.K 297 x = true
  f2 : ∀ x, X.at_[2]? = some x → freeIn X.K 297 x = true
  init : initIn X.K 297 261 = true
  initF : FnIs X 261 1 [some 0] m_binit
  kcls : keepIn X.K (.ref 297) = true
  put : ∀ x, X.at_[8]? = some x → methIn X.K 297 280 x = true
  putF : FnIs X 280 3 [some 0, some 1, some 2, none] m_bput
  bit : ∀ x, X.at_[9]? = some x → methIn X.K 297 294 x = true
  bitF : FnIs X 294 2 [some 0, some 1, none] m_bbit
  len : methIn X.K 297 287 "__len__" = true
  lenF : FnIs X 287 1 [some 0] m_blen
  app : ∀ x, X.at_[6]? = some x → Slot "list" x "list.append"
/-- a buffer's two entries -/
abbrev bufO (d l : Addr) (len : Nat) : O := .inst 297 d [(1, .ref l), (2, .int len)]
theorem buf_make (P : BufF X) (q : ∀ a d l, Q (.ref a) ((a, bufO d l 0) :: (l, .list (ns [])) :: Γ)) : keepsW X (.val (.ref 297)) ∧ callW X (n + 2) (.val (.ref 297)) [] Γ Q := by
  refine ⟨keeps_K P.kcls, (callC_cls P.cls P.init fun a d => P.initF.2 n _ _ _ rfl ?_).w⟩
  simp only [m_binit, wpSs, wpS, wpE, wpEs]
  refine ⟨by decide, fun l => ⟨.ref a, rfl, setAttr_inst P.nd P.cls P.f1 (.there .here) (by simp) ?_⟩⟩
  simp only [m_binit2, wpSs, wpS, wpE, wpEs]
  refine ⟨.ref a, rfl, setAttr_inst P.nd P.cls P.f2 .here (by simp [putF]) ⟨_, .refl, rfl, ?_⟩⟩
  exact q a d l
theorem buf_attr (P : BufF X) {a d l : Addr} {len : Nat} (h : (a, bufO d l len) ∈ Γ) (q : Q (.ref l) Γ) : attrW X n (.ref a) 1 Γ Q := attr_inst P.nd P.cls P.f1 h rfl (fun _ => by simp) q
theorem buf_attr2 (P : BufF X) {a d l : Addr} {len : Nat} (h : (a, bufO d l len) ∈ Γ) (q : Q (.int len) Γ) : attrW X n (.ref a) 2 Γ Q := attr_inst P.nd P.cls P.f2 h rfl (fun _ => by simp) q
theorem buf_len (P : BufF X) {a d l : Addr} {len : Nat} (h : (a, bufO d l len) ∈ Γ) (hl : len ≤ 1000000) (q : Q (.int len) Γ) : callW X (n + 2) (.val (.builtin "len")) [.ref a] Γ Q := by
  refine callW_len_inst P.cls P.len h (P.lenF.w rfl ?_).2
  simp only [m_blen, wpSs, wpS, wpE, wpEs]
  exact ⟨_, rfl, buf_attr2 P h ⟨Γ, .refl, _, rfl, by omega, by omega, q⟩⟩
/-- one bit is put -/
def pbit (bs : List Nat) (len : Nat) (b : Bool) : List Nat :=
  let bs := if bs.length ≤ len / 8 then bs ++ [0] else bs
  if b then bs.set (len / 8) (bs.getD (len / 8) 0 ||| 128 / 2 ^ (len % 8)) else bs
theorem fdiv_nat (a b : Nat) : (a : Int).fdiv (b : Int) = ((a / b : Nat) : Int) := by
  rw [Int.fdiv_eq_ediv_of_nonneg _ (Int.natCast_nonneg b)]; rfl
theorem fmod_nat (a b : Nat) : (a : Int).fmod (b : Int) = ((a % b : Nat) : Int) := by
  rw [Int.fmod_eq_emod_of_nonneg _ (Int.natCast_nonneg b)]; rfl
theorem bit_spec (P : BufF X) {a d l : Addr} {len : Nat} {bs : List Nat} {b : Bool} (hlen : len ≤ 100000) (hb : len / 8 ≤ bs.length) (hb2 : bs.length ≤ 100000)
    (q : Q .none ((a, bufO d l (len + 1)) :: (l, .list (ns (pbit bs len b))) :: Γ)) : keepsW X (.val (.ref 294)) ∧ callW X (n + 1) (.val (.ref 294)) [.ref a, .bool b] ((a, bufO d l len) :: (l, .list (ns bs)) :: Γ) Q := by
  refine P.bitF.w rfl ?_
  simp only [m_bbit, wpSs, wpS, wpE, wpEs]
  refine ⟨.ref a, rfl, buf_attr2 P mem1 ?_⟩
  simp only [binW]
  have hdp : Builtin.divisionGoesByPylong (len : Int) 8 = false := rfl
  refine ⟨by decide, hdp, ?_⟩
  rw [show (8 : Int) = ((8 : Nat) : Int) from rfl, fdiv_nat]
  simp only [m_bbit2, wpSs, wpS, wpE, wpEs, wpT]
  refine ⟨.ref a, rfl, buf_attr P mem1 ⟨keeps_builtin, callW_len_list isRef (LI.led mem2) (by rw [ns_length]; omega) ⟨.int ((len / 8 : Nat) : Int), rfl, ?_⟩⟩⟩
  simp only [cmpW, truthW]
  have tail4 : ∀ (G : Led) bs', Pick G (a, bufO d l len) ((l, O.list (ns bs')) :: Γ) → bs' = pbit bs len b → wpSs X n m_bbit4 [some (.ref a), some (.bool b), some (.int ((len / 8 : Nat) : Int))] G (FnPost Q) := by
    intro G bs' hp e
    subst e
    simp only [m_bbit4, wpSs, wpS, wpE, wpEs]
    refine ⟨.ref a, rfl, buf_attr2 P (hp.perm.mem_iff.mpr mem1) ?_⟩
    simp only [inW]
    refine setAttr_inst P.nd P.cls P.f2 hp (by simp) ⟨_, .refl, ?_⟩
    exact q
  have tail3 : ∀ (G : Led) bs1, Pick G (a, bufO d l len) ((l, O.list (ns bs1)) :: Γ) → Pick G (l, O.list (ns bs1)) ((a, bufO d l len) :: Γ) → (bs1 = if bs.length ≤ len / 8 then bs ++ [0] else bs) → wpSs X n m_bbit3 [some (.ref a), some (.bool b), some (.int ((len / 8 : Nat) : Int))] G (FnPost Q) := by
    intro G bs1 hp hp2 e
    have hl1 : len / 8 < bs1.length := by
      rw [e]; split
      · simp; omega
      · omega
    have hl2 : bs1.length ≤ 100001 := by
      rw [e]; split
      · simp; omega
      · omega
    simp only [m_bbit3, wpSs, wpS, wpE, wpEs, wpT]
    refine ⟨_, rfl, ?_⟩
    simp only [truthW]
    refine ⟨fun hbt => ?_, fun hbf => ?_⟩
    · subst hbt
      obtain ⟨u, hu⟩ : ∃ u, bs1[len / 8]? = some u := ⟨_, List.getElem?_eq_getElem hl1⟩
      have hma := hp.perm.mem_iff.mpr (mem1 (e := (a, bufO d l len)))
      have hml := hp2.perm.mem_iff.mpr (mem1 (e := (l, O.list (ns bs1))))
      refine ⟨.ref a, rfl, buf_attr P hma ⟨_, rfl, getW_list isRef (LI.led hml) (by omega) (by omega) (x := .int u) (by rw [Int.toNat_natCast]; exact ns_get hu) ⟨.ref a, rfl, buf_attr2 P hma ?_⟩⟩⟩
      simp only [binW]
      refine ⟨by decide, ?_⟩
      rw [show (8 : Int) = ((8 : Nat) : Int) from rfl, fmod_nat]
      refine ⟨by omega, ?_⟩
      have e2 : (128 : Int).fdiv (2 ^ (((len % 8 : Nat) : Int)).toNat) = ((128 / 2 ^ (len % 8) : Nat) : Int) := by
        rw [Int.toNat_natCast, ← fdiv_nat]
        congr 1
      rw [e2]
      simp only [inW, bitOr_nat]
      refine setW_list hp2 (by rw [ns_length]; exact hl1) (by rw [ns_length]; omega) ?_
      rw [ns_set]
      refine tail4 _ _ (.there .here) ?_
      unfold pbit
      dsimp only
      rw [if_pos rfl, ← e, getD_of hu]
    · subst hbf
      exact tail4 G bs1 hp (by rw [e]; unfold pbit; simp)
  rw [ns_length]
  refine ⟨fun hle => ?_, fun hgt => ?_⟩
  · have hle : bs.length ≤ len / 8 := by simp at hle; omega
    refine ⟨.ref a, rfl, buf_attr P mem1 ⟨.builtin "list.append", true, methR_list (LAt.led mem2) P.app type_list_append, keeps_builtin, callW_append (.there .here) (by rw [ns_length]; omega) ⟨rfl, ?_⟩⟩⟩
    rw [show V.int 0 = V.int ((0 : Nat) : Int) from rfl, show ns bs ++ [V.int ((0 : Nat) : Int)] = ns (bs ++ [0]) by simp [ns]]
    exact tail3 _ _ (.there .here) .here (by rw [if_pos hle])
  · have hgt : ¬ bs.length ≤ len / 8 := by simp at hgt; omega
    exact tail3 _ _ .here (.there .here) (by rw [if_neg hgt])

/-- an octet is put -/
theorem fact_bits : (List.range 256).all (fun v => (List.range 8).all fun j => (if (v / 2 ^ (7 - j)) % 2 = 1 then (v / 2 ^ (8 - j) * 2 ^ (8 - j)) ||| 128 / 2 ^ j else v / 2 ^ (8 - j) * 2 ^ (8 - j)) == v / 2 ^ (7 - j) * 2 ^ (7 - j)) = true := by decide +kernel
/-- the buffer after j bits of v -/
def part (bs : List Nat) (v j : Nat) : List Nat := if j = 0 then bs else bs ++ [v / 2 ^ (8 - j) * 2 ^ (8 - j)]
theorem part_step' {bs : List Nat} {v j : Nat} {b : Bool} (hv : v < 256) (hj : j < 8) (hb : b = true ↔ (v / 2 ^ (7 - j)) % 2 = 1) : pbit (part bs v j) (8 * bs.length + j) b = part bs v (j + 1) := by
  have hf := List.all_eq_true.mp fact_bits v (List.mem_range.mpr hv)
  have hf := eq_of_beq (List.all_eq_true.mp hf j (List.mem_range.mpr hj))
  have e1 : (8 * bs.length + j) / 8 = bs.length := by omega
  have e2 : (8 * bs.length + j) % 8 = j := by omega
  have hp : part bs v (j + 1) = bs ++ [v / 2 ^ (7 - j) * 2 ^ (7 - j)] := by
    unfold part
    rw [if_neg (by omega), show 8 - (j + 1) = 7 - j by omega]
  have hf2 : (if b = true then v / 2 ^ (8 - j) * 2 ^ (8 - j) ||| 128 / 2 ^ j else v / 2 ^ (8 - j) * 2 ^ (8 - j)) = v / 2 ^ (7 - j) * 2 ^ (7 - j) := by
    rw [← hf]
    cases b with
    | true => rw [if_pos rfl, if_pos (hb.mp rfl)]
    | false => rw [if_neg Bool.false_ne_true, if_neg fun z => by have := hb.mpr z; cases this]
  clear hf
  rw [hp, ← hf2]
  unfold pbit
  rw [e1, e2]
  by_cases hj0 : j = 0
  · subst hj0
    have hz : v / 2 ^ (8 - 0) * 2 ^ (8 - 0) = 0 := by
      have : v / 2 ^ (8 - 0) = 0 := Nat.div_eq_of_lt (by simpa using hv)
      rw [this, Nat.zero_mul]
    rw [hz]
    cases b <;> simp [part]
  · have hpp : part bs v j = bs ++ [v / 2 ^ (8 - j) * 2 ^ (8 - j)] := by unfold part; rw [if_neg hj0]
    rw [hpp]
    generalize v / 2 ^ (8 - j) * 2 ^ (8 - j) = W
    have hlen : ¬ (bs ++ [W]).length ≤ bs.length := by simp
    rw [if_neg hlen]
    cases b <;> simp
theorem part_step {bs : List Nat} {v j : Nat} (hv : v < 256) (hj : j < 8) : pbit (part bs v j) (8 * bs.length + j) (((v / 2 ^ (8 - j - 1) &&& 1 : Nat) : Int) == ((1 : Nat) : Int)) = part bs v (j + 1) := by
  refine part_step' hv hj ?_
  rw [show 8 - j - 1 = 7 - j by omega, Nat.and_one_is_mod, beq_iff_eq]; omega
theorem put_spec (P : BufF X) {a d l : Addr} {bs : List Nat} {v : Nat} (hv : v < 256) (hb2 : bs.length ≤ 1000)
    (q : Q .none ((a, bufO d l (8 * (bs.length + 1))) :: (l, .list (ns (bs ++ [v]))) :: Γ)) : keepsW X (.val (.ref 280)) ∧ callW X (n + 2) (.val (.ref 280)) [.ref a, .int v, .int 8] ((a, bufO d l (8 * bs.length)) :: (l, .list (ns bs)) :: Γ) Q := by
  refine P.putF.w rfl ?_
  simp only [m_bput, wpSs, wpS, wpE, wpEs, wpI]
  refine ⟨_, rfl, _, rfl, by decide, by decide, ?_⟩
  refine ⟨8, fun k loc Γ' => k ≤ 8 ∧ loc = [some (.ref a), some (.int v), some (.int 8), none] ∧ Γ' = (a, bufO d l (8 * bs.length + k)) :: (l, .list (ns (part bs v k))) :: Γ, ⟨by decide, rfl, rfl⟩, ?_⟩
  rintro k loc Γ' ⟨hk, rfl, rfl⟩
  refine ⟨hk, fun hlt => ?_, fun hge => ?_⟩
  · have hlt : k < 8 := by omega
    rw [Int.zero_add]
    show ∃ v, _ ∧ _
    refine ⟨.ref a, rfl, .ref 294, true, methR_inst P.nd P.cls P.bit mem1 rfl, .int v, rfl, .int 8, rfl, .int k, rfl, ?_⟩
    have e1 : ((8 : Int) - (k : Int) - 1) = ((8 - k - 1 : Nat) : Int) := by omega
    simp only [binW, cmpW, e1]
    refine ⟨by omega, ?_⟩
    have e2 : (v : Int).fdiv (2 ^ (((8 - k - 1 : Nat) : Int)).toNat) = ((v / 2 ^ (8 - k - 1) : Nat) : Int) := by
      rw [Int.toNat_natCast, ← fdiv_nat]
      congr 1
    rw [e2, show (1 : Int) = ((1 : Nat) : Int) from rfl, bitAnd_nat]
    have hpl : (part bs v k).length ≤ bs.length + 1 := by unfold part; split <;> simp
    have hpl2 : bs.length ≤ (part bs v k).length := by unfold part; split <;> simp
    refine bit_spec P (by omega) (by omega) (by omega) ⟨rfl, ?_⟩
    refine ⟨_, _, ?_, .refl, hlt, rfl, ?_⟩
    · intro i w hw
      match i, hw with
      | 0, hw => exact hw
      | 1, hw => exact hw
      | 2, hw => exact hw
      | 3, hw => simp at hw
      | i + 4, hw => simp at hw
    · rw [← part_step hv hlt]; rfl
  · have hke : k = 8 := by omega
    subst hke
    refine ⟨_, .refl, ?_⟩
    have e : part bs v 8 = bs ++ [v] := by unfold part; simp
    rw [e]
    exact q
end Mine


open PySem PySem.W PyProof.Rows PySem.Calls PySem.SeqAt
set_option Elab.async false
set_option maxRecDepth 100000
set_option linter.unusedVariables false
set_option linter.unusedSimpArgs false
namespace Mine
variable {X : Cx} {n : Nat} {Γ : Led} {Q : V → Led → Prop}

/-! ## create_bytes -/
def c_b13 : MSs := (.cons (.expr (.meth (.loc 6) 6 (.cons (.loc 15) .nil))) .nil)
def c_b12 : MSs := (.cons (.expr (.meth (.loc 5) 6 (.cons (.loc 11) .nil))) c_b13)
def c_eb : MSs := (.cons (.asg 17 (.bin .Add (.loc 10) (.loc 16))) (.cons (.expr (.meth (.loc 15) 6 (.cons (.ite (.cmp .GtE (.loc 17) (.int 0)) (.sub (.loc 14) (.loc 17)) (.int 0)) .nil))) .nil))
def c_b11 : MSs := (.cons (.loop (.loc 10) (.rng (.loc 9)) c_eb) c_b12)
def c_b10 : MSs := (.cons (.asg 16 (.bin .Sub (.call (.val (.builtin "len")) (.cons (.loc 14) .nil)) (.loc 9))) c_b11)
def c_b9 : MSs := (.cons (.asg 15 (.list .nil)) c_b10)
def c_b8 : MSs := (.cons (.asg 14 (.bin .Mod (.loc 13) (.loc 12))) c_b9)
def c_b7 : MSs := (.cons (.asg 13 (.call (.val (.ref 172)) (.cons (.loc 11) (.cons (.bin .Sub (.call (.val (.builtin "len")) (.cons (.loc 12) .nil)) (.int 1)) .nil)))) c_b8)
def c_rs1 : MSs := (.cons (.asg 12 (.call (.val (.ref 172)) (.cons (.sub (.val (.ref 50)) (.loc 9)) (.cons (.int 0) .nil)))) .nil)
def c_rsb : MSs := (.cons (.asg 12 (.bin .Mult (.loc 12) (.call (.val (.ref 172)) (.cons (.list (.cons (.int 1) (.cons (.call (.val (.ref 122)) (.cons (.loc 10) .nil)) .nil))) (.cons (.int 0) .nil))))) .nil)
def c_rs3 : MSs := (.cons (.loop (.loc 10) (.rng (.loc 9)) c_rsb) .nil)
def c_rs2 : MSs := (.cons (.asg 12 (.call (.val (.ref 172)) (.cons (.list (.cons (.int 1) .nil)) (.cons (.int 0) .nil)))) c_rs3)
def c_rs : MS := (.ite (.cmp .In (.loc 9) (.val (.ref 50))) c_rs1 c_rs2)
def c_b6 : MSs := (.cons c_rs c_b7)
def c_b5 : MSs := (.cons (.aug 2 .Add (.loc 8)) c_b6)
def c_b4 : MSs := (.cons (.asg 11 (.comp [none, none, some 0, some 2] (.loc 1) (.rng (.loc 8)) .tt (.bin .BitAnd (.int 255) (.sub (.attr (.loc 2) 1) (.bin .Add (.loc 1) (.loc 3)))))) c_b5)
def c_b3 : MSs := (.cons (.asg 4 (.call (.val (.builtin "max")) (.cons (.loc 4) (.cons (.loc 9) .nil)))) c_b4)
def c_b2 : MSs := (.cons (.asg 3 (.call (.val (.builtin "max")) (.cons (.loc 3) (.cons (.loc 8) .nil)))) c_b3)
def c_b1 : MSs := (.cons (.asg 9 (.bin .Sub (.attr (.loc 7) 4) (.loc 8))) c_b2)
def c_b0 : MSs := (.cons (.asg 8 (.attr (.loc 7) 3)) c_b1)
def c_in (w src : Nat) : MSs := (.cons (.loop (.loc w) (.over (.loc src)) (.cons (.ite (.cmp .Lt (.loc 10) (.call (.val (.builtin "len")) (.cons (.loc w) .nil))) (.cons (.expr (.meth (.loc 18) 6 (.cons (.sub (.loc w) (.loc 10)) .nil))) .nil) .nil) .nil)) .nil)
def c_9 : MSs := (.cons (.ret (.loc 18)) .nil)
def c_8 : MSs := (.cons (.loop (.loc 10) (.rng (.loc 4)) (c_in 20 6)) c_9)
def c_7 : MSs := (.cons (.loop (.loc 10) (.rng (.loc 3)) (c_in 19 5)) c_8)
def c_6 : MSs := (.cons (.asg 18 (.list .nil)) c_7)
def c_5 : MSs := (.cons (.loop (.loc 7) (.over (.loc 1)) c_b0) c_6)
def m_create : MSs := (.cons (.asg 2 (.int 0)) (.cons (.asg 3 (.int 0)) (.cons (.asg 4 (.int 0)) (.cons (.asg 5 (.list .nil)) (.cons (.asg 6 (.list .nil)) c_5)))))

/-- the polynomial that the checks are taken by -/
def genF : Nat → List Nat
  | 0 => strip [1]
  | e + 1 => strip (mulL (genF e) (strip [1, E e]))
/-- what is left, led by noughts -/
def padL (e : Nat) (r : List Nat) : List Nat := (List.range e).map fun i => if e ≤ i + r.length then r.getD (i + r.length - e) 0 else 0
def ecOf (g data : List Nat) (e : Nat) : List Nat := padL e (pmodF (data.length + e + 1) (strip data ++ List.replicate (g.length - 1) 0) g)
end Mine


open PySem PySem.W PyProof.Rows PySem.Calls PySem.SeqAt
set_option Elab.async false
set_option maxRecDepth 100000
set_option linter.unusedVariables false
set_option linter.unusedSimpArgs false
namespace Mine
variable {X : Cx} {n : Nat} {Γ : Led} {Q : V → Led → Prop}

def m_tget2 : MSs := (.cons (.ret (.meth (.val (.type "tuple")) 11 (.cons (.loc 1) (.cons (.attr (.loc 0) 5) .nil)))) .nil)
def m_tget1 : MSs := (.cons (.ite (.not (.val (.call (.val (.builtin "issubclass")) (.cons (.call (.val (.type "type")) (.cons (.loc 1) .nil)) (.cons (.val (.type "tuple")) .nil))))) (.cons (.expr (.call (.val (.ref 49)) (.cons (.int 0) .nil))) .nil) .nil) m_tget2)
def m_tget : MSs := (.cons (.ite (.cmp .Is (.loc 1) .none) (.cons (.ret (.loc 0)) .nil) .nil) m_tget1)
def m_rnew : MSs := (.cons .pass (.cons (.ret (.meth (.val (.type "tuple")) 10 (.cons (.loc 0) (.cons (.tup (.cons (.loc 1) (.cons (.loc 2) .nil))) .nil)))) .nil))
structure RsF (X : Cx) : Prop where
  tupc : tupCls X.K 244 = true
  p3 : ∀ x, X.at_[3]? = some x → propIn X.K 244 239 85 x = true
  p4 : ∀ x, X.at_[4]? = some x → propIn X.K 244 236 85 x = true
  getF : FnIs X 85 3 [some 0, some 1, some 2] m_tget
  isc : isClsIn X.K 244 = true
  sub : subIn X.K (.ref 244) (.type "tuple") = some true
  i3 : ∀ x, X.at_[5]? = some x → fieldIn X.K 239 102 238 x (Value.isInt 1) = true
  i4 : ∀ x, X.at_[5]? = some x → fieldIn X.K 236 102 235 x (Value.isInt 0) = true
  fget : ∀ x, X.at_[11]? = some x → findCls X.K (.type "tuple") (.type "type") x = some (.val (.builtin "tuple.__getitem__"))
  subc : subClsIn X.K 244 = true
  rd : readsIn X.K 244 (.type "type") = true
  fnew : findCls X.K (.ref 244) (.type "type") "__new__" = some (.get (.builtin "staticmethod.__get__") (.ref 245) .none (.ref 244))
  snew : ∃ rest, recIn X.K 245 "staticmethod" = some (.ref 194 :: rest)
  newF : FnIs X 194 3 [some 0, some 1, some 2] m_rnew
  tnew : ∀ x, X.at_[10]? = some x → findCls X.K (.type "tuple") (.type "type") x = some (.val (.builtin "tuple.__new__"))
  kcls : keepIn X.K (.ref 244) = true
theorem isInt_vr {i : Int} {u : Value} (h : Value.isInt i u = true) : VR (.int i) u := by
  cases u <;> first | (simp [Value.isInt] at h; exact ⟨_, by rw [h]⟩) | cases h
theorem stub_tuple : Manifest.isStub "tuple" = false := by decide +kernel
theorem rb_get (P : RsF X) {r d : Addr} {p : Addr} {xs : List V} {i : Nat} {v : Int} {pd : Addr} (hl : (r, O.sub 244 d xs) ∈ Γ) (hi : ∀ x, X.at_[5]? = some x → fieldIn X.K p 102 pd x (Value.isInt (i : Int)) = true) (hx : xs[i]? = some (.int v)) (hlen : xs.length ≤ 1000) (q : Q (.int v) Γ) :
    callW X (n + 1) (.val (.ref 85)) [.val (.ref p), .ref r, .val (.ref 244)] Γ (fun v Γ' => (∀ u, v ≠ .val u) ∧ Q v Γ') := by
  refine (P.getF.w rfl ?_).2
  simp only [m_tget, wpSs, wpS, wpE, wpT]
  refine ⟨_, rfl, ?_⟩
  show cmpS X n .Is (.ref r) .none Γ _
  refine cmp_is_none ?_
  simp only [truthW]
  refine ⟨fun h => by simp at h, fun _ => ?_⟩
  simp only [m_tget1, wpSs, wpS, wpE, wpEs, wpT]
  refine ⟨_, rfl, keeps_type, callW_type_sub hl ⟨keeps_builtin, callW_issub P.isc P.sub PySem.F.isi_meta_tuple ?_⟩⟩
  simp only [truthW]
  refine ⟨fun h => by simp at h, fun _ => ?_⟩
  simp only [m_tget2, wpSs, wpS, wpE, wpEs]
  refine ⟨.builtin "tuple.__getitem__", false, methR_type PySem.F.isi_meta_tuple stub_tuple (by decide +kernel) P.fget, .ref r, rfl, .val (.ref p), rfl, ?_⟩
  refine attr_base (v := .int i) (fun u hu => isInt_vr hu) hi ⟨keeps_builtin, ?_⟩
  refine callW_tupItem P.sub hl (by omega) (by omega) (by rw [Int.toNat_natCast]; exact hx) ⟨Γ, .refl, fun u => by simp, q⟩
theorem rb_data (P : RsF X) {r d : Addr} {t m : Int} (hl : (r, O.sub 244 d [.int t, .int m]) ∈ Γ) (q : Q (.int m) Γ) : attrW X (n + 2) (.ref r) 3 Γ Q :=
  attr_sub P.tupc P.p3 hl (rb_get (i := 1) P hl P.i3 rfl (by simp) q)
theorem rb_total (P : RsF X) {r d : Addr} {t m : Int} (hl : (r, O.sub 244 d [.int t, .int m]) ∈ Γ) (q : Q (.int t) Γ) : attrW X (n + 2) (.ref r) 4 Γ Q :=
  attr_sub P.tupc P.p4 hl (rb_get (i := 0) P hl P.i4 rfl (by simp) q)
theorem rb_make (P : RsF X) {t m : Int} (q : ∀ r d, Q (.ref r) ((r, .sub 244 d [.int t, .int m]) :: Γ)) : keepsW X (.val (.ref 244)) ∧ callW X (n + 2) (.val (.ref 244)) [.int t, .int m] Γ Q := by
  refine ⟨keeps_K P.kcls, (callC_sub P.subc P.rd P.fnew P.snew (P.newF.w rfl ?_).2).w⟩
  simp only [m_rnew, wpSs, wpS, wpE, wpEs]
  refine ⟨.builtin "tuple.__new__", false, methR_type PySem.F.isi_meta_tuple stub_tuple (by decide +kernel) P.tnew, .val (.ref 244), rfl, _, rfl, _, rfl, by simp, fun tt => ⟨keeps_builtin, ?_⟩⟩
  exact callW_tupNew P.subc mem1 (by simp) fun r d => ⟨_, .cons .here (.tail .refl), r, d, _, rfl, mem1, q r d⟩
end Mine


open PySem PySem.W PyProof.Rows PySem.Calls PySem.SeqAt
set_option Elab.async false
set_option maxRecDepth 100000
set_option linter.unusedVariables false
set_option linter.unusedSimpArgs false
namespace Mine
variable {X : Cx} {n : Nat} {Γ : Led} {Q : V → Led → Prop}

structure CbF (X : Cx) : Prop where
  poly : PolyF X
  buf : BufF X
  rs : RsF X
  lut : ∃ f, BaseDict X 50 f ∧ (∀ e : Nat, 1 ≤ e → e ≤ 4 → f e = none) ∧ f 7 = some (.ref 51)
  lut7 : BaseList X 51 (ns [1, 127, 122, 154, 164, 11, 68, 117])
  cF : FnIs X 306 2 [some 0, some 1, none, none, none, none, none, none, none, none, none, none, none, none, none, none, none, none, none, none, none] m_create

/-- the entries of several lists of octets -/
def ents (ls : List (Addr × List Nat)) : Led := ls.map fun p => (p.1, O.list (ns p.2))
theorem ents_mem {ls : List (Addr × List Nat)} {p : Addr × List Nat} (h : p ∈ ls) : (p.1, O.list (ns p.2)) ∈ ents ls := List.mem_map.mpr ⟨p, h, rfl⟩

/-- the checks' loop, the small one -/
theorem gen_loop (P : PolyF X) {e : Nat} (he : e ≤ 6) (pg : ∀ j < e, pos (genF j) ∧ pos (strip [1, E j]) ∧ genF j ≠ [] ∧ (genF j).length ≤ 100)
    {buf bl off mD mE dcd ecd rb m cur raw mo ec moff : Option V} {Qs : Fl → Loc → Led → Prop} {f : Int → Option Value} (hlut : BaseDict X 50 f) (hd : f e = none) {rs : Option V} 
    (q : ∀ r Δ, Pl (Δ ++ Γ) r (genF e) → Qs .next [buf, bl, off, mD, mE, dcd, ecd, rb, m, some (.int e), none, cur, some (.ref r), raw, mo, ec, moff, none, none, none, none] (Δ ++ Γ)) :
    wpS X (n + 3) c_rs [buf, bl, off, mD, mE, dcd, ecd, rb, m, some (.int e), none, cur, rs, raw, mo, ec, moff, none, none, none, none] Γ Qs := by
  simp only [c_rs, wpS, wpE, wpT]
  refine ⟨_, rfl, ?_⟩
  show cmpS X _ .In _ _ _ _
  refine cmp_in isRefV hlut ?_
  rw [hd]
  simp only [truthW]
  refine ⟨fun h => by simp at h, fun _ => ?_⟩
  simp only [c_rs2, wpSs, wpS, wpE, wpEs]
  refine ⟨by simp, fun l0 => ?_⟩
  refine make_spec P (n := n + 1) (xs := [1]) (s := 0) isRef (fun Γ' sp => LAt.led (sp.mem _ mem1)) (by simp) (by simp) (by decide) fun r0 d0 ll0 => ?_
  simp only [List.replicate_zero, List.append_nil]
  simp only [c_rs3, wpSs, wpS, wpE, wpEs, wpI]
  refine ⟨_, rfl, _, rfl, by omega, by omega, ?_⟩
  refine ⟨e, fun k loc Γ' => k ≤ e ∧ ∃ r Δ, Γ' = Δ ++ Γ ∧ Pl (Δ ++ Γ) r (genF k) ∧ loc = [buf, bl, off, mD, mE, dcd, ecd, rb, m, some (.int e), none, cur, some (.ref r), raw, mo, ec, moff, none, none, none, none],
    ⟨Nat.zero_le _, r0, [(r0, .inst 172 d0 [(0, .ref ll0)]), (ll0, .list (ns (strip [1]))), (l0, .list [V.int 1])], rfl, ⟨d0, ll0, mem1, mem2⟩, rfl⟩, ?_⟩
  rintro k loc Γ' ⟨hk, r, Δ, rfl, hr, rfl⟩
  refine ⟨hk, fun hlt => ?_, fun hge => ?_⟩
  · have hlt : k < e := by omega
    rw [Int.zero_add]
    obtain ⟨g1, g2, g3, g4⟩ := pg k hlt
    simp only [tgW, c_rsb, wpSs, wpS, wpE, wpEs]
    refine ⟨.ref r, rfl, .int k, rfl, gexp_spec (n := n + 2) P.gexp P.et ⟨by simp, fun l1 => ?_⟩⟩
    rw [EI_nat, show [V.int 1, V.int ((E k : Nat) : Int)] = ns [1, E k] from rfl]
    refine make_spec P (n := n + 1) (xs := [1, E k]) (s := 0) isRef (fun Γ' sp => LAt.led (sp.mem _ mem1)) (by simp) (by simp) (by decide) fun r1 d1 ll1 => ?_
    simp only [List.replicate_zero, List.append_nil]
    show binS X _ .Mult _ _ _ _
    obtain ⟨dr, lr, hr1, hr2⟩ := hr
    have sl := strip_length [1, E k]
    refine binS_inst P.cls P.mul (.tail _ (.tail _ (.tail _ hr1))) mem1 (pmul_spec P (n := n) ⟨dr, lr, .tail _ (.tail _ (.tail _ hr1)), .tail _ (.tail _ (.tail _ hr2))⟩ ⟨d1, ll1, mem1, mem2⟩ g1 g2 g3 (strip_ne (by simp)) (by omega) (by simp at sl; omega) fun r2 d2 ll2 => ⟨fun u => by simp, ?_⟩)
    refine ⟨_, _, ?_, .refl, hlt, r2, (r2, .inst 172 d2 [(0, .ref ll2)]) :: (ll2, .list (ns (genF (k + 1)))) :: (r1, .inst 172 d1 [(0, .ref ll1)]) :: (ll1, .list (ns (strip [1, E k]))) :: (l1, .list (ns [1, E k])) :: Δ, rfl, ⟨d2, ll2, mem1, mem2⟩, rfl⟩
    intro i w hw
    match i, hw with
    | 0, hw => exact hw
    | 1, hw => exact hw
    | 2, hw => exact hw
    | 3, hw => exact hw
    | 4, hw => exact hw
    | 5, hw => exact hw
    | 6, hw => exact hw
    | 7, hw => exact hw
    | 8, hw => exact hw
    | 9, hw => exact hw
    | 10, hw => simp at hw
    | 11, hw => exact hw
    | 12, hw => exact hw
    | 13, hw => exact hw
    | 14, hw => exact hw
    | 15, hw => exact hw
    | 16, hw => exact hw
    | 17, hw => exact hw
    | 18, hw => exact hw
    | 19, hw => exact hw
    | 20, hw => exact hw
    | i + 21, hw => exact hw
  · have : k = e := by omega
    subst this
    exact q r Δ hr
end Mine


open PySem PySem.W PyProof.Rows PySem.Calls PySem.SeqAt
set_option Elab.async false
set_option maxRecDepth 100000
set_option linter.unusedVariables false
set_option linter.unusedSimpArgs false
namespace Mine
variable {X : Cx} {n : Nat} {Γ : Led} {Q : V → Led → Prop}

theorem Pick.app {e : Addr × O} {Γ Γ₁ : Led} (h : Pick Γ e Γ₁) : ∀ Δ : Led, Pick (Δ ++ Γ) e (Δ ++ Γ₁)
  | [] => h
  | x :: Δ => .there (Pick.app h Δ)
theorem SubP.app {R Γ : Led} (h : SubP R Γ) : ∀ Δ : Led, SubP R (Δ ++ Γ)
  | [] => h
  | x :: Δ => (SubP.app h Δ).tail
theorem mem_app {e : Addr × O} {Γ : Led} (Δ : Led) (h : e ∈ Γ) : e ∈ Δ ++ Γ := List.mem_append_right _ h
theorem Pl.app {a : Addr} {xs : List Nat} (h : Pl Γ a xs) (Δ : Led) : Pl (Δ ++ Γ) a xs := by
  obtain ⟨d, l, h1, h2⟩ := h
  exact ⟨d, l, mem_app Δ h1, mem_app Δ h2⟩

/-- the loc of create_bytes -/
abbrev LO (a bl : Addr) (off mD mE : Int) (dcd ecd : Addr) (rb m e i cur rs raw mo ec moff mi : Option V) : Loc := [some (.ref a), some (.ref bl), some (.int off), some (.int mD), some (.int mE), some (.ref dcd), some (.ref ecd), rb, m, e, i, cur, rs, raw, mo, ec, moff, mi, none, none, none]
def RsOk (X : Cx) (N : Nat) (e : Nat) (g : List Nat) : Prop := ∀ (Γ : Led) (buf bl off mD mE dcd ecd rb m cur raw mo ec moff rs : Option V) (Qs : Fl → Loc → Led → Prop),
  (∀ r Δ, Pl (Δ ++ Γ) r g → Qs .next [buf, bl, off, mD, mE, dcd, ecd, rb, m, some (.int e), none, cur, some (.ref r), raw, mo, ec, moff, none, none, none, none] (Δ ++ Γ)) →
  wpS X N c_rs [buf, bl, off, mD, mE, dcd, ecd, rb, m, some (.int e), none, cur, rs, raw, mo, ec, moff, none, none, none, none] Γ Qs
theorem padL_length {e : Nat} {r : List Nat} : (padL e r).length = e := by simp [padL]
theorem padL_get {e : Nat} {r : List Nat} {i : Nat} (h : i < e) : (padL e r)[i]? = some (if e ≤ i + r.length then r.getD (i + r.length - e) 0 else 0) := by
  unfold padL
  rw [List.getElem?_map, List.getElem?_range h]; rfl

/-- the checks are told off -/
theorem cb_checks (P : CbF X) {a bl dcd ecd mo ec : Addr} {off mD mE : Int} {e : Nat} {r : List Nat} {rb m cur rs raw : Option V} (he : e ≤ 1000) (hr : r.length ≤ 1000) {Γ : Led} (hm : Pl ((ec, O.list []) :: Γ) mo r) (hec : Pl Γ mo r) {Qs : Fl → Loc → Led → Prop}
    (q : wpSs X (n + 2) c_b12 (LO a bl off mD mE dcd ecd rb m (some (.int e)) none cur rs raw (some (.ref mo)) (some (.ref ec)) (some (.int ((r.length : Int) - e))) none) ((ec, O.list (ns (padL e r))) :: Γ) Qs) :
    wpSs X (n + 2) c_b11 (LO a bl off mD mE dcd ecd rb m (some (.int e)) none cur rs raw (some (.ref mo)) (some (.ref ec)) (some (.int ((r.length : Int) - e))) none) ((ec, O.list []) :: Γ) Qs := by
  simp only [c_b11, wpSs, wpS, wpE, wpI]
  refine ⟨_, rfl, _, rfl, by omega, by omega, ?_⟩
  refine ⟨e, fun k loc Γ' => k ≤ e ∧ loc = LO a bl off mD mE dcd ecd rb m (some (.int e)) none cur rs raw (some (.ref mo)) (some (.ref ec)) (some (.int ((r.length : Int) - e))) none ∧ Γ' = (ec, O.list (ns ((padL e r).take k))) :: Γ, ⟨Nat.zero_le _, rfl, by simp [ns]⟩, ?_⟩
  rintro k loc Γ' ⟨hk, rfl, rfl⟩
  refine ⟨hk, fun hlt => ?_, fun hge => ?_⟩
  · have hlt : k < e := by omega
    rw [Int.zero_add]
    simp only [tgW, c_eb, wpSs, wpS, wpE, wpEs, wpT]
    refine ⟨.int k, rfl, _, rfl, ?_⟩
    simp only [binW]
    refine ⟨.ref ec, rfl, .builtin "list.append", true, methR_list (LAt.led mem1) P.poly.app type_list_append, _, rfl, ?_⟩
    simp only [cmpW, truthW]
    have fin : ∀ v : Nat, (padL e r)[k]? = some v → wpEs X (n + 2) .nil [] [] (fun _ _ => True) → keepsW X (.val (.builtin "list.append")) ∧ callW X (n + 2) (.val (.builtin "list.append")) [.ref ec, .int v] ((ec, O.list (ns ((padL e r).take k))) :: Γ) (fun v Γ' => v = .none ∧ ∃ loc' Γ'', LocLe loc' (LO a bl off mD mE dcd ecd rb m (some (.int e)) (some (.int k)) cur rs raw (some (.ref mo)) (some (.ref ec)) (some (.int ((r.length : Int) - e))) (some (.int ((k : Int) + ((r.length : Int) - e))))) ∧ SubP Γ'' Γ' ∧
        k + 1 ≤ e ∧ loc' = LO a bl off mD mE dcd ecd rb m (some (.int e)) none cur rs raw (some (.ref mo)) (some (.ref ec)) (some (.int ((r.length : Int) - e))) none ∧ Γ'' = (ec, O.list (ns ((padL e r).take (k + 1)))) :: Γ) := by
      intro v hv _
      refine ⟨keeps_builtin, callW_append .here (by rw [ns_length]; simp; omega) ⟨rfl, _, _, ?_, .refl, hlt, rfl, ?_⟩⟩
      · intro i w hw
        match i, hw with
        | 0, hw => exact hw
        | 1, hw => exact hw
        | 2, hw => exact hw
        | 3, hw => exact hw
        | 4, hw => exact hw
        | 5, hw => exact hw
        | 6, hw => exact hw
        | 7, hw => exact hw
        | 8, hw => exact hw
        | 9, hw => exact hw
        | 10, hw => simp at hw
        | 11, hw => exact hw
        | 12, hw => exact hw
        | 13, hw => exact hw
        | 14, hw => exact hw
        | 15, hw => exact hw
        | 16, hw => exact hw
        | 17, hw => simp at hw
        | 18, hw => exact hw
        | 19, hw => exact hw
        | 20, hw => exact hw
        | i + 21, hw => exact hw
      · rw [List.take_add_one, hv]; simp [ns]
    have hpg := padL_get (r := r) hlt
    refine ⟨fun hc => ?_, fun hc => ?_⟩
    · have hc : e ≤ k + r.length := by simp at hc; omega
      rw [if_pos hc] at hpg
      obtain ⟨v, hv⟩ : ∃ v, r[k + r.length - e]? = some v := ⟨_, List.getElem?_eq_getElem (by omega)⟩
      rw [getD_of hv] at hpg
      refine ⟨.ref mo, rfl, _, rfl, ?_⟩
      have ei : ((k : Int) + ((r.length : Int) - e)) = ((k + r.length - e : Nat) : Int) := by omega
      have hpl : Pl ((ec, O.list (ns ((padL e r).take k))) :: Γ) mo r := hec.grow
      rw [ei]
      have := fin v hpg trivial
      rw [ei] at this
      exact pget_spec P.poly hpl hv (by omega) this
    · have hc : ¬ e ≤ k + r.length := by simp at hc; omega
      rw [if_neg hc] at hpg
      exact fin 0 hpg trivial
  · have : k = e := by omega
    subst this
    rw [List.take_of_length_le (by rw [padL_length]; exact Nat.le_refl _)]
    exact q
end Mine


open PySem PySem.W PyProof.Rows PySem.Calls PySem.SeqAt
set_option Elab.async false
set_option maxRecDepth 100000
set_option linter.unusedVariables false
set_option linter.unusedSimpArgs false
namespace Mine
variable {X : Cx} {n : Nat} {Γ : Led} {Q : V → Led → Prop}

theorem and255 {v : Nat} (h : v < 256) : 255 &&& v = v := by
  rw [Nat.and_comm]
  have := Nat.and_two_pow_sub_one_eq_mod v 8
  simp at this
  rw [this]; omega
theorem cb_body (P : CbF X) {N2 : Nat} {a d l bl dcd ecd rb dr : Addr} {len : Nat} {bytes g : List Nat} {off m e f : Nat} (hN : N2 + 2 = n + 3 + f) {mD mE : Int} {D C : List V} {H : Led} (hbuf : (a, bufO d l len) ∈ H) (hby : (l, O.list (ns bytes)) ∈ H) (hrb : (rb, O.sub 244 dr [.int ((m : Int) + e), .int m]) ∈ H)
    (hoct : oct bytes) (hoff : off + m ≤ bytes.length) (hm : 1 ≤ m) (hm2 : m ≤ 100) (he : e ≤ 100) (hD : mD ≤ m) (hE : mE ≤ e) (hDl : D.length ≤ 1000) (hCl : C.length ≤ 1000) (hblen : bytes.length ≤ 10000)
    (hrs : RsOk X (N2 + 2) e g) (hg : pos g) (hg2 : 2 ≤ g.length) (hg3 : g.length ≤ 100) (hgood : Good f (strip ((bytes.drop off).take m) ++ List.replicate (g.length - 1) 0) g)
    (hfl : (pmodF f (strip ((bytes.drop off).take m) ++ List.replicate (g.length - 1) 0) g).length ≤ 1000)
    {Qs : Fl → Loc → Led → Prop} (q : ∀ cur ec lo Γ', LocLe (LO a bl ((off : Int) + m) m e dcd ecd none none none none none none none none none none none) lo →
      SubP ((ecd, O.list (C ++ [.ref ec])) :: (dcd, O.list (D ++ [.ref cur])) :: (ec, O.list (ns (padL e (pmodF f (strip ((bytes.drop off).take m) ++ List.replicate (g.length - 1) 0) g)))) :: (cur, O.list (ns ((bytes.drop off).take m))) :: H) Γ' → Qs .next lo Γ') :
    wpSs X (N2 + 2) c_b0 (LO a bl off mD mE dcd ecd (some (.ref rb)) none none none none none none none none none none) ((ecd, O.list C) :: (dcd, O.list D) :: H) Qs := by
  have dl : ((bytes.drop off).take m).length = m := by simp; omega
  have dg : ∀ k, k < m → ((bytes.drop off).take m)[k]? = bytes[off + k]? := fun k hk => by
    rw [List.getElem?_take_of_lt hk, List.getElem?_drop]
  generalize hdata : (bytes.drop off).take m = data at *
  have hrb' : (rb, O.sub 244 dr [.int ((m : Int) + e), .int m]) ∈ (ecd, O.list C) :: (dcd, O.list D) :: H := .tail _ (.tail _ hrb)
  simp only [c_b0, wpSs, wpS, wpE]
  refine ⟨.ref rb, rfl, rb_data P.rs hrb' ?_⟩
  simp only [c_b1, wpSs, wpS, wpE]
  refine ⟨.ref rb, rfl, rb_total P.rs hrb' ⟨.int m, rfl, ?_⟩⟩
  simp only [binW, c_b2, wpSs, wpS, wpE, wpEs]
  have ee : ((m : Int) + e - m) = e := by omega
  rw [ee]
  refine ⟨.int mD, rfl, .int m, rfl, keeps_builtin, callW_max ?_⟩
  rw [Int.max_eq_right hD]
  simp only [c_b3, wpSs, wpS, wpE, wpEs]
  refine ⟨.int mE, rfl, .int e, rfl, keeps_builtin, callW_max ?_⟩
  rw [Int.max_eq_right hE]
  simp only [c_b4, wpSs, wpS, wpE, wpEs, wpI, wpT]
  refine ⟨_, rfl, _, rfl, by omega, by omega, fun cur => ?_⟩
  refine ⟨m, fun k zs Γ' => k ≤ m ∧ zs = ns (data.take k) ∧ Γ' = (ecd, O.list C) :: (dcd, O.list D) :: H, ⟨Nat.zero_le _, by simp [ns], rfl⟩, ?_⟩
  rintro k zs Γ' ⟨hk, rfl, rfl⟩
  refine ⟨hk, by rw [ns_length]; simp; omega, fun hlt => ?_, fun hge => ?_⟩
  · have hlt : k < m := by omega
    rw [Int.zero_add]
    obtain ⟨v, hv⟩ : ∃ v, bytes[off + k]? = some v := ⟨_, List.getElem?_eq_getElem (by omega)⟩
    have hv2 := hoct v (List.mem_of_getElem? hv)
    show _ ∧ _
    refine ⟨fun h => by simp at h, fun _ => ⟨.ref a, rfl, buf_attr P.buf (.tail _ (.tail _ (.tail _ hbuf))) ⟨.int k, rfl, .int off, rfl, ?_⟩⟩⟩
    have ek : ((k : Int) + (off : Int)) = ((off + k : Nat) : Int) := by omega
    simp only [binW, ek]
    have hli : LI X ((cur, O.list (ns (data.take k))) :: (ecd, O.list C) :: (dcd, O.list D) :: H) l (ns bytes) := LI.led (.tail _ (.tail _ (.tail _ hby)))
    refine subW_list isRef hli (getW_list isRef hli (by omega) (by omega) (x := .int v) (by rw [Int.toNat_natCast]; exact ns_get hv) ?_)
    rw [show (255 : Int) = ((255 : Nat) : Int) from rfl]
    simp only [bitAnd_nat, and255 hv2]
    refine ⟨_, .refl, hlt, ?_, rfl⟩
    rw [List.take_add_one, dg k hlt, hv]; simp [ns]
  · have hke : k = m := by omega
    subst hke
    rw [List.take_of_length_le (by omega)]
    simp only [c_b5, wpSs, wpS, wpE]
    refine ⟨_, rfl, .int k, rfl, ?_⟩
    simp only [inW, c_b6, wpSs]
    refine hrs _ _ _ _ _ _ _ _ _ _ _ _ _ _ _ _ _ fun rs Δ1 hp => ?_
    simp only [c_b7, wpSs, wpS, wpE, wpEs]
    have hg0 : g ≠ [] := fun z => by rw [z] at hg2; simp at hg2
    refine ⟨.ref cur, rfl, .ref rs, rfl, keeps_builtin, plen_spec P.poly hp (by omega) ?_⟩
    have eg : ((g.length : Int) - 1) = ((g.length - 1 : Nat) : Int) := by omega
    simp only [binW, eg]
    have dne : data ≠ [] := fun z => by rw [z] at dl; simp at dl; omega
    have sl := strip_length data
    have mcur : (cur, O.list (ns data)) ∈ Δ1 ++ (cur, O.list (ns data)) :: (ecd, O.list C) :: (dcd, O.list D) :: H := mem_app Δ1 mem1
    refine make_spec P.poly (xs := data) (s := g.length - 1) isRef (fun Γ' sp => LAt.led (sp.mem _ mcur)) dne (by omega) (by omega) fun rw_ rd rl => ?_
    simp only [c_b8, wpSs, wpS, wpE, wpEs]
    refine ⟨.ref rw_, rfl, .ref rs, rfl, ?_⟩
    show binS X _ .Mod _ _ _ _
    have hp' := hp.grow (e := (rl, O.list (ns (strip data ++ List.replicate (g.length - 1) 0)))) |>.grow (e := (rw_, O.inst 172 rd [(0, .ref rl)]))
    obtain ⟨gd, gl, hg4, hg5⟩ := hp'
    have sne := strip_ne dne
    have hmod := fun {Γ Q a b xs ys} => pmod_spec (n := n) P.poly f (Γ := Γ) (Q := Q) (a := a) (b := b) (xs := xs) (ys := ys)
    rw [← hN] at hmod
    refine binS_inst P.poly.cls P.poly.mod mem1 hg4 (hmod ⟨rd, rl, mem1, mem2⟩ ⟨gd, gl, hg4, hg5⟩ hg hg2 hgood (by simp [sne]) (by simp; omega) (by omega) fun mo Δ2 hmo => ⟨fun u => by simp, ?_⟩)
    simp only [c_b9, wpSs, wpS, wpE, wpEs]
    refine ⟨by simp, fun ec => ?_⟩
    simp only [c_b10, wpSs, wpS, wpE, wpEs]
    refine ⟨.ref mo, rfl, keeps_builtin, plen_spec P.poly hmo.grow (by omega) ⟨.int e, rfl, ?_⟩⟩
    simp only [binW]
    refine cb_checks P (by omega) hfl hmo.grow hmo ?_
    simp only [c_b12, wpSs, wpS, wpE, wpEs]
    refine ⟨.ref dcd, rfl, .builtin "list.append", true, methR_list (LAt.led (xs := D) ?_) P.poly.app type_list_append, .ref cur, rfl, keeps_builtin, callW_append (xs := D) (Γ₁ := (ec, O.list (ns (padL e (pmodF f (strip data ++ List.replicate (g.length - 1) 0) g)))) :: (Δ2 ++ (rw_, O.inst 172 rd [(0, .ref rl)]) :: (rl, O.list (ns (strip data ++ List.replicate (g.length - 1) 0))) :: (Δ1 ++ (cur, O.list (ns data)) :: (ecd, O.list C) :: H))) ?_ (by omega) ⟨rfl, ?_⟩⟩
    · exact .tail _ (mem_app _ (.tail _ (.tail _ (mem_app _ mem3))))
    · exact .there (.app (.there (.there (.app (.there (.there .here)) _))) _)
    simp only [c_b13, wpSs, wpS, wpE, wpEs]
    refine ⟨.ref ecd, rfl, .builtin "list.append", true, methR_list (LAt.led (xs := C) ?_) P.poly.app type_list_append, .ref ec, rfl, keeps_builtin, callW_append (xs := C) (Γ₁ := (dcd, O.list (D ++ [.ref cur])) :: (ec, O.list (ns (padL e (pmodF f (strip data ++ List.replicate (g.length - 1) 0) g)))) :: (Δ2 ++ (rw_, O.inst 172 rd [(0, .ref rl)]) :: (rl, O.list (ns (strip data ++ List.replicate (g.length - 1) 0))) :: (Δ1 ++ (cur, O.list (ns data)) :: H))) ?_ (by omega) ⟨rfl, ?_⟩⟩
    · exact .tail _ (.tail _ (mem_app _ (.tail _ (.tail _ (mem_app _ mem2)))))
    · exact .there (.there (.app (.there (.there (.app (.there .here) _))) _))
    refine q cur ec _ _ ?_ ?_
    · intro i w hw
      match i, hw with
      | 0, hw => exact hw
      | 1, hw => exact hw
      | 2, hw => exact hw
      | 3, hw => exact hw
      | 4, hw => exact hw
      | 5, hw => exact hw
      | 6, hw => exact hw
      | i + 7, hw =>
        rcases i with _ | _ | _ | _ | _ | _ | _ | _ | _ | _ | _ | _ | _ | _ | i <;> simp at hw
    · refine .cons .here (.cons .here (.cons .here (.cons (.app (.there (.there (.app .here _))) _) ?_)))
      exact .app (.tail (.tail (.app .refl _))) _
end Mine


open PySem PySem.W PyProof.Rows PySem.Calls PySem.SeqAt
set_option Elab.async false
set_option maxRecDepth 100000
set_option linter.unusedVariables false
set_option linter.unusedSimpArgs false
namespace Mine
variable {X : Cx} {n : Nat} {Γ : Led} {Q : V → Led → Prop}

def Hh (dt ck : Nat → List Nat) (Γ : Led) : List (Addr × Addr) → Led
  | [] => Γ
  | p :: ps => (p.2, O.list (ns (ck ps.length))) :: (p.1, O.list (ns (dt ps.length))) :: Hh dt ck Γ ps
theorem Hh_old {dt ck : Nat → List Nat} {e : Addr × O} (h : e ∈ Γ) : ∀ ps, e ∈ Hh dt ck Γ ps
  | [] => h
  | p :: ps => .tail _ (.tail _ (Hh_old h ps))
theorem Hh_sub {dt ck : Nat → List Nat} : ∀ ps, SubP Γ (Hh dt ck Γ ps)
  | [] => .refl
  | p :: ps => .tail (.tail (Hh_sub ps))
theorem Hh_get {dt ck : Nat → List Nat} : ∀ (ps : List (Addr × Addr)) (t : Nat) (h : t < ps.length), (((ps.reverse)[t]'(by simpa using h)).1, O.list (ns (dt t))) ∈ Hh dt ck Γ ps ∧ (((ps.reverse)[t]'(by simpa using h)).2, O.list (ns (ck t))) ∈ Hh dt ck Γ ps
  | p :: ps, t, h => by
    simp only [List.reverse_cons]
    by_cases e : t < ps.length
    · rw [List.getElem_append_left (by simpa using e)]
      have ih := Hh_get (dt := dt) (ck := ck) ps t e
      exact ⟨.tail _ (.tail _ ih.1), .tail _ (.tail _ ih.2)⟩
    · have : t = ps.length := by simp at h; omega
      subst this
      rw [List.getElem_append_right (by simp)]
      simp only [List.length_reverse, Nat.sub_self, List.getElem_cons_zero]
      exact ⟨mem2, mem1⟩
def interl (k w : Nat) (dt : Nat → List Nat) : List Nat := (List.range w).flatMap fun i => (List.range k).map fun t => (dt t).getD i 0
theorem interl_succ {k w : Nat} {dt : Nat → List Nat} : interl k (w + 1) dt = interl k w dt ++ (List.range k).map fun t => (dt t).getD w 0 := by
  unfold interl; rw [List.range_succ, List.flatMap_append]; simp
theorem interl_length {k : Nat} {dt : Nat → List Nat} : ∀ w, (interl k w dt).length = w * k
  | 0 => by simp [interl]
  | w + 1 => by rw [interl_succ, List.length_append, interl_length w]; simp [Nat.succ_mul]

/-- one of the two last loops -/
theorem deal (P : CbF X) {w src : Nat} {k W : Nat} {dt : Nat → List Nat} {adr : List Addr} {sl c : Addr} {base : List Nat} {locB : Loc} {G : Led} {rest : MSs} {Qs : Fl → Loc → Led → Prop} {bnd : Nat}
    (hw : w = 19 ∨ w = 20) (hbnd : bnd = 3 ∨ bnd = 4) (hl1 : locB.length = 21) (hsrc : locB[src]? = some (some (.ref sl))) (hs2 : src < 10) (hb : locB[bnd]? = some (some (.int W))) (h18 : locB[18]? = some (some (.ref c))) (h10 : locB[10]? = some none) (hww : locB[w]? = some none)
    (hsl : (sl, O.list (adr.map .ref)) ∈ G) (hk : adr.length = k) (hdt : ∀ t (h : t < adr.length), (adr[t], O.list (ns (dt t))) ∈ G) (hW : ∀ t, t < k → (dt t).length = W) (hW2 : W ≤ 1000) (hk2 : k ≤ 100) (hbase : base.length ≤ 100000)
    (q : wpSs X (n + 2) rest locB ((c, O.list (ns (base ++ interl k W dt))) :: G) Qs) :
    wpSs X (n + 2) (.cons (.loop (.loc 10) (.rng (.loc bnd)) (c_in w src)) rest) locB ((c, O.list (ns base)) :: G) Qs := by
  simp only [wpSs, wpS, wpE, wpI]
  refine ⟨_, hb, _, rfl, by omega, by omega, ?_⟩
  refine ⟨W, fun i loc Γ' => i ≤ W ∧ loc = locB ∧ Γ' = (c, O.list (ns (base ++ interl k i dt))) :: G, ⟨Nat.zero_le _, rfl, by simp [interl]⟩, ?_⟩
  rintro i loc Γ' ⟨hi, rfl, rfl⟩
  refine ⟨hi, fun hlt => ?_, fun hge => ?_⟩
  · have hlt : i < W := by omega
    rw [Int.zero_add]
    simp only [tgW, c_in, wpSs, wpS, wpE, wpEs, wpT, wpI]
    have g1 : (loc.set 10 (some (.int (i : Int))))[src]? = some (some (.ref sl)) := by rw [List.getElem?_set_ne (by omega)]; exact hsrc
    refine ⟨.ref sl, g1, sl, rfl, .inl ⟨_, .tail _ hsl, ?_⟩⟩
    refine ⟨k, fun t loc' Γ' => t ≤ k ∧ loc' = loc.set 10 (some (.int (i : Int))) ∧ Γ' = (c, O.list (ns (base ++ interl k i dt ++ (List.range t).map fun t => (dt t).getD i 0))) :: G, ⟨Nat.zero_le _, rfl, by simp⟩, ?_⟩
    rintro t loc' Γ' ⟨ht, rfl, rfl⟩
    refine ⟨ht, _, .tail _ hsl, fun v hv => ?_, fun hge => ?_⟩
    · rw [List.getElem?_map] at hv
      obtain ⟨ad, had, rfl⟩ := Option.map_eq_some_iff.mp hv
      obtain ⟨htl, had⟩ := List.getElem?_eq_some_iff.mp had
      have hm := hdt t htl
      rw [had] at hm
      have hlen := hW t (by omega)
      have hil := interl_length (k := k) (dt := dt) i
      have hik : i * k ≤ 1000 * 100 := Nat.mul_le_mul (by omega) hk2
      have gw : ((loc.set 10 (some (.int (i : Int)))).set w (some (.ref ad)))[w]? = some (some (.ref ad)) := by
        rw [List.getElem?_set_self (by rw [List.length_set]; omega)]
      have g10 : ((loc.set 10 (some (.int (i : Int)))).set w (some (.ref ad)))[10]? = some (some (.int (i : Int))) := by
        rw [List.getElem?_set_ne (by omega), List.getElem?_set_self (by omega)]
      have g18 : ((loc.set 10 (some (.int (i : Int)))).set w (some (.ref ad)))[18]? = some (some (.ref c)) := by
        rw [List.getElem?_set_ne (by omega), List.getElem?_set_ne (by omega)]; exact h18
      have hli : LI X ((c, O.list (ns (base ++ interl k i dt ++ (List.range t).map fun t => (dt t).getD i 0))) :: G) ad (ns (dt t)) := LI.led (.tail _ hm)
      show ∃ v, _ ∧ _
      refine ⟨_, g10, _, gw, keeps_builtin, callW_len_list isRef hli (by rw [ns_length]; omega) ?_⟩
      simp only [cmpW, truthW]
      rw [ns_length]
      refine ⟨fun _ => ?_, fun hf => ?_⟩
      · obtain ⟨u, hu⟩ : ∃ u, (dt t)[i]? = some u := ⟨_, List.getElem?_eq_getElem (by omega)⟩
        refine ⟨_, g18, .builtin "list.append", true, methR_list (LAt.led mem1) P.poly.app type_list_append, _, gw, _, g10, ?_⟩
        refine subW_list isRef hli (getW_list isRef hli (by omega) (by omega) (x := .int u) (by rw [Int.toNat_natCast]; exact ns_get hu) ⟨keeps_builtin, callW_append .here (by rw [ns_length]; simp; omega) ⟨rfl, ?_⟩⟩)
        refine ⟨_, _, ?_, .refl, by omega, rfl, ?_⟩
        · intro j x hx
          by_cases ej : j = w
          · subst ej
            rw [List.getElem?_set_ne (by omega), hww] at hx
            simp at hx
          · rw [List.getElem?_set_ne (fun z => ej z.symm)]; exact hx
        · rw [List.range_succ, List.map_append]
          simp only [List.map_cons, List.map_nil, getD_of hu]
          rw [show ns (base ++ interl k i dt ++ (List.range t).map fun t => (dt t).getD i 0) ++ [V.int u] = ns (base ++ interl k i dt ++ ((List.range t).map fun t => (dt t).getD i 0) ++ [u]) by simp [ns]]
          simp
      · simp at hf; omega
    · have htk : t = k := by simp at hge; omega
      subst htk
      refine ⟨loc, _, ?_, .refl, hlt, rfl, ?_⟩
      · intro j x hx
        by_cases ej : j = 10
        · subst ej; rw [h10] at hx; simp at hx
        · rw [List.getElem?_set_ne (fun z => ej z.symm)]; exact hx
      · rw [interl_succ]; simp
  · have : i = W := by omega
    subst this
    exact q
end Mine


open PySem PySem.W PyProof.Rows PySem.Calls PySem.SeqAt
set_option Elab.async false
set_option maxRecDepth 100000
set_option linter.unusedVariables false
set_option linter.unusedSimpArgs false
namespace Mine
variable {X : Cx} {n : Nat} {Γ : Led} {Q : V → Led → Prop}

def chunk (bytes : List Nat) (m t : Nat) : List Nat := (bytes.drop (t * m)).take m
def chk (bytes g : List Nat) (m e f t : Nat) : List Nat := padL e (pmodF f (strip (chunk bytes m t) ++ List.replicate (g.length - 1) 0) g)
theorem chunk_length {bytes : List Nat} {m t k : Nat} (hl : bytes.length = k * m) (ht : t < k) : (chunk bytes m t).length = m := by
  unfold chunk
  rw [List.length_take, List.length_drop, hl]
  have : (t + 1) * m ≤ k * m := Nat.mul_le_mul_right m ht
  rw [Nat.succ_mul] at this
  omega
def outOf (bytes g : List Nat) (k m e f : Nat) : List Nat := interl k m (chunk bytes m) ++ interl k e (chk bytes g m e f)
theorem create_spec (P : CbF X) {N2 : Nat} {a d l bl : Addr} {len : Nat} {bytes g : List Nat} {rbs : List Addr} {m e f : Nat} (hN : N2 + 2 = n + 3 + f) (hbuf : (a, bufO d l len) ∈ Γ) (hby : (l, O.list (ns bytes)) ∈ Γ) (hbl : (bl, O.list (rbs.map .ref)) ∈ Γ)
    (hrbs : ∀ rb ∈ rbs, ∃ dr, (rb, O.sub 244 dr [.int ((m : Int) + e), .int m]) ∈ Γ) (hoct : oct bytes) (hlen : bytes.length = rbs.length * m) (hk1 : 1 ≤ rbs.length) (hk : rbs.length ≤ 10) (hm : 1 ≤ m) (hm2 : m ≤ 20) (he : e ≤ 20)
    (hrs : RsOk X (N2 + 2) e g) (hg : pos g) (hg2 : 2 ≤ g.length) (hg3 : g.length ≤ 100)
    (hgood : ∀ t < rbs.length, Good f (strip (chunk bytes m t) ++ List.replicate (g.length - 1) 0) g ∧ (pmodF f (strip (chunk bytes m t) ++ List.replicate (g.length - 1) 0) g).length ≤ 1000)
    (q : ∀ r, Q (.ref r) ((r, O.list (ns (outOf bytes g rbs.length m e f))) :: Γ)) : keepsW X (.val (.ref 306)) ∧ callW X (N2 + 3) (.val (.ref 306)) [.ref a, .ref bl] Γ Q := by
  refine P.cF.w (n := N2 + 2) rfl ?_
  simp only [m_create, wpSs, wpS, wpE, wpEs]
  refine ⟨by simp, fun dcd => ⟨by simp, fun ecd => ?_⟩⟩
  simp only [c_5, wpSs, wpS, wpE, wpI]
  refine ⟨.ref bl, rfl, bl, rfl, .inl ⟨_, .tail _ (.tail _ hbl), ?_⟩⟩
  let ck := chk bytes g m e f
  let dt := chunk bytes m
  refine ⟨rbs.length, fun k loc Γ' => k ≤ rbs.length ∧ ∃ ps : List (Addr × Addr), ps.length = k ∧ loc = LO a bl ((k * m : Nat) : Int) (if k = 0 then 0 else m) (if k = 0 then 0 else e) dcd ecd none none none none none none none none none none none ∧
    Γ' = (ecd, O.list ((ps.reverse).map fun p => .ref p.2)) :: (dcd, O.list ((ps.reverse).map fun p => .ref p.1)) :: Hh dt ck Γ ps, ⟨Nat.zero_le _, [], rfl, by simp, rfl⟩, ?_⟩
  rintro k loc Γ' ⟨hkk, ps, hps, rfl, rfl⟩
  refine ⟨hkk, _, .tail _ (.tail _ (Hh_old hbl ps)), fun v hv => ?_, fun hge => ?_⟩
  · rw [List.getElem?_map] at hv
    obtain ⟨rb, hrb, rfl⟩ := Option.map_eq_some_iff.mp hv
    obtain ⟨hlt, hrb⟩ := List.getElem?_eq_some_iff.mp hrb
    obtain ⟨dr, hdr⟩ := hrbs rb (hrb ▸ List.getElem_mem hlt)
    have hoff : k * m + m ≤ bytes.length := by
      rw [hlen]
      have : (k + 1) * m ≤ rbs.length * m := Nat.mul_le_mul_right m hlt
      rw [Nat.succ_mul] at this; exact this
    have hbl2 : bytes.length ≤ 10000 := by
      rw [hlen]
      exact Nat.le_trans (Nat.mul_le_mul hk hm2) (by decide)
    obtain ⟨g1, g2⟩ := hgood k hlt
    refine cb_body (n := n) P (N2 := N2) (off := k * m) (m := m) (e := e) (f := f) hN (Hh_old hbuf ps) (Hh_old hby ps) (Hh_old hdr ps) hoct hoff hm (by omega) (by omega) ?_ ?_ (by simp; omega) (by simp; omega) hbl2 hrs hg hg2 hg3 g1 g2 ?_
    · split <;> omega
    · split <;> omega
    · intro cur ec lo Γ' hlo hsp
      refine ⟨_, _, hlo, hsp, hlt, (cur, ec) :: ps, by simp [hps], ?_, ?_⟩
      · rw [if_neg (by omega), if_neg (by omega), Nat.succ_mul]
        rfl
      · simp [Hh, dt, ck, chunk, chk, hps]
  · have hkr : k = rbs.length := by rw [List.length_map] at hge; omega
    subst hkr
    rw [if_neg (by omega), if_neg (by omega)]
    simp only [c_6, wpSs, wpS, wpE, wpEs]
    refine ⟨by simp, fun c => ?_⟩
    have hd1 : ∀ t, t < rbs.length → (dt t).length = m := fun t ht => chunk_length hlen ht
    have hc1 : ∀ t, t < rbs.length → (ck t).length = e := fun t ht => padL_length
    refine deal P (w := 19) (src := 5) (k := rbs.length) (W := m) (dt := dt) (adr := (ps.reverse).map (·.1)) (sl := dcd) (c := c) (base := []) (bnd := 3) (.inl rfl) (.inl rfl) rfl rfl (by decide) rfl rfl rfl rfl ?_ (by simp [hps]) (fun t ht => ?_) hd1 (by omega) (by omega) (by simp) ?_
    · simp only [List.map_map]
      exact mem2
    · simp only [List.getElem_map]
      exact .tail _ (.tail _ (Hh_get ps t (by simpa using ht)).1)
    refine deal P (w := 20) (src := 6) (k := rbs.length) (W := e) (dt := ck) (adr := (ps.reverse).map (·.2)) (sl := ecd) (c := c) (base := [] ++ interl rbs.length m dt) (bnd := 4) (.inr rfl) (.inr rfl) rfl rfl (by decide) rfl rfl rfl rfl ?_ (by simp [hps]) (fun t ht => ?_) hc1 (by omega) (by omega) ?_ ?_
    · simp only [List.map_map]
      exact mem1
    · simp only [List.getElem_map]
      exact .tail _ (.tail _ (Hh_get ps t (by simpa using ht)).2)
    · simp only [List.nil_append]
      rw [interl_length]
      exact Nat.le_trans (Nat.mul_le_mul hm2 hk) (by decide)
    simp only [c_9, wpSs, wpS, wpE]
    refine ⟨.ref c, rfl, _, ?_, q c⟩
    simp only [List.nil_append]
    exact .cons .here (.tail (.tail (Hh_sub ps)))
end Mine


open PySem PySem.W PyProof.Rows PySem.Calls PySem.SeqAt
set_option Elab.async false
set_option maxRecDepth 100000
set_option linter.unusedVariables false
set_option linter.unusedSimpArgs false
namespace Mine
variable {X : Cx} {n : Nat} {Γ : Led} {Q : V → Led → Prop}

def m_draw2 : MSs := (.cons (.ret (.bin .Mod (.bin .Add (.loc 3) (.bin .Mult (.int 37) (.loc 1))) (.loc 2))) .nil)
def m_draw : MSs := (.cons (.asg 3 (.ite (.val (.loc 0)) (.sub (.loc 0) (.bin .Mod (.loc 1) (.call (.val (.builtin "len")) (.cons (.loc 0) .nil)))) (.int 0))) m_draw2)
def m_times : MSs := (.cons (.ret (.ite (.and (.val (.loc 0)) (.and (.val (.loc 1)) .tt)) (.call (.val (.ref 122)) (.cons (.bin .Add (.call (.val (.ref 115)) (.cons (.loc 0) .nil)) (.call (.val (.ref 115)) (.cons (.loc 1) .nil))) .nil)) (.int 0))) .nil)
theorem draw_spec {A : Addr} (h : FnIs X A 3 [some 0, some 1, some 2, none] m_draw) {sa : Addr} {sc : List Int} (hs : LI X Γ sa (intsV sc)) (hl : sc.length ≤ 63) {place most : Nat} (hp : place ≤ 100) (hm : 1 ≤ most) (q : ∀ r : Nat, r < most → Q (.int r) Γ) :
    keepsW X (.val (.ref A)) ∧ callW X (n + 1) (.val (.ref A)) [.ref sa, .int place, .int most] Γ Q := by
  refine h.w rfl ?_
  have tail : ∀ v : Int, wpSs X n m_draw2 [some (.ref sa), some (.int place), some (.int most), some (.int v)] Γ (FnPost Q) := by
    intro v
    simp only [m_draw2, wpSs, wpS, wpE]
    refine ⟨_, rfl, _, rfl, ?_⟩
    simp only [binW]
    refine ⟨.inl ⟨by decide, by decide⟩, _, rfl, by omega, Γ, .refl, ?_⟩
    have h0 : 0 ≤ (v + 37 * (place : Int)).fmod most := Int.fmod_nonneg_of_pos _ (by omega)
    have h1 : (v + 37 * (place : Int)).fmod most < most := Int.fmod_lt_of_pos _ (by omega)
    have := q ((v + 37 * (place : Int)).fmod most).toNat (by omega)
    rwa [Int.toNat_of_nonneg h0] at this
  simp only [m_draw, wpSs, wpS, wpE, wpEs, wpT]
  refine ⟨_, rfl, truthW_list isRef hs (by rw [intsV_length]; omega) ⟨fun hne => ?_, fun _ => tail 0⟩⟩
  have hpos : 0 < sc.length := by
    cases sc with
    | nil => simp [intsV] at hne
    | cons _ _ => simp
  refine ⟨_, rfl, _, rfl, _, rfl, keeps_builtin, callW_len_list isRef hs (by rw [intsV_length]; omega) ?_⟩
  simp only [binW]
  rw [intsV_length, fmod_nat]
  have hlt : place % sc.length < sc.length := Nat.mod_lt _ hpos
  refine ⟨by omega, subW_list isRef hs (getW_list isRef hs (by omega) (by omega) (x := .int sc[place % sc.length]) ?_ (tail _))⟩
  rw [Int.toNat_natCast]
  unfold intsV
  rw [List.getElem?_map, List.getElem?_eq_getElem hlt]; rfl
theorem times_spec (P : PolyF X) {A : Addr} (h : FnIs X A 2 [some 0, some 1] m_times) {a b : Nat} (ha : a < 256) (hb : b < 256) (q : Q (.int (mul a b)) Γ) : keepsW X (.val (.ref A)) ∧ callW X (n + 2) (.val (.ref A)) [.int a, .int b] Γ Q := by
  refine h.w (n := n + 1) rfl ?_
  simp only [m_times, wpSs, wpS, wpE, wpEs, wpT]
  refine ⟨_, rfl, ?_⟩
  simp only [truthW]
  have zero : (a = 0 ∨ b = 0) → FnPost Q (Fl.ret (.int 0)) ([] : Loc) Γ := by
    intro hz
    have : mul a b = 0 := by unfold mul; rw [if_pos hz]
    rw [this] at q
    exact ⟨Γ, .refl, q⟩
  refine ⟨fun hx => ⟨fun _ => zero (.inl (by simpa using hx)) |> fun h => by simp at *, fun _ => zero (.inl (by simpa using hx))⟩, fun hx => ?_⟩
  have hx : a ≠ 0 := by simpa using hx
  refine ⟨_, rfl, ?_⟩
  refine ⟨fun hy => ⟨fun h => by simp at h, fun _ => zero (.inr (by simpa using hy))⟩, fun hy => ?_⟩
  have hy : b ≠ 0 := by simpa using hy
  refine ⟨fun _ => ?_, fun h => by simp at h⟩
  refine ⟨_, rfl, glog_spec P.glog P.lt (by omega) ha ⟨_, rfl, glog_spec P.glog P.lt (by omega) hb ?_⟩⟩
  simp only [binW]
  refine gexp_spec P.gexp P.et ⟨Γ, .refl, ?_⟩
  have : EI ((L a : Int) + (L b : Int)) = mul a b := by rw [mul_pos (by omega) (by omega), ← EI_nat]; rfl
  rw [this]; exact q
end Mine


open PySem PySem.W PyProof.Rows PySem.Calls PySem.SeqAt
set_option Elab.async false
set_option maxRecDepth 100000
set_option linter.unusedVariables false
set_option linter.unusedSimpArgs false
namespace Mine
variable {X : Cx} {n : Nat} {Γ : Led} {Q : V → Led → Prop}

def m_oct3 : MSs := (.cons (.ret (.bool true)) .nil)
def m_oct2 : MSs := (.cons (.loop (.loc 2) (.over (.loc 0)) (.cons (.ite (.or (.not (.val (.call (.val (.builtin "isinstance")) (.cons (.loc 2) (.cons (.val (.type "int")) .nil))))) (.or (.val (.call (.val (.builtin "isinstance")) (.cons (.loc 2) (.cons (.val (.type "bool")) .nil)))) (.or (.cmp .Lt (.loc 2) (.int 0)) (.or (.cmp .Gt (.loc 2) (.int 255)) .ff)))) (.cons (.ret (.bool false)) .nil) .nil) .nil)) m_oct3)
def m_oct : MSs := (.cons (.ite (.or (.not (.val (.call (.val (.builtin "isinstance")) (.cons (.loc 0) (.cons (.val (.type "list")) .nil))))) (.or (.cmp .NotEq (.call (.val (.builtin "len")) (.cons (.loc 0) .nil)) (.loc 1)) .ff)) (.cons (.ret (.bool false)) .nil) .nil) m_oct2)
theorem octets_spec {A : Addr} (h : FnIs X A 2 [some 0, some 1, none] m_oct) {o : Addr} {xs : List Nat} {count : Int} (ho : (o, O.list (ns xs)) ∈ Γ) (hx : oct xs) (hl : (xs.length : Int) = count) (hl2 : xs.length ≤ 1000) (q : Q (.bool true) Γ) :
    keepsW X (.val (.ref A)) ∧ callW X (n + 1) (.val (.ref A)) [.ref o, .int count] Γ Q := by
  refine h.w rfl ?_
  simp only [m_oct, wpSs, wpS, wpE, wpEs, wpT]
  refine ⟨_, rfl, keeps_builtin, callW_isi_list isRef (LI.led ho) ?_⟩
  simp only [truthW]
  refine ⟨fun h => by simp at h, fun _ => ⟨_, rfl, keeps_builtin, callW_len_list isRef (LI.led ho) (by rw [ns_length]; omega) ⟨_, rfl, ?_⟩⟩⟩
  simp only [cmpW, truthW]
  rw [ns_length, hl]
  refine ⟨fun h => by simp at h, fun _ => ⟨fun h => by simp at h, fun _ => ?_⟩⟩
  simp only [m_oct2, wpSs, wpS, wpE, wpEs, wpT, wpI]
  refine ⟨_, rfl, o, rfl, .inl ⟨_, ho, ?_⟩⟩
  refine ⟨xs.length, fun k loc Γ' => k ≤ xs.length ∧ loc = [some (.ref o), some (.int count), none] ∧ Γ' = Γ, ⟨Nat.zero_le _, rfl, rfl⟩, ?_⟩
  rintro k loc Γ' ⟨hk, rfl, rfl⟩
  refine ⟨hk, _, ho, fun v hv => ?_, fun hge => ?_⟩
  · obtain ⟨x, hxk, rfl⟩ := ns_get' hv
    have hlt : k < xs.length := (List.getElem?_eq_some_iff.mp hxk).1
    have hx2 := hx x (List.mem_of_getElem? hxk)
    show ∃ v, _ ∧ _
    refine ⟨.int x, rfl, keeps_builtin, callW_isi_int_int ?_⟩
    simp only [truthW]
    refine ⟨fun h => by simp at h, fun _ => ⟨.int x, rfl, keeps_builtin, callW_isi_int_bool ?_⟩⟩
    simp only [truthW]
    refine ⟨fun h => by simp at h, fun _ => ⟨.int x, rfl, ?_⟩⟩
    simp only [cmpW, truthW]
    refine ⟨fun h => by simp at h; omega, fun _ => ⟨.int x, rfl, ?_⟩⟩
    refine ⟨fun h => by simp at h; omega, fun _ => ⟨fun h => by simp at h, fun _ => ?_⟩⟩
    refine ⟨_, _, ?_, .refl, hlt, rfl, rfl⟩
    intro i w hw
    match i, hw with
    | 0, hw => exact hw
    | 1, hw => exact hw
    | 2, hw => simp at hw
    | i + 3, hw => simp at hw
  · simp only [m_oct3, wpSs, wpS, wpE]
    exact ⟨Γ', .refl, q⟩

/-! ## sums -/
def xtn : Nat → Nat → Nat
  | 0, a => a
  | k + 1, a => xt (xtn k a)
def horn (root : Nat) (row : List Nat) : Nat := row.foldl (fun t o => xtn root t ^^^ o) 0
def sumsL (row : List Nat) (count : Nat) : List Nat := (List.range count).map fun root => horn root row
theorem xt_lt {a : Nat} (h : a < 256) : xt a < 256 := by
  unfold xt
  split
  · have h1 : 2 * a < 512 := by omega
    have := Nat.xor_lt_two_pow (n := 9) (x := 2 * a) (y := 285) (by omega) (by omega)
    have hb : (2 * a ^^^ 285) / 256 = (2 * a) / 256 ^^^ 285 / 256 := by
      have := Nat.xor_div_two_pow (a := 2 * a) (b := 285) (n := 8)
      simpa using this
    have e1 : (2 * a) / 256 = 1 := by omega
    rw [e1] at hb
    simp at hb
    omega
  · omega
theorem xtn_lt {a : Nat} (h : a < 256) : ∀ k, xtn k a < 256
  | 0 => h
  | k + 1 => xt_lt (xtn_lt h k)
theorem xor_lt {a b : Nat} (ha : a < 256) (hb : b < 256) : a ^^^ b < 256 := Nat.xor_lt_two_pow (n := 8) (by omega) (by omega)
def hornK (root : Nat) (row : List Nat) (k : Nat) : Nat := horn root (row.take k)
theorem hornK_succ {root : Nat} {row : List Nat} {k v : Nat} (h : row[k]? = some v) : hornK root row (k + 1) = xtn root (hornK root row k) ^^^ v := by
  unfold hornK horn
  rw [List.take_add_one, h, List.foldl_append]; rfl
theorem hornK_lt {root : Nat} {row : List Nat} (hr : oct row) : ∀ k, hornK root row k < 256
  | 0 => by simp [hornK, horn]
  | k + 1 => by
    cases h : row[k]? with
    | none =>
      have : row.length ≤ k := List.getElem?_eq_none_iff.mp h
      have e : hornK root row (k + 1) = hornK root row k := by
        unfold hornK; rw [List.take_of_length_le (by omega), List.take_of_length_le (by omega)]
      rw [e]; exact hornK_lt hr k
    | some v =>
      rw [hornK_succ h]
      exact xor_lt (xtn_lt (hornK_lt hr k) _) (hr v (List.mem_of_getElem? h))
def m_sums4 : MSs := (.cons (.ret (.loc 2)) .nil)
def m_sumsC : MSs := (.cons (.expr (.meth (.loc 2) 6 (.cons (.loc 4) .nil))) .nil)
def m_sumsB2 : MSs := (.cons (.aug 4 .BitXor (.loc 5)) .nil)
def m_sumsB : MSs := (.cons (.loop (.loc 6) (.rng (.loc 3)) (.cons (.asg 4 (.bin .Mult (.loc 4) (.int 2))) (.cons (.ite (.cmp .Gt (.loc 4) (.int 255)) (.cons (.aug 4 .BitXor (.int 285)) .nil) .nil) .nil))) m_sumsB2)
def m_sumsA2 : MSs := (.cons (.loop (.loc 5) (.over (.loc 0)) m_sumsB) m_sumsC)
def m_sumsA : MSs := (.cons (.asg 4 (.int 0)) m_sumsA2)
def m_sums : MSs := (.cons (.asg 2 (.list .nil)) (.cons (.loop (.loc 3) (.rng (.loc 1)) m_sumsA) m_sums4))
theorem sums_spec (Papp : ∀ x, X.at_[6]? = some x → Slot "list" x "list.append") {A : Addr} (h : FnIs X A 2 [some 0, some 1, none, none, none, none, none] m_sums) {o : Addr} {row : List Nat} {count : Nat} (ho : (o, O.list (ns row)) ∈ Γ) (hx : oct row) (hl2 : row.length ≤ 1000) (hc : count ≤ 1000)
    (q : ∀ r, Q (.ref r) ((r, O.list (ns (sumsL row count))) :: Γ)) : keepsW X (.val (.ref A)) ∧ callW X (n + 1) (.val (.ref A)) [.ref o, .int count] Γ Q := by
  refine h.w rfl ?_
  simp only [m_sums, wpSs, wpS, wpE, wpEs, wpI]
  refine ⟨by simp, fun sm => ⟨_, rfl, _, rfl, by omega, by omega, ?_⟩⟩
  refine ⟨count, fun k loc Γ' => k ≤ count ∧ loc = [some (.ref o), some (.int count), some (.ref sm), none, none, none, none] ∧ Γ' = (sm, O.list (ns (sumsL row k))) :: Γ, ⟨Nat.zero_le _, rfl, rfl⟩, ?_⟩
  rintro k loc Γ' ⟨hk, rfl, rfl⟩
  refine ⟨hk, fun hlt => ?_, fun hge => ?_⟩
  · have hlt : k < count := by omega
    rw [Int.zero_add]
    simp only [tgW, m_sumsA, wpSs, wpS, wpE]
    simp only [m_sumsA2, wpSs, wpS, wpE, wpI]
    refine ⟨.ref o, rfl, o, rfl, .inl ⟨_, .tail _ ho, ?_⟩⟩
    refine ⟨row.length, fun j loc Γ' => j ≤ row.length ∧ loc = [some (.ref o), some (.int count), some (.ref sm), some (.int k), some (.int (hornK k row j)), none, none] ∧ Γ' = (sm, O.list (ns (sumsL row k))) :: Γ, ⟨Nat.zero_le _, rfl, rfl⟩, ?_⟩
    rintro j loc Γ' ⟨hj, rfl, rfl⟩
    refine ⟨hj, _, .tail _ ho, fun v hv => ?_, fun hge => ?_⟩
    · obtain ⟨x, hxj, rfl⟩ := ns_get' hv
      have hlj : j < row.length := (List.getElem?_eq_some_iff.mp hxj).1
      simp only [tgW, m_sumsB, wpSs, wpS, wpE, wpI]
      refine ⟨.int k, rfl, _, rfl, by omega, by omega, ?_⟩
      refine ⟨k, fun i loc Γ' => i ≤ k ∧ loc = [some (.ref o), some (.int count), some (.ref sm), some (.int k), some (.int (xtn i (hornK k row j))), some (.int x), none] ∧ Γ' = (sm, O.list (ns (sumsL row k))) :: Γ, ⟨Nat.zero_le _, rfl, rfl⟩, ?_⟩
      rintro i loc Γ' ⟨hi, rfl, rfl⟩
      refine ⟨hi, fun hli => ?_, fun hgi => ?_⟩
      · have hli : i < k := by omega
        have hb := xtn_lt (hornK_lt (root := k) hx j) i
        show ∃ v, _ ∧ _
        refine ⟨.int (xtn i (hornK k row j)), rfl, ?_⟩
        simp only [binW]
        refine ⟨.inl ⟨by omega, by omega⟩, ?_⟩
        simp only [wpT, wpE]
        refine ⟨.int ((xtn i (hornK k row j) : Int) * 2), rfl, ?_⟩
        simp only [cmpW, truthW]
        have e2 : ((xtn i (hornK k row j) : Int) * 2) = ((2 * xtn i (hornK k row j) : Nat) : Int) := by omega
        refine ⟨fun hgt => ?_, fun hng => ?_⟩
        · have hgt : 2 * xtn i (hornK k row j) > 255 := by simp at hgt; omega
          refine ⟨_, rfl, ?_⟩
          rw [e2, show (285 : Int) = ((285 : Nat) : Int) from rfl]
          simp only [inW, bitXor_nat]
          refine ⟨_, _, ?_, .refl, hli, rfl, rfl⟩
          intro t w hw
          match t, hw with
          | 0, hw => exact hw
          | 1, hw => exact hw
          | 2, hw => exact hw
          | 3, hw => exact hw
          | 4, hw => simp [xtn, xt, hgt] at hw; simp [hw]
          | 5, hw => exact hw
          | 6, hw => simp at hw
          | t + 7, hw => simp at hw
        · have hng : ¬ 2 * xtn i (hornK k row j) > 255 := by simp at hng; omega
          refine ⟨_, _, ?_, .refl, hli, rfl, rfl⟩
          intro t w hw
          match t, hw with
          | 0, hw => exact hw
          | 1, hw => exact hw
          | 2, hw => exact hw
          | 3, hw => exact hw
          | 4, hw => simp [xtn, xt, hng] at hw; simp [← hw]; omega
          | 5, hw => exact hw
          | 6, hw => simp at hw
          | t + 7, hw => simp at hw
      · have : i = k := by omega
        subst this
        simp only [m_sumsB2, wpSs, wpS, wpE]
        refine ⟨_, rfl, _, rfl, ?_⟩
        simp only [inW, bitXor_nat]
        refine ⟨_, _, ?_, .refl, hlj, rfl, rfl⟩
        rw [hornK_succ hxj]
        intro t w hw
        match t, hw with
        | 0, hw => exact hw
        | 1, hw => exact hw
        | 2, hw => exact hw
        | 3, hw => exact hw
        | 4, hw => exact hw
        | 5, hw => simp at hw
        | 6, hw => simp at hw
        | t + 7, hw => simp at hw
    · have hje : j = row.length := by rw [ns_length] at hge; omega
      subst hje
      simp only [m_sumsC, wpSs, wpS, wpE, wpEs]
      refine ⟨_, rfl, .builtin "list.append", true, methR_list (LAt.led mem1) Papp type_list_append, _, rfl, keeps_builtin, callW_append .here (by rw [ns_length]; simp [sumsL]; omega) ⟨rfl, ?_⟩⟩
      refine ⟨_, _, ?_, .refl, hlt, rfl, ?_⟩
      · intro t w hw
        match t, hw with
        | 0, hw => exact hw
        | 1, hw => exact hw
        | 2, hw => exact hw
        | 3, hw => simp at hw
        | 4, hw => simp at hw
        | 5, hw => simp at hw
        | 6, hw => simp at hw
        | t + 7, hw => simp at hw
      · unfold sumsL
        rw [List.range_succ, List.map_append]
        simp [ns, hornK, List.take_of_length_le]
  · have : k = count := by omega
    subst this
    simp only [m_sums4, wpSs, wpS, wpE]
    exact ⟨_, rfl, _, .refl, q sm⟩
end Mine


open PySem PySem.W PyProof.Rows PySem.Calls PySem.SeqAt
set_option Elab.async false
set_option maxRecDepth 100000
set_option linter.unusedVariables false
set_option linter.unusedSimpArgs false
namespace Mine
variable {X : Cx} {n : Nat} {Γ : Led} {Q : V → Led → Prop}

def m_minor : MSs := (.cons (.ret (.bin .BitXor (.call (.val (.ref 320)) (.cons (.sub (.sub (.loc 0) (.loc 1)) (.loc 3)) (.cons (.sub (.sub (.loc 0) (.loc 2)) (.loc 4)) .nil))) (.call (.val (.ref 320)) (.cons (.sub (.sub (.loc 0) (.loc 1)) (.loc 4)) (.cons (.sub (.sub (.loc 0) (.loc 2)) (.loc 3)) .nil))))) .nil)
theorem cell_spec {tb ri : Addr} {rows : List Addr} {row : List Nat} {i p v : Nat} (ht : (tb, O.list (rows.map .ref)) ∈ Γ) (hi : rows[i]? = some ri) (hr : (ri, O.list (ns row)) ∈ Γ) (hv : row[p]? = some v) (h1 : i < 1000) (h2 : p < 1000) {K : V → Led → Prop} (q : K (.int v) Γ) :
    subW X n (.ref tb) (.int i) Γ fun o Γ => ∃ w, w = .int (p : Int) ∧ subW X n o w Γ K := by
  refine subW_list isRef (LI.led ht) (getW_list isRef (LI.led ht) (by omega) (by omega) (x := .ref ri) (by rw [Int.toNat_natCast, List.getElem?_map, hi]; rfl) ⟨_, rfl, ?_⟩)
  exact subW_list isRef (LI.led hr) (getW_list isRef (LI.led hr) (by omega) (by omega) (by rw [Int.toNat_natCast]; exact ns_get hv) q)
theorem minor_spec (P : PolyF X) {A : Addr} (hT : FnIs X 320 2 [some 0, some 1] m_times) (h : FnIs X A 5 [some 0, some 1, some 2, some 3, some 4] m_minor) {tb ri rj : Addr} {rows : List Addr} {rowi rowj : List Nat} {i j p q aip aiq ajp ajq : Nat}
    (ht : (tb, O.list (rows.map .ref)) ∈ Γ) (hi : rows[i]? = some ri) (hj : rows[j]? = some rj) (hri : (ri, O.list (ns rowi)) ∈ Γ) (hrj : (rj, O.list (ns rowj)) ∈ Γ) (e1 : rowi[p]? = some aip) (e2 : rowi[q]? = some aiq) (e3 : rowj[p]? = some ajp) (e4 : rowj[q]? = some ajq)
    (b : i < 1000 ∧ j < 1000 ∧ p < 1000 ∧ q < 1000) (o1 : oct rowi) (o2 : oct rowj) (qq : Q (.int (mul aip ajq ^^^ mul aiq ajp : Nat)) Γ) :
    keepsW X (.val (.ref A)) ∧ callW X (n + 3) (.val (.ref A)) [.ref tb, .int i, .int j, .int p, .int q] Γ Q := by
  refine h.w (n := n + 2) rfl ?_
  have c1 := o1 aip (List.mem_of_getElem? e1)
  have c2 := o1 aiq (List.mem_of_getElem? e2)
  have c3 := o2 ajp (List.mem_of_getElem? e3)
  have c4 := o2 ajq (List.mem_of_getElem? e4)
  have g := fun {i p v : Nat} {ri : Addr} {row : List Nat} (hi : rows[i]? = some ri) (hr : (ri, O.list (ns row)) ∈ Γ) (hv : row[p]? = some v) (h1 : i < 1000) (h2 : p < 1000) {K : V → Led → Prop} (q : K (.int v) Γ) => cell_spec (X := X) (n := n + 2) ht hi hr hv h1 h2 q
  simp only [m_minor, wpSs, wpS, wpE, wpEs]
  have step : ∀ {i p v : Nat} {ri : Addr} {row : List Nat} (hi : rows[i]? = some ri) (hr : (ri, O.list (ns row)) ∈ Γ) (hv : row[p]? = some v) (h1 : i < 1000) (h2 : p < 1000) {K : V → Led → Prop} (q : K (.int v) Γ),
      subW X (n + 2) (.ref tb) (.int i) Γ fun o Γ => subW X (n + 2) o (.int p) Γ K := by
    intro i p v ri row hi hr hv h1 h2 K q
    refine subW_list isRef (LI.led ht) (getW_list isRef (LI.led ht) (by omega) (by omega) (x := .ref ri) (by rw [Int.toNat_natCast, List.getElem?_map, hi]; rfl) ?_)
    exact subW_list isRef (LI.led hr) (getW_list isRef (LI.led hr) (by omega) (by omega) (by rw [Int.toNat_natCast]; exact ns_get hv) q)
  have row_ : ∀ {i : Nat} {ri : Addr} {row : List Nat} (hi : rows[i]? = some ri) (hr : (ri, O.list (ns row)) ∈ Γ) (h1 : i < 1000) {K : V → Led → Prop} (q : K (.ref ri) Γ), subW X (n + 2) (.ref tb) (.int i) Γ K := by
    intro i ri row hi hr h1 K q
    exact subW_list isRef (LI.led ht) (getW_list isRef (LI.led ht) (by omega) (by omega) (x := .ref ri) (by rw [Int.toNat_natCast, List.getElem?_map, hi]; rfl) q)
  have it_ : ∀ {p v : Nat} {ri : Addr} {row : List Nat} (hr : (ri, O.list (ns row)) ∈ Γ) (hv : row[p]? = some v) (h2 : p < 1000) {K : V → Led → Prop} (q : K (.int v) Γ), subW X (n + 2) (.ref ri) (.int p) Γ K := by
    intro p v ri row hr hv h2 K q
    exact subW_list isRef (LI.led hr) (getW_list isRef (LI.led hr) (by omega) (by omega) (by rw [Int.toNat_natCast]; exact ns_get hv) q)
  refine ⟨_, rfl, _, rfl, row_ hi hri b.1 ⟨_, rfl, it_ hri e1 b.2.2.1 ⟨_, rfl, _, rfl, row_ hj hrj b.2.1 ⟨_, rfl, it_ hrj e4 b.2.2.2 (times_spec P hT c1 c4 ?_)⟩⟩⟩⟩
  refine ⟨_, rfl, _, rfl, row_ hi hri b.1 ⟨_, rfl, it_ hri e2 b.2.2.2 ⟨_, rfl, _, rfl, row_ hj hrj b.2.1 ⟨_, rfl, it_ hrj e3 b.2.2.1 (times_spec P hT c2 c3 ?_)⟩⟩⟩⟩
  simp only [binW, bitXor_nat]
  exact ⟨Γ, .refl, qq⟩

def m_dealt5 : MSs := (.cons (.ret (.loc 4)) .nil)
def m_dealt4 : MSs := (.cons (.ite (.or (.cmp .NotEq (.attr (.loc 2) 1) (.loc 0)) (.or (.cmp .NotEq (.call (.val (.builtin "len")) (.cons (.loc 2) .nil)) (.bin .Mult (.int 8) (.call (.val (.builtin "len")) (.cons (.loc 0) .nil)))) .ff)) (.cons (.ret (.list .nil)) .nil) .nil) m_dealt5)
def m_dealt3 : MSs := (.cons (.asg 4 (.call (.val (.ref 306)) (.cons (.loc 2) (.cons (.loc 1) .nil)))) m_dealt4)
def m_dealt2 : MSs := (.cons (.loop (.loc 3) (.over (.loc 0)) (.cons (.expr (.meth (.loc 2) 8 (.cons (.loc 3) (.cons (.int 8) .nil)))) .nil)) m_dealt3)
def m_dealt : MSs := (.cons (.asg 2 (.call (.val (.ref 297)) .nil)) m_dealt2)
theorem dealt_spec (P : CbF X) {A : Addr} (h : FnIs X A 2 [some 0, some 1, none, none, none] m_dealt) {N2 : Nat} {o bl : Addr} {bytes g : List Nat} {rbs : List Addr} {m e f : Nat} (hN : N2 + 2 = n + 3 + f) (ho : (o, O.list (ns bytes)) ∈ Γ) (hbl : (bl, O.list (rbs.map .ref)) ∈ Γ)
    (hrbs : ∀ rb ∈ rbs, ∃ dr, (rb, O.sub 244 dr [.int ((m : Int) + e), .int m]) ∈ Γ) (hoct : oct bytes) (hlen : bytes.length = rbs.length * m) (hk1 : 1 ≤ rbs.length) (hk : rbs.length ≤ 10) (hm : 1 ≤ m) (hm2 : m ≤ 20) (he : e ≤ 20)
    (hrs : RsOk X (N2 + 2) e g) (hg : pos g) (hg2 : 2 ≤ g.length) (hg3 : g.length ≤ 100)
    (hgood : ∀ t < rbs.length, Good f (strip (chunk bytes m t) ++ List.replicate (g.length - 1) 0) g ∧ (pmodF f (strip (chunk bytes m t) ++ List.replicate (g.length - 1) 0) g).length ≤ 1000)
    (q : ∀ r, Q (.ref r) ((r, O.list (ns (outOf bytes g rbs.length m e f))) :: Γ)) : keepsW X (.val (.ref A)) ∧ callW X (N2 + 4) (.val (.ref A)) [.ref o, .ref bl] Γ Q := by
  refine h.w (n := N2 + 3) rfl ?_
  have hb2 : bytes.length ≤ 200 := by rw [hlen]; exact Nat.le_trans (Nat.mul_le_mul hk hm2) (by decide)
  simp only [m_dealt, wpSs, wpS, wpE, wpEs]
  refine buf_make P.buf (n := N2 + 1) fun a d l => ?_
  simp only [m_dealt2, wpSs, wpS, wpE, wpEs, wpI]
  refine ⟨.ref o, rfl, o, rfl, .inl ⟨_, .tail _ (.tail _ ho), ?_⟩⟩
  refine ⟨bytes.length, fun k loc Γ' => k ≤ bytes.length ∧ loc = [some (.ref o), some (.ref bl), some (.ref a), none, none] ∧ Γ' = (a, bufO d l (8 * (bytes.take k).length)) :: (l, O.list (ns (bytes.take k))) :: Γ, ⟨Nat.zero_le _, rfl, rfl⟩, ?_⟩
  rintro k loc Γ' ⟨hk', rfl, rfl⟩
  refine ⟨hk', _, .tail _ (.tail _ ho), fun v hv => ?_, fun hge => ?_⟩
  · obtain ⟨x, hxk, rfl⟩ := ns_get' hv
    have hlt : k < bytes.length := (List.getElem?_eq_some_iff.mp hxk).1
    have hx2 := hoct x (List.mem_of_getElem? hxk)
    show ∃ v, _ ∧ _
    refine ⟨.ref a, rfl, .ref 280, true, methR_inst P.buf.nd P.buf.cls P.buf.put mem1 rfl, .int x, rfl, put_spec P.buf (n := N2 + 1) hx2 (by simp; omega) ⟨rfl, ?_⟩⟩
    refine ⟨_, _, ?_, .refl, hlt, rfl, ?_⟩
    · intro i w hw
      match i, hw with
      | 0, hw => exact hw
      | 1, hw => exact hw
      | 2, hw => exact hw
      | 3, hw => simp at hw
      | 4, hw => simp at hw
      | i + 5, hw => simp at hw
    · rw [List.take_add_one, hxk]
      simp
  · have hke : k = bytes.length := by rw [ns_length] at hge; omega
    subst hke
    rw [List.take_of_length_le (Nat.le_refl _)]
    simp only [m_dealt3, wpSs, wpS, wpE, wpEs]
    refine ⟨.ref a, rfl, .ref bl, rfl, create_spec P (n := n) hN mem1 mem2 (.tail _ (.tail _ hbl)) (fun rb hr => ?_) hoct hlen hk1 hk hm hm2 he hrs hg hg2 hg3 hgood fun r => ?_⟩
    · obtain ⟨dr, hdr⟩ := hrbs rb hr
      exact ⟨dr, .tail _ (.tail _ hdr)⟩
    simp only [m_dealt4, wpSs, wpS, wpE, wpEs, wpT]
    refine ⟨.ref a, rfl, buf_attr P.buf mem2 ⟨.ref o, rfl, ?_⟩⟩
    show cmpS X _ .NotEq _ _ _ _
    refine cmp_lists (.inr ⟨rfl, rfl⟩) isRef isRef (is := bytes.map fun a : Nat => (a : Int)) (js := bytes.map fun a : Nat => (a : Int)) (by rw [← ns_ints]; exact LI.led mem3) (by rw [← ns_ints]; exact LI.led (.tail _ (.tail _ (.tail _ ho)))) ?_
    simp only [truthW]
    refine ⟨fun h => by simp at h, fun _ => ⟨.ref a, rfl, keeps_builtin, buf_len P.buf mem2 (by omega) ⟨.ref o, rfl, keeps_builtin, callW_len_list isRef (LI.led (.tail _ (.tail _ (.tail _ ho)))) (by rw [ns_length]; omega) ?_⟩⟩⟩
    simp only [binW, cmpW, truthW]
    rw [ns_length]
    refine ⟨.inl ⟨by decide, by decide⟩, ?_⟩
    refine ⟨fun h => by simp at h, fun _ => ⟨fun h => by simp at h, fun _ => ?_⟩⟩
    simp only [m_dealt5, wpSs, wpS, wpE]
    exact ⟨_, rfl, _, .cons .here (.tail (.tail .refl)), q r⟩
end Mine


open PySem PySem.W PyProof.Rows PySem.Calls PySem.SeqAt
set_option Elab.async false
set_option maxRecDepth 100000
set_option linter.unusedVariables false
set_option linter.unusedSimpArgs false
namespace Mine

/-! ## the field's laws -/
theorem xor_lc (a b c : Nat) : a ^^^ (b ^^^ c) = b ^^^ (a ^^^ c) := by rw [← Nat.xor_assoc, Nat.xor_comm a b, Nat.xor_assoc]
theorem xor_cc (a b : Nat) : a ^^^ (a ^^^ b) = b := by rw [← Nat.xor_assoc, Nat.xor_self, Nat.zero_xor]
theorem E_facts {k : Nat} (h : k < 255) : E k < 256 ∧ 0 < E k ∧ L (E k) = k ∧ E (k + 1) = xt (E k) := by
  have := List.all_eq_true.mp fact_E k (List.mem_range.mpr h)
  simp only [Bool.and_eq_true, decide_eq_true_eq] at this
  exact ⟨this.1.1.1, this.1.1.2, this.1.2, this.2⟩
theorem E_lt (k : Nat) : E k < 256 := by rw [E_period]; exact (E_facts (Nat.mod_lt _ (by decide))).1
theorem E_pos (k : Nat) : 0 < E k := by rw [E_period]; exact (E_facts (Nat.mod_lt _ (by decide))).2.1
theorem L_E (k : Nat) : L (E k) = k % 255 := by rw [E_period]; exact (E_facts (Nat.mod_lt _ (by decide))).2.2.1
theorem E_succ (k : Nat) : E (k + 1) = xt (E k) := by
  have h := (E_facts (Nat.mod_lt k (show 0 < 255 by decide))).2.2.2
  rw [E_period k, ← h, E_period (k + 1), E_period (k % 255 + 1)]
  congr 1
  omega
theorem E_L {a : Nat} (h0 : a ≠ 0) (h : a < 256) : E (L a) = a := by
  have := List.all_eq_true.mp fact_L a (List.mem_range.mpr h)
  simp only [Bool.or_eq_true, beq_iff_eq, Bool.and_eq_true, decide_eq_true_eq] at this
  rcases this with z | z
  · exact absurd z h0
  · exact z.2
theorem mul_lt (a b : Nat) : mul a b < 256 := by
  unfold mul; split
  · decide
  · exact E_lt _
theorem mul_nz {a b : Nat} (ha : a ≠ 0) (hb : b ≠ 0) : mul a b = E (L a + L b) := by unfold mul; rw [if_neg (by omega)]
theorem mul_ne {a b : Nat} (ha : a ≠ 0) (hb : b ≠ 0) : mul a b ≠ 0 := by rw [mul_nz ha hb]; exact Nat.ne_of_gt (E_pos _)
theorem mul_zero (a : Nat) : mul a 0 = 0 := by unfold mul; rw [if_pos (.inr rfl)]
theorem zero_mul (a : Nat) : mul 0 a = 0 := by unfold mul; rw [if_pos (.inl rfl)]
theorem mul_comm (a b : Nat) : mul a b = mul b a := by
  unfold mul
  by_cases h : a = 0 ∨ b = 0
  · rw [if_pos h, if_pos h.symm]
  · rw [if_neg h, if_neg fun z => h z.symm, Nat.add_comm]
theorem mul_assoc (a b c : Nat) : mul (mul a b) c = mul a (mul b c) := by
  by_cases ha : a = 0
  · subst ha; simp only [zero_mul]
  by_cases hb : b = 0
  · subst hb; simp only [mul_zero, zero_mul]
  by_cases hc : c = 0
  · subst hc; simp only [mul_zero]
  rw [mul_nz (mul_ne ha hb) hc, mul_nz ha (mul_ne hb hc), mul_nz ha hb, mul_nz hb hc, L_E, L_E, E_period, E_period (L a + (L b + L c) % 255)]
  congr 1
  omega
theorem one_mul {a : Nat} (h : a < 256) : mul 1 a = a := by
  by_cases h0 : a = 0
  · subst h0; rw [mul_zero]
  · have h1 : L 1 = 0 := by decide +kernel
    rw [mul_nz (by decide) h0, h1, Nat.zero_add, E_L h0 h]
theorem mul_one {a : Nat} (h : a < 256) : mul a 1 = a := by rw [mul_comm, one_mul h]
theorem two_xor (a b : Nat) : 2 * (a ^^^ b) = 2 * a ^^^ 2 * b := by
  have := Nat.shiftLeft_xor_distrib (a := a) (b := b) (i := 1)
  simp only [Nat.shiftLeft_eq, Nat.pow_one] at this
  rw [Nat.mul_comm 2, Nat.mul_comm 2 a, Nat.mul_comm 2 b]
  exact this
theorem xt_eq {a : Nat} (h : a < 256) : xt a = 2 * a ^^^ (if a / 128 = 1 then 285 else 0) := by
  unfold xt
  by_cases c : 2 * a > 255
  · rw [if_pos c, if_pos (by omega)]
  · rw [if_neg c, if_neg (by omega), Nat.xor_zero]
theorem xt_xor {a b : Nat} (ha : a < 256) (hb : b < 256) : xt (a ^^^ b) = xt a ^^^ xt b := by
  have hx := xor_lt ha hb
  rw [xt_eq ha, xt_eq hb, xt_eq hx, two_xor]
  have e : (a ^^^ b) / 128 = a / 128 ^^^ b / 128 := by
    have := Nat.xor_div_two_pow (a := a) (b := b) (n := 7)
    simpa using this
  rw [e]
  have ha' : a / 128 = 0 ∨ a / 128 = 1 := by omega
  have hb' : b / 128 = 0 ∨ b / 128 = 1 := by omega
  rcases ha' with h1 | h1 <;> rcases hb' with h2 | h2 <;> rw [h1, h2] <;> simp [Nat.xor_assoc, Nat.xor_comm, xor_lc, xor_cc]
theorem xtn_xor {a b : Nat} (ha : a < 256) (hb : b < 256) : ∀ k, xtn k (a ^^^ b) = xtn k a ^^^ xtn k b
  | 0 => rfl
  | k + 1 => by
    show xt (xtn k (a ^^^ b)) = xt (xtn k a) ^^^ xt (xtn k b)
    rw [xtn_xor ha hb k, xt_xor (xtn_lt ha k) (xtn_lt hb k)]
theorem xt_mul {a b : Nat} (ha : a < 256) (hb : b < 256) : xt (mul a b) = mul (xt a) b := by
  by_cases h0 : a = 0
  · subst h0; rw [zero_mul]; show 0 = mul (xt 0) b; rw [show xt 0 = 0 from rfl, zero_mul]
  by_cases h1 : b = 0
  · subst h1; rw [mul_zero, mul_zero]; rfl
  have hx : xt a = E (L a + 1) := by rw [E_succ, E_L h0 ha]
  rw [mul_nz h0 h1, ← E_succ, hx, mul_nz (Nat.ne_of_gt (E_pos _)) h1, L_E, E_period, E_period ((L a + 1) % 255 + L b)]
  congr 1
  omega
theorem mul_E {b : Nat} (hb : b < 256) : ∀ k, mul (E k) b = xtn k b
  | 0 => by rw [show E 0 = 1 from by decide +kernel, one_mul hb]; rfl
  | k + 1 => by rw [E_succ, ← xt_mul (E_lt k) hb, mul_E hb k]; rfl
theorem mul_xor {a b c : Nat} (ha : a < 256) (hb : b < 256) (hc : c < 256) : mul a (b ^^^ c) = mul a b ^^^ mul a c := by
  by_cases h0 : a = 0
  · subst h0; simp [zero_mul]
  · rw [← E_L h0 ha, mul_E (xor_lt hb hc), mul_E hb, mul_E hc, xtn_xor hb hc]
theorem xor_mul {a b c : Nat} (ha : a < 256) (hb : b < 256) (hc : c < 256) : mul (a ^^^ b) c = mul a c ^^^ mul b c := by
  rw [mul_comm, mul_xor hc ha hb, mul_comm c a, mul_comm c b]
theorem xtn_mul {a b : Nat} (ha : a < 256) (hb : b < 256) : ∀ k, xtn k (mul a b) = mul (xtn k a) b
  | 0 => rfl
  | k + 1 => by show xt (xtn k (mul a b)) = mul (xt (xtn k a)) b; rw [xtn_mul ha hb k, xt_mul (xtn_lt ha k) hb]
theorem xor_self_cancel {a b : Nat} (h : a ^^^ b = 0) : a = b := by
  have := congrArg (· ^^^ b) h
  simpa [Nat.xor_assoc] using this
end Mine


open PySem PySem.W PyProof.Rows PySem.Calls PySem.SeqAt
set_option Elab.async false
set_option maxRecDepth 100000
set_option linter.unusedVariables false
set_option linter.unusedSimpArgs false
namespace Mine

/-! ## the long division -/
def redu (g' : List Nat) (h : Nat) (t : List Nat) : List Nat := List.zipWith (fun a b => a ^^^ mul b h) t g' ++ t.drop g'.length
def lrem (g' : List Nat) : Nat → List Nat → List Nat
  | 0, xs => xs
  | _ + 1, [] => []
  | k + 1, h :: t => lrem g' k (redu g' h t)
theorem redu_length {g' : List Nat} {h : Nat} {t : List Nat} (hl : g'.length ≤ t.length) : (redu g' h t).length = t.length := by
  unfold redu; simp; omega
theorem redu_oct {g' : List Nat} {h : Nat} {t : List Nat} (ht : oct t) : oct (redu g' h t) := by
  intro v hv
  unfold redu at hv
  rcases List.mem_append.mp hv with hv | hv
  · obtain ⟨i, hi⟩ := List.mem_iff_getElem?.mp hv
    rw [List.getElem?_zipWith] at hi
    cases h1 : t[i]? with
    | none => rw [h1] at hi; cases hi
    | some a =>
      cases h2 : g'[i]? with
      | none => rw [h1, h2] at hi; cases hi
      | some b =>
        rw [h1, h2] at hi
        cases hi
        exact xor_lt (ht a (List.mem_of_getElem? h1)) (mul_lt _ _)
  · exact ht v (List.mem_of_mem_drop hv)
theorem zipWith_zero : ∀ (t g' : List Nat), g'.length ≤ t.length → List.zipWith (fun a b => a ^^^ mul b 0) t g' = t.take g'.length
  | _, [], _ => by simp
  | [], b :: g', h => by simp at h
  | a :: t, b :: g', h => by
    rw [List.zipWith_cons_cons, zipWith_zero t g' (by simpa using h), mul_zero, Nat.xor_zero]
    simp
theorem redu_zero {g' t : List Nat} (h : g'.length ≤ t.length) : redu g' 0 t = t := by
  unfold redu
  rw [zipWith_zero t g' h, List.take_append_drop]
theorem padL_self {e : Nat} {r : List Nat} (h : r.length = e) : padL e r = r := by
  refine List.ext_getElem (by rw [padL_length, h]) fun i h1 h2 => ?_
  have := padL_get (e := e) (r := r) (i := i) (by omega)
  rw [if_pos (by omega)] at this
  have e1 : i + r.length - e = i := by omega
  rw [e1, List.getElem?_eq_getElem h1] at this
  have g := Option.some.inj this
  rw [g, List.getD_eq_getElem?_getD, List.getElem?_eq_getElem h2]; rfl
theorem padL_strip {e : Nat} : ∀ {r : List Nat}, r.length ≤ e → padL e (strip r) = padL e r
  | [], _ => rfl
  | [a], _ => rfl
  | a :: b :: r, h => by
    unfold strip
    by_cases ha : a = 0
    · rw [if_pos ha]
      subst ha
      have ih : padL e (strip (b :: r)) = padL e (b :: r) := padL_strip (by simp at h ⊢; omega)
      rw [ih]
      refine List.ext_getElem? fun i => ?_
      by_cases hi : i < e
      · rw [padL_get hi, padL_get hi]
        simp only [List.length_cons] at h ⊢
        by_cases c1 : e ≤ i + (r.length + 1)
        · have c2 : e ≤ i + (r.length + 1 + 1) := by omega
          rw [if_pos c1, if_pos c2]
          have : i + (r.length + 1 + 1) - e = (i + (r.length + 1) - e) + 1 := by omega
          rw [this, List.getD_cons_succ]
        · rw [if_neg c1]
          by_cases c2 : e ≤ i + (r.length + 1 + 1)
          · rw [if_pos c2]
            have : i + (r.length + 1 + 1) - e = 0 := by omega
            rw [this]; rfl
          · rw [if_neg c2]
      · rw [List.getElem?_eq_none (by rw [padL_length]; omega), List.getElem?_eq_none (by rw [padL_length]; omega)]
    · rw [if_neg ha]
theorem strip_head {h : Nat} {t : List Nat} (hh : h ≠ 0) : strip (h :: t) = h :: t := by
  cases t with
  | nil => rfl
  | cons b r => unfold strip; rw [if_neg hh]
theorem strip_zero {t : List Nat} (ht : t ≠ []) : strip (0 :: t) = strip t := by
  cases t with
  | nil => exact absurd rfl ht
  | cons b r => rw [strip]; simp
theorem L_one : L 1 = 0 := by decide +kernel
theorem pstep_cons {h : Nat} {t g' : List Nat} (h0 : h ≠ 0) (h1 : h < 256) (hg : pos g') : pstep (h :: t) (1 :: g') = 0 :: redu g' h t := by
  have z : ∀ (t g' : List Nat), pos g' → List.zipWith (fun x y => x ^^^ EI ((L y : Int) + ((L h : Int) - (L 1 : Int)))) t g' = List.zipWith (fun a b => a ^^^ mul b h) t g' := by
    intro t g' hg
    induction t generalizing g' with
    | nil => simp
    | cons a t ih =>
      cases g' with
      | nil => simp
      | cons b g' =>
        have hb := hg b List.mem_cons_self
        rw [List.zipWith_cons_cons, List.zipWith_cons_cons, ih g' fun v hv => hg v (List.mem_cons_of_mem _ hv), L_one]
        have e : ((L b : Int) + ((L h : Int) - ((0 : Nat) : Int))) = ((L b + L h : Nat) : Int) := by omega
        rw [e, EI_nat, ← mul_nz (by omega) h0]
  unfold pstep zipL redu
  simp only [List.headD_cons, List.zipWith_cons_cons, List.length_cons, List.drop_succ_cons, List.cons_append]
  rw [z t g' hg, L_one]
  have e : ((0 : Nat) : Int) + ((L h : Int) - ((0 : Nat) : Int)) = (L h : Int) := by omega
  rw [e, EI_nat, E_L h0 h1, Nat.xor_self]
theorem divide {g' : List Nat} (hg : pos g') (he : 1 ≤ g'.length) : ∀ (N : Nat) (xs : List Nat) (f : Nat), xs.length = N → oct xs → xs ≠ [] → xs.length ≤ f →
    Good f (strip xs) (1 :: g') ∧ (pmodF f (strip xs) (1 :: g')).length ≤ xs.length ∧ padL g'.length (pmodF f (strip xs) (1 :: g')) = if g'.length ≤ xs.length then lrem g' (xs.length - g'.length) xs else padL g'.length xs := by
  intro N
  induction N with
  | zero => intro xs f hN _ hne _; exact absurd (List.length_eq_zero_iff.mp hN) hne
  | succ N ih =>
    intro xs f hN ho hne hf
    obtain ⟨f, rfl⟩ : ∃ f', f = f' + 1 := ⟨f - 1, by omega⟩
    have sl := strip_length xs
    by_cases hs : xs.length ≤ g'.length
    · have hlt : (strip xs).length < (1 :: g').length := by simp; omega
      have hp : pmodF (f + 1) (strip xs) (1 :: g') = strip xs := by rw [pmodF, if_pos hlt]
      refine ⟨.inl hlt, by rw [hp]; exact sl, ?_⟩
      rw [hp, padL_strip hs]
      by_cases hq : g'.length ≤ xs.length
      · rw [if_pos hq, show xs.length - g'.length = 0 by omega, lrem, padL_self (by omega)]
      · rw [if_neg hq]
    · cases xs with
      | nil => exact absurd rfl hne
      | cons h t =>
        simp only [List.length_cons] at hN hf hs sl
        have htl : g'.length ≤ t.length := by omega
        have htn : t ≠ [] := List.ne_nil_of_length_pos (by omega)
        have hot : oct t := fun v hv => ho v (List.mem_cons_of_mem _ hv)
        have hk : (h :: t).length - g'.length = (t.length - g'.length) + 1 := by simp; omega
        by_cases h0 : h = 0
        · subst h0
          obtain ⟨i1, i2, i3⟩ := ih t (f + 1) (by omega) hot htn (by omega)
          rw [strip_zero htn]
          refine ⟨i1, by simp; omega, ?_⟩
          rw [i3, if_pos htl, if_pos (by simp; omega), hk, lrem, redu_zero htl]
        · have h1 := ho h List.mem_cons_self
          have hrl := redu_length (h := h) htl
          have hrn : redu g' h t ≠ [] := List.ne_nil_of_length_pos (by omega)
          obtain ⟨i1, i2, i3⟩ := ih (redu g' h t) f (by omega) (redu_oct hot) hrn (by omega)
          rw [strip_head h0]
          have hst : strip (pstep (h :: t) (1 :: g')) = strip (redu g' h t) := by rw [pstep_cons h0 h1 hg, strip_zero hrn]
          have hp : pmodF (f + 1) (h :: t) (1 :: g') = pmodF f (strip (redu g' h t)) (1 :: g') := by
            rw [pmodF, if_neg (by simp; omega), hst]
          refine ⟨.inr ⟨⟨h, rfl, by omega, h1⟩, by rw [hst]; exact i1⟩, by rw [hp]; simp; omega, ?_⟩
          rw [hp, i3, if_pos (by omega), if_pos (by simp; omega), hk, lrem, hrl]
theorem strip_app : ∀ {l : List Nat} {s : Nat}, (∃ v ∈ l, v ≠ 0) → strip l ++ List.replicate s 0 = strip (l ++ List.replicate s 0)
  | [], _, h => by obtain ⟨v, hv, _⟩ := h; cases hv
  | [a], s, h => by
    obtain ⟨v, hv, hne⟩ := h
    have : v = a := by simpa using hv
    subst this
    show [v] ++ List.replicate s 0 = strip (v :: List.replicate s 0)
    rw [strip_head hne]; rfl
  | a :: b :: r, s, h => by
    by_cases ha : a = 0
    · subst ha
      rw [strip_zero (by simp), List.cons_append, strip_zero (by simp)]
      refine strip_app ?_
      obtain ⟨v, hv, hne⟩ := h
      rcases List.mem_cons.mp hv with rfl | hv
      · exact absurd rfl hne
      · exact ⟨v, hv, hne⟩
    · rw [strip_head ha, List.cons_append, strip_head ha]
/-- the checks of a block -/
theorem block {g' data : List Nat} {f : Nat} (hg : pos g') (he : 1 ≤ g'.length) (ho : oct data) (hn : ∃ v ∈ data, v ≠ 0) (hf : data.length + g'.length ≤ f) :
    Good f (strip data ++ List.replicate ((1 :: g').length - 1) 0) (1 :: g') ∧ (pmodF f (strip data ++ List.replicate ((1 :: g').length - 1) 0) (1 :: g')).length ≤ data.length + g'.length ∧
    padL g'.length (pmodF f (strip data ++ List.replicate ((1 :: g').length - 1) 0) (1 :: g')) = lrem g' data.length (data ++ List.replicate g'.length 0) := by
  have e1 : (1 :: g').length - 1 = g'.length := by simp
  rw [e1, strip_app hn]
  have hol : oct (data ++ List.replicate g'.length 0) := by
    intro v hv
    rcases List.mem_append.mp hv with hv | hv
    · exact ho v hv
    · rw [List.eq_of_mem_replicate hv]; decide
  have hl : (data ++ List.replicate g'.length 0).length = data.length + g'.length := by simp
  obtain ⟨i1, i2, i3⟩ := divide hg he _ (data ++ List.replicate g'.length 0) f rfl hol (fun z => by
    obtain ⟨v, hv, _⟩ := hn
    have := List.append_eq_nil_iff.mp z
    rw [this.1] at hv; cases hv) (by omega)
  refine ⟨i1, by omega, ?_⟩
  rw [i3, if_pos (by omega), hl, Nat.add_sub_cancel]
end Mine


open PySem PySem.W PyProof.Rows PySem.Calls PySem.SeqAt
set_option Elab.async false
set_option maxRecDepth 100000
set_option linter.unusedVariables false
set_option linter.unusedSimpArgs false
namespace Mine

/-! ## tables -/
theorem fm_congr {α β : Type} {l : List α} {f g : α → List β} (h : ∀ x ∈ l, f x = g x) : l.flatMap f = l.flatMap g := by
  induction l with
  | nil => rfl
  | cons x l ih => rw [List.flatMap_cons, List.flatMap_cons, h x List.mem_cons_self, ih fun y hy => h y (List.mem_cons_of_mem _ hy)]
theorem fim_congr {α β : Type} {l : List α} {f g : α → Option β} (h : ∀ x ∈ l, f x = g x) : l.filterMap f = l.filterMap g := by
  induction l with
  | nil => rfl
  | cons x l ih => rw [List.filterMap_cons, List.filterMap_cons, h x List.mem_cons_self, ih fun y hy => h y (List.mem_cons_of_mem _ hy)]
def tab (h w : Nat) (T : Nat → Nat → Nat) : List Nat := (List.range h).flatMap fun i => (List.range w).map (T i)
theorem tab_succ {h w : Nat} {T : Nat → Nat → Nat} : tab (h + 1) w T = tab h w T ++ (List.range w).map (T h) := by
  unfold tab; rw [List.range_succ, List.flatMap_append]; simp
theorem tab_length {w : Nat} {T : Nat → Nat → Nat} : ∀ h, (tab h w T).length = h * w
  | 0 => by simp [tab]
  | h + 1 => by rw [tab_succ, List.length_append, tab_length h]; simp [Nat.succ_mul]
theorem tab_get {w : Nat} {T : Nat → Nat → Nat} : ∀ {h i p : Nat}, i < h → p < w → (tab h w T)[i * w + p]? = some (T i p)
  | h + 1, i, p, hi, hp => by
    rw [tab_succ]
    by_cases e : i < h
    · have : i * w + p < h * w := by
        have h1 : (i + 1) * w ≤ h * w := Nat.mul_le_mul_right w e
        rw [Nat.succ_mul] at h1; omega
      rw [List.getElem?_append_left (by rw [tab_length]; exact this)]
      exact tab_get e hp
    · have : i = h := by omega
      subst this
      rw [List.getElem?_append_right (by rw [tab_length]; omega), tab_length]
      have e2 : i * w + p - i * w = p := by omega
      rw [e2, List.getElem?_map, List.getElem?_range hp]; rfl
theorem tab_oct {h w : Nat} {T : Nat → Nat → Nat} (ht : ∀ i < h, ∀ p < w, T i p < 256) : oct (tab h w T) := by
  intro v hv
  unfold tab at hv
  obtain ⟨i, hi, hv⟩ := List.mem_flatMap.mp hv
  obtain ⟨p, hp, rfl⟩ := List.mem_map.mp hv
  exact ht i (List.mem_range.mp hi) p (List.mem_range.mp hp)
theorem tab_chunk {h w : Nat} {T : Nat → Nat → Nat} {i : Nat} (hi : i < h) : chunk (tab h w T) w i = (List.range w).map (T i) := by
  refine List.ext_getElem? fun p => ?_
  unfold chunk
  by_cases hp : p < w
  · rw [List.getElem?_take_of_lt hp, List.getElem?_drop, tab_get hi hp, List.getElem?_map, List.getElem?_range hp]; rfl
  · rw [List.getElem?_eq_none (by simp; omega), List.getElem?_eq_none (by simp; omega)]
theorem interl_tab {k w : Nat} {dt : Nat → List Nat} : interl k w dt = tab w k fun i t => (dt t).getD i 0 := rfl
theorem tab_append {h1 h2 w : Nat} {T1 T2 : Nat → Nat → Nat} : tab h1 w T1 ++ tab h2 w T2 = tab (h1 + h2) w fun i p => if i < h1 then T1 i p else T2 (i - h1) p := by
  unfold tab
  rw [List.range_add, List.flatMap_append, List.flatMap_map]
  congr 1
  · refine fm_congr fun i hi => ?_
    refine List.map_congr_left fun p _ => ?_
    dsimp only
    rw [if_pos (List.mem_range.mp hi)]
  · refine fm_congr fun i hi => ?_
    refine List.map_congr_left fun p _ => ?_
    dsimp only
    rw [if_neg (by omega), Nat.add_sub_cancel_left]
theorem tab_congr {h w : Nat} {T1 T2 : Nat → Nat → Nat} (e : ∀ i < h, ∀ p < w, T1 i p = T2 i p) : tab h w T1 = tab h w T2 := by
  unfold tab
  refine fm_congr fun i hi => ?_
  exact List.map_congr_left fun p hp => e i (List.mem_range.mp hi) p (List.mem_range.mp hp)
/-- a slice by steps -/
theorem sliceV_step {l : List Nat} {a s cnt : Nat} (hs : 1 ≤ s) (ha : a ≤ l.length) (hc : ((l.length : Int) - a + s - 1) / s = cnt) (hin : ∀ k < cnt, a + s * k < l.length) (hpos : a < l.length) :
    sliceV (ns l) (some a) none (some s) = ns ((List.range cnt).map fun k => l.getD (a + s * k) 0) := by
  unfold sliceV
  have hb : sliceBounds (some (a : Int)) none (some (s : Int)) (ns l).length = ((a : Int), (l.length : Int), (s : Int)) := by
    rw [ns_length]
    unfold sliceBounds
    simp only [Option.getD_some]
    rw [if_pos (show (s : Int) > 0 by omega), if_pos (show (s : Int) > 0 by omega), if_neg (by omega)]
    have e1 : max 0 (min (a : Int) (l.length : Int)) = a := by omega
    simp only [e1]
  rw [hb]
  unfold sliceRange
  dsimp only
  rw [if_pos (show (s : Int) > 0 by omega), if_pos (show (a : Int) < l.length by omega), hc, Int.toNat_natCast]
  rw [List.filterMap_map]
  have e : (List.range cnt).filterMap ((fun x => (ns l)[x]?) ∘ fun k : Nat => ((a : Int) + (s : Int) * (k : Int)).toNat) = (List.range cnt).map fun k => V.int ((l.getD (a + s * k) 0 : Nat) : Int) := by
    rw [← List.filterMap_eq_map]
    refine fim_congr fun k hk => ?_
    have hk := hin k (List.mem_range.mp hk)
    have e2 : ((a : Int) + (s : Int) * (k : Int)).toNat = a + s * k := by
      rw [show (a : Int) + (s : Int) * (k : Int) = ((a + s * k : Nat) : Int) by simp]; rfl
    simp only [Function.comp_apply, e2]
    rw [ns_get (List.getElem?_eq_getElem hk), List.getD_eq_getElem?_getD, List.getElem?_eq_getElem hk]; rfl
  rw [e]
  simp [ns]

/-! ## the sums of a row that is a combination -/
def lin (p q : Nat) (u v : Nat) : Nat := mul p u ^^^ mul q v
theorem lin_lt {p q u v : Nat} : lin p q u v < 256 := xor_lt (mul_lt _ _) (mul_lt _ _)
theorem foldl_lin {root u v : Nat} (hu : u < 256) (hv : v < 256) : ∀ (l : List (Nat × Nat)) (P R : Nat), P < 256 → R < 256 → (∀ x ∈ l, x.1 < 256 ∧ x.2 < 256) →
    (l.map fun x => lin x.1 x.2 u v).foldl (fun t o => xtn root t ^^^ o) (lin P R u v) = lin ((l.map (·.1)).foldl (fun t o => xtn root t ^^^ o) P) ((l.map (·.2)).foldl (fun t o => xtn root t ^^^ o) R) u v
  | [], P, R, _, _, _ => rfl
  | x :: l, P, R, hP, hR, hl => by
    obtain ⟨h1, h2⟩ := hl x List.mem_cons_self
    simp only [List.map_cons, List.foldl_cons]
    have e : xtn root (lin P R u v) ^^^ lin x.1 x.2 u v = lin (xtn root P ^^^ x.1) (xtn root R ^^^ x.2) u v := by
      unfold lin
      rw [xtn_xor (mul_lt _ _) (mul_lt _ _), xtn_mul hP hu, xtn_mul hR hv, xor_mul (xtn_lt hP _) h1 hu, xor_mul (xtn_lt hR _) h2 hv]
      simp [Nat.xor_assoc, Nat.xor_comm, xor_lc]
    rw [e]
    exact foldl_lin hu hv l _ _ (xor_lt (xtn_lt hP _) h1) (xor_lt (xtn_lt hR _) h2) fun y hy => hl y (List.mem_cons_of_mem _ hy)
theorem lin_zero {u v : Nat} : lin 0 0 u v = 0 := by unfold lin; rw [zero_mul, zero_mul]; rfl
theorem horn_lin {root u v : Nat} {l : List (Nat × Nat)} (hu : u < 256) (hv : v < 256) (hl : ∀ x ∈ l, x.1 < 256 ∧ x.2 < 256) (h1 : horn root (l.map (·.1)) = 0) (h2 : horn root (l.map (·.2)) = 0) : horn root (l.map fun x => lin x.1 x.2 u v) = 0 := by
  unfold horn at *
  have := foldl_lin (root := root) hu hv l 0 0 (by decide) (by decide) hl
  rw [lin_zero] at this
  rw [this, h1, h2, lin_zero]
end Mine


open PySem PySem.W PyProof.Rows PySem.Calls PySem.SeqAt
set_option Elab.async false
set_option maxRecDepth 100000
set_option linter.unusedVariables false
set_option linter.unusedSimpArgs false
namespace Mine

/-! ## sums in a ring of characteristic two -/
section
variable {F : Type} [Lean.Grind.CommRing F]
def gs (n : Nat) (f : Nat → F) : F := match n with
  | 0 => 0
  | n + 1 => gs n f + f n
theorem gs_congr {n : Nat} {f g : Nat → F} (h : ∀ i < n, f i = g i) : gs n f = gs n g := by
  induction n with
  | zero => rfl
  | succ n ih => unfold gs; rw [ih fun i hi => h i (by omega), h n (by omega)]
theorem gs_zero {n : Nat} {f : Nat → F} (h : ∀ i < n, f i = 0) : gs n f = 0 := by
  induction n with
  | zero => rfl
  | succ n ih => unfold gs; rw [ih fun i hi => h i (by omega), h n (by omega)]; grind
theorem gs_add {n : Nat} {f g : Nat → F} : gs n (fun i => f i + g i) = gs n f + gs n g := by
  induction n with
  | zero => unfold gs; grind
  | succ n ih => unfold gs; rw [ih]; grind
theorem gs_mul {n : Nat} {a : F} {f : Nat → F} : gs n (fun i => a * f i) = a * gs n f := by
  induction n with
  | zero => unfold gs; grind
  | succ n ih => unfold gs; rw [ih]; grind
theorem gs_mul' {n : Nat} {a : F} {f : Nat → F} : gs n (fun i => f i * a) = gs n f * a := by
  induction n with
  | zero => unfold gs; grind
  | succ n ih => unfold gs; rw [ih]; grind
theorem gs_swap {n m : Nat} {f : Nat → Nat → F} : gs n (fun i => gs m (fun k => f i k)) = gs m (fun k => gs n (fun i => f i k)) := by
  induction n with
  | zero => show (0 : F) = _; rw [gs_zero]; intro i _; rfl
  | succ n ih =>
    show gs n _ + gs m _ = _
    rw [ih, ← gs_add]; rfl
theorem gs_one {n p : Nat} {f : Nat → F} (hp : p < n) (h : ∀ i < n, i ≠ p → f i = 0) : gs n f = f p := by
  induction n with
  | zero => omega
  | succ n ih =>
    unfold gs
    by_cases e : p = n
    · subst e
      rw [gs_zero fun i hi => h i (by omega) (by omega)]; grind
    · rw [ih (by omega) fun i hi => h i (by omega), h n (by omega) (by omega)]; grind
variable [Lean.Grind.IsCharP F 2]
theorem cub (x a b c : F) : (x + a) * (x + b) * (x + c) = x * x * x + x * x * (a + b + c) + x * (a * b + a * c + b * c) + a * b * c := by grind
/-- four places alone: each sum of powers nought means each is nought -/
theorem vander4 {n : Nat} {X : Nat → Nat → F} {z : Nat → F} (dom : ∀ a b : F, a * b = 0 → a = 0 ∨ b = 0) (hX : ∀ i r s, X i (r + s) = X i r * X i s) (h0 : ∀ i, X i 0 = 1) (inj : ∀ i < n, ∀ j < n, X i 1 = X j 1 → i = j)
    (hs : ∀ t < 4, gs n (fun i => z i * X i t) = 0) {p a b c : Nat} (hp : p < n) (ha : a < n) (hb : b < n) (hc : c < n) (npa : p ≠ a) (npb : p ≠ b) (npc : p ≠ c) (hz : ∀ i < n, i ≠ p → i ≠ a → i ≠ b → i ≠ c → z i = 0) : z p = 0 := by
  have x2 : ∀ i, X i 2 = X i 1 * X i 1 := fun i => hX i 1 1
  have x3 : ∀ i, X i 3 = X i 1 * X i 1 * X i 1 := fun i => by rw [← x2]; exact hX i 2 1
  have key : gs n (fun i => z i * ((X i 1 + X a 1) * (X i 1 + X b 1) * (X i 1 + X c 1))) = 0 := by
    have e : ∀ i, z i * ((X i 1 + X a 1) * (X i 1 + X b 1) * (X i 1 + X c 1)) = ((z i * X i 3 + (X a 1 + X b 1 + X c 1) * (z i * X i 2)) + (X a 1 * X b 1 + X a 1 * X c 1 + X b 1 * X c 1) * (z i * X i 1)) + (X a 1 * X b 1 * X c 1) * (z i * X i 0) := fun i => by
      rw [cub, x3, x2, h0]; grind
    rw [gs_congr fun i _ => e i, gs_add, gs_add, gs_add, gs_mul, gs_mul, gs_mul, hs 0 (by decide), hs 1 (by decide), hs 2 (by decide), hs 3 (by decide)]
    grind
  rw [gs_one (p := p) hp fun i hi hne => ?_] at key
  · have nz : ∀ q < n, p ≠ q → X p 1 + X q 1 ≠ 0 := fun q hq hne h => by
      refine hne (inj p hp q hq ?_)
      have : X p 1 = X p 1 + X q 1 + X q 1 := by grind
      rw [this, h]; grind
    rcases dom _ _ key with h | h
    · exact h
    · rcases dom _ _ h with h | h
      · rcases dom _ _ h with h | h
        · exact absurd h (nz a ha npa)
        · exact absurd h (nz b hb npb)
      · exact absurd h (nz c hc npc)
  · by_cases e1 : i = a
    · subst e1
      have : X i 1 + X i 1 = (0 : F) := by grind
      rw [this]; grind
    by_cases e2 : i = b
    · subst e2
      have : X i 1 + X i 1 = (0 : F) := by grind
      rw [this]; grind
    by_cases e3 : i = c
    · subst e3
      have : X i 1 + X i 1 = (0 : F) := by grind
      rw [this]; grind
    rw [hz i hi hne e1 e2 e3]; grind
/-- Sudan's way, by Roth and Ruckenstein's equations -/
theorem sudan {n one two : Nat} {X : Nat → Nat → F} {W c e q q' : Nat → F} (dom : ∀ a b : F, a * b = 0 → a = 0 ∨ b = 0) (hX : ∀ i r s, X i (r + s) = X i r * X i s) (h0 : ∀ i, X i 0 = 1) (inj : ∀ i < n, ∀ j < n, X i 1 = X j 1 → i = j)
    (hA : ∀ r < one + 3, gs n (fun i => c i * X i r) = 0) (hB : ∀ r < two + 3, gs n (fun i => c i * c i * (W i * X i r)) = 0)
    (ans : ∀ t < 4, gs one (fun k => gs n (fun i => (c i + e i) * X i (t + k)) * q k) + gs two (fun k => gs n (fun i => (c i + e i) * (c i + e i) * (W i * X i (t + k))) * q' k) = 0)
    {p a b d : Nat} (hp : p < n) (ha : a < n) (hb : b < n) (hd : d < n) (npa : p ≠ a) (npb : p ≠ b) (npd : p ≠ d) (he : ∀ i < n, i ≠ p → i ≠ a → i ≠ b → i ≠ d → e i = 0) (hne : e p ≠ 0) :
    gs one (fun k => q k * X p k) = e p * W p * gs two (fun k => q' k * X p k) := by
  have hz : e p * gs one (fun k => q k * X p k) + e p * e p * W p * gs two (fun k => q' k * X p k) = 0 := by
    refine vander4 (n := n) (z := fun i => e i * gs one (fun k => q k * X i k) + e i * e i * W i * gs two (fun k => q' k * X i k)) dom hX h0 inj (fun t ht => ?_) hp ha hb hd npa npb npd (fun i hi h1 h2 h3 h4 => ?_)
    · have s1 : ∀ k < one, gs n (fun i => (c i + e i) * X i (t + k)) * q k = gs n (fun i => e i * X i t * (q k * X i k)) := fun k hk => by
        have : ∀ i, (c i + e i) * X i (t + k) = c i * X i (t + k) + e i * X i (t + k) := fun i => by grind
        rw [gs_congr fun i _ => this i, gs_add, hA (t + k) (by omega)]
        have z : ∀ x : F, 0 + x = x := fun x => by grind
        rw [z, ← gs_mul']
        exact gs_congr fun i _ => by rw [hX]; grind
      have s2 : ∀ k < two, gs n (fun i => (c i + e i) * (c i + e i) * (W i * X i (t + k))) * q' k = gs n (fun i => e i * e i * W i * X i t * (q' k * X i k)) := fun k hk => by
        have : ∀ i, (c i + e i) * (c i + e i) * (W i * X i (t + k)) = c i * c i * (W i * X i (t + k)) + e i * e i * (W i * X i (t + k)) := fun i => by grind
        rw [gs_congr fun i _ => this i, gs_add, hB (t + k) (by omega)]
        have z : ∀ x : F, 0 + x = x := fun x => by grind
        rw [z, ← gs_mul']
        exact gs_congr fun i _ => by rw [hX]; grind
      have := ans t ht
      rw [gs_congr s1, gs_congr s2, gs_swap, gs_swap (n := two), ← gs_add] at this
      rw [← this]
      refine gs_congr fun i _ => ?_
      rw [gs_mul, gs_mul]
      grind
    · show e i * _ + e i * e i * W i * _ = 0
      rw [he i hi h1 h2 h3 h4]; grind
  have : e p * (gs one (fun k => q k * X p k) + e p * W p * gs two (fun k => q' k * X p k)) = 0 := by rw [← hz]; grind
  rcases dom _ _ this with h | h
  · exact absurd h hne
  · have : gs one (fun k => q k * X p k) = (gs one (fun k => q k * X p k) + e p * W p * gs two (fun k => q' k * X p k)) + e p * W p * gs two (fun k => q' k * X p k) := by grind
    rw [this, h]; grind
end
end Mine


open PySem PySem.W PyProof.Rows PySem.Calls PySem.SeqAt
set_option Elab.async false
set_option maxRecDepth 100000
set_option linter.unusedVariables false
set_option linter.unusedSimpArgs false
namespace Mine

/-! ## the field of 256 as a ring -/
structure G where
  v : Nat
  lt : v < 256
theorem G.ext {a b : G} (h : a.v = b.v) : a = b := by cases a; cases b; cases h; rfl
def gOf (n : Nat) : G := ⟨n % 256, Nat.mod_lt _ (by decide)⟩
def gBit (n : Nat) : G := ⟨n % 2, by omega⟩
def gAdd (a b : G) : G := ⟨a.v ^^^ b.v, xor_lt a.lt b.lt⟩
def gMul (a b : G) : G := ⟨mul a.v b.v, mul_lt _ _⟩
def gPow (a : G) : Nat → G
  | 0 => gBit 1
  | n + 1 => gMul (gPow a n) a
theorem bit_succ (a : Nat) : (a + 1) % 2 = (a % 2) ^^^ (1 % 2) := by
  have : a % 2 = 0 ∨ a % 2 = 1 := by omega
  rcases this with h | h <;> rw [h] <;> simp <;> omega
@[reducible] def gSemi : Lean.Grind.Semiring G :=
  { add := gAdd, mul := gMul, natCast := ⟨gBit⟩, ofNat := fun n => ⟨gBit n⟩, nsmul := ⟨fun n a => gMul (gBit n) a⟩, npow := ⟨gPow⟩,
    add_zero := fun a => G.ext (Nat.xor_zero a.v), add_comm := fun a b => G.ext (Nat.xor_comm a.v b.v), add_assoc := fun a b c => G.ext (Nat.xor_assoc a.v b.v c.v),
    mul_assoc := fun a b c => G.ext (mul_assoc a.v b.v c.v), mul_one := fun a => G.ext (mul_one a.lt), one_mul := fun a => G.ext (one_mul a.lt),
    left_distrib := fun a b c => G.ext (mul_xor a.lt b.lt c.lt), right_distrib := fun a b c => G.ext (xor_mul a.lt b.lt c.lt),
    zero_mul := fun a => G.ext (zero_mul a.v), mul_zero := fun a => G.ext (mul_zero a.v), pow_zero := fun a => rfl, pow_succ := fun a n => rfl,
    ofNat_succ := fun a => G.ext (bit_succ a), ofNat_eq_natCast := fun n => rfl, nsmul_eq_natCast_mul := fun n a => rfl }
def gInt (i : Int) : G := gBit i.natAbs
@[reducible] def gRing : Lean.Grind.Ring G :=
  { gSemi with
    neg := id, sub := gAdd, intCast := ⟨gInt⟩, zsmul := ⟨fun i a => gMul (gInt i) a⟩,
    neg_add_cancel := fun a => G.ext (Nat.xor_self a.v), sub_eq_add_neg := fun a b => rfl,
    neg_zsmul := fun i a => by show gMul (gInt (-i)) a = gMul (gInt i) a; unfold gInt; rw [Int.natAbs_neg],
    zsmul_natCast_eq_nsmul := fun n a => rfl, intCast_ofNat := fun n => rfl,
    intCast_neg := fun i => by show gInt (-i) = gInt i; unfold gInt; rw [Int.natAbs_neg] }
@[reducible] def gField : Lean.Grind.CommRing G := { gRing with mul_comm := fun a b => G.ext (mul_comm a.v b.v) }
theorem gChar : @Lean.Grind.IsCharP G gSemi 2 := @Lean.Grind.IsCharP.mk G gSemi 2 fun {x y} => by
  show gBit x = gBit y ↔ _
  unfold gBit
  constructor
  · intro h; exact congrArg G.v h
  · intro h; exact G.ext h
theorem gDom : ∀ a b : G, gMul a b = gBit 0 → a = gBit 0 ∨ b = gBit 0 := by
  intro a b h
  by_cases ha : a.v = 0
  · exact .inl (G.ext ha)
  by_cases hb : b.v = 0
  · exact .inr (G.ext hb)
  exact absurd (congrArg G.v h) (mul_ne ha hb)
theorem gOf_v {a : Nat} (h : a < 256) : (gOf a).v = a := Nat.mod_eq_of_lt h
theorem gOf_xor {a b : Nat} (ha : a < 256) (hb : b < 256) : gOf (a ^^^ b) = gAdd (gOf a) (gOf b) := G.ext (by show (a ^^^ b) % 256 = (a % 256) ^^^ (b % 256); rw [Nat.mod_eq_of_lt ha, Nat.mod_eq_of_lt hb, Nat.mod_eq_of_lt (xor_lt ha hb)])
theorem gOf_mul {a b : Nat} (ha : a < 256) (hb : b < 256) : gOf (mul a b) = gMul (gOf a) (gOf b) := G.ext (by show (mul a b) % 256 = mul (a % 256) (b % 256); rw [Nat.mod_eq_of_lt ha, Nat.mod_eq_of_lt hb, Nat.mod_eq_of_lt (mul_lt _ _)])
theorem gOf_inj {a b : Nat} (ha : a < 256) (hb : b < 256) (h : gOf a = gOf b) : a = b := by
  have := congrArg G.v h
  rwa [gOf_v ha, gOf_v hb] at this
/-- a sum by xor -/
def xs (n : Nat) (f : Nat → Nat) : Nat := match n with
  | 0 => 0
  | n + 1 => xs n f ^^^ f n
theorem xs_lt {n : Nat} {f : Nat → Nat} (h : ∀ i < n, f i < 256) : xs n f < 256 := by
  induction n with
  | zero => exact (by decide : 0 < 256)
  | succ n ih => exact xor_lt (ih fun i hi => h i (by omega)) (h n (by omega))
theorem xs_congr {n : Nat} {f g : Nat → Nat} (h : ∀ i < n, f i = g i) : xs n f = xs n g := by
  induction n with
  | zero => rfl
  | succ n ih => unfold xs; rw [ih fun i hi => h i (by omega), h n (by omega)]
theorem gOf_xs {n : Nat} {f : Nat → Nat} (h : ∀ i < n, f i < 256) : gOf (xs n f) = @gs G gField n (fun i => gOf (f i)) := by
  induction n with
  | zero => rfl
  | succ n ih =>
    unfold xs
    rw [gOf_xor (xs_lt fun i hi => h i (by omega)) (h n (by omega)), ih fun i hi => h i (by omega)]
    rfl
end Mine


open PySem PySem.W PyProof.Rows PySem.Calls PySem.SeqAt
set_option Elab.async false
set_option maxRecDepth 100000
set_option linter.unusedVariables false
set_option linter.unusedSimpArgs false
namespace Mine
variable {X : Cx} {n : Nat} {env : Env} {loc : Loc} {Γ : Led} {Q : V → Led → Prop}

/-! ## more words -/
theorem vrs_ints : ∀ {is : List Int} {vs : List Value}, VRs (intsV is) vs → IntsAre vs is
  | [], _, h => by cases h; exact .nil
  | i :: is, _, h => by
    unfold intsV at h
    rw [List.map_cons] at h
    cases h with
    | cons r t =>
      obtain ⟨u, rfl⟩ := r
      exact .cons i u (vrs_ints t)
theorem callW_sum {o : V} {a : Addr} {is : List Int} (ho : IsRef o a) (hL : LI X Γ a (intsV is)) (q : Q (.int is.sum) Γ) : callW X n (.val (.builtin "sum")) [o] Γ Q := by
  intro fv' vs' rf rvs env loc
  cases (show fv' = .builtin "sum" from rf)
  obtain ⟨v', rfl, r⟩ := rvs.one
  cases ho.vr r
  intro A s Qc ok eo rm I k
  obtain ⟨vs, hl, r⟩ := hL env loc s.heap ok I
  have hi := vrs_ints r
  obtain ⟨xs, hx⟩ := hi.allInts.items
  have hl' : s.heap.IsList a (intItems xs) := hx ▸ hl
  refine sum_intListG rm.hd hl' fun h' tk t' hk => ?_
  have e1 : is = xs.toList.map (·.1) := by
    rw [← nums_intItems, ← hx]
    exact (show numsOf vs.toArray.toList = is from hi.numsOf).symm
  have e2 : preSum (numAt xs) xs.size = is.sum := by
    rw [preSum_eq, List.take_of_length_le (by simp), e1]
  rw [e2]
  exact k (.int is.sum) _ loc Γ { s with heap := h', toks := tk } ⟨rfl, q⟩ ⟨_, rfl⟩ (I.still hk) (Tr.still hk rfl rfl)
theorem callW_range {i : Int} (q : ∀ a, Q (.ref a) ((a, .rng 0 i) :: Γ)) : callW X n (.val (.type "range")) [.int i] Γ Q := by
  intro fv' vs' rf rvs env loc
  cases (show fv' = .type "range" from rf)
  obtain ⟨v', rfl, t, rfl⟩ := rvs.one
  intro A s Qc ok eo rm I k
  refine call_range_1 ?_
  have fr : ∀ b ∈ kf (s.heap.objs.size, O.rng 0 i), s.heap.get? b = none := fun b hb => by rw [List.mem_singleton.mp hb]; exact get?_size
  have kp : ∀ b o', s.heap.get? b = some o' → (s.heap.push { cls := .type "range", data := .fields #[.int 0 s.toks, .int i t, .int 1 (s.toks + 1)] }).get? b = some o' := fun b o' e => Heap.get?_push_of_some _ e
  exact k (.ref _) _ loc _ _ ⟨rfl, q _⟩ rfl (I.grow kp fr (by simp [kf]) ⟨_, _, _, Heap.get?_push_size _ rfl⟩) (Tr.grow kp fr rfl rfl)
theorem items_vrs {acc : Array Value} {m : Nat} (h : ItemsOf (fun i v => ∃ t, v = .int ((0 : Int) + i * 1) t) acc m) : VRs (intsV ((List.range m).map fun k : Nat => (k : Int))) acc.toList := by
  obtain ⟨h1, h2⟩ := h
  have : ∀ (l : List Value) (s : Nat), (∀ i v, l[i]? = some v → ∃ t, v = Value.int ((s + i : Nat) : Int) t) → VRs (intsV ((List.range' s l.length).map fun k : Nat => (k : Int))) l := by
    intro l
    induction l with
    | nil => intro s _; exact .nil
    | cons v l ih =>
      intro s hs
      obtain ⟨t, e⟩ := hs 0 v rfl
      refine .cons ⟨t, e⟩ (ih (s + 1) fun i w hw => ?_)
      obtain ⟨t, e⟩ := hs (i + 1) w (by simpa using hw)
      exact ⟨t, by rw [e, show s + (i + 1) = s + 1 + i by omega]⟩
  have := this acc.toList 0 fun i v hv => by
    obtain ⟨t, e⟩ := h2 i v (by simpa using hv)
    exact ⟨t, by rw [e]; congr 1; omega⟩
  rw [show acc.toList.length = m by simpa using h1] at this
  rw [List.range_eq_range']
  exact this
theorem callW_listRange {a : Addr} {m : Nat} (hm : (a, O.rng 0 m) ∈ Γ) (hlen : m ≤ 1000000) (q : ∀ b, Q (.ref b) ((b, .list (intsV ((List.range m).map fun k : Nat => (k : Int)))) :: Γ)) : callW X n (.val (.type "list")) [.ref a] Γ Q := by
  intro fv' vs' rf rvs env loc
  cases (show fv' = .type "list" from rf)
  obtain ⟨v', rfl, r⟩ := rvs.one
  cases (show v' = .ref a from r)
  intro A s Qc ok eo rm I k
  obtain ⟨t, u, v, e⟩ := I.led _ hm
  refine call_list_range (n := m) rm.hd (show IsRange _ _ _ _ _ _ _ _ from e) (small_one (by omega) (by omega) (by omega) (by omega)) (by rw [rangeSize_one]; split <;> omega) (Nat.le_trans hlen (by decide)) fun h' tk acc c' kp e' hacc => ?_
  have fr : ∀ b ∈ kf (s.heap.objs.size, O.list (intsV ((List.range m).map fun k : Nat => (k : Int)))), s.heap.get? b = none := fun b hb => by rw [List.mem_singleton.mp hb]; exact get?_size
  exact k (.ref _) _ loc _ { s with heap := h', toks := tk } ⟨rfl, q _⟩ rfl (I.grow kp fr (by simp [kf]) ⟨acc.toList, c', by rw [e'], items_vrs hacc⟩) (Tr.grow kp fr rfl rfl)
theorem VRs.erase {xs : List V} {vs : List Value} (r : VRs xs vs) : ∀ k, VRs (xs.eraseIdx k) (vs.eraseIdx k) := by
  induction r with
  | nil => intro k; exact .nil
  | cons r1 r ih =>
    intro k
    cases k with
    | zero => exact r
    | succ k => exact .cons r1 (ih k)
theorem pop_call {prog : Program} {w : World} {A : Around} {Qc E : Value → Shared → Prop} {s : Shared} {a : Addr} {vs : List Value} {m i : Nat} {j : Int} {t : Tok} {y : Value} (hf : Builtin.List.listFitsIndex j = true) (hk : seqIndex? j vs.toArray.size = some i) (hy' : vs.toArray[i]? = some y) (hsz : vs.toArray.size ≤ sizeLine)
    (e : s.heap.get? a = some { cls := .type "list", data := .seq vs.toArray m }) (q : Qc y { s with heap := s.heap.update a (Obj.mapSeq fun xs => xs.eraseIdxIfInBounds i) }) : wpAny (model prog w) A (call (.builtin "list.pop") [.ref a, .int j t]) Qc E s := by
  have M := @PySem.MeetsSeq.list_pop_at a vs.toArray m j t i y hf hk hy' hsz
  have hT : s.TypeIs (.ref a) "list" := ⟨_, e, rfl⟩
  exact call_meets PySem.F.slot_list_pop hT PySem.F.entry_list_pop (PySem.F.args_list_pop_2 _ _) M ⟨e, q⟩
theorem callW_pop {a : Addr} {xs : List V} {i : Nat} {x : V} {Γ₁ : Led} (hp : Pick Γ (a, O.list xs) Γ₁) (hlen : xs.length ≤ 1000000) (hx : xs[i]? = some x) (q : Q x ((a, .list (xs.eraseIdx i)) :: Γ₁)) : callW X n (.val (.builtin "list.pop")) [.ref a, .int i] Γ Q := by
  intro fv' vs' rf rvs env loc
  cases (show fv' = .builtin "list.pop" from rf)
  obtain ⟨u', v', rfl, ru, ⟨t, rfl⟩⟩ := rvs.two
  cases (show u' = .ref a from ru)
  have hi : i < xs.length := (List.getElem?_eq_some_iff.mp hx).1
  refine Tri.pick hp fun A s Qc ok eo rm I k => ?_
  obtain ⟨vs, m, e, r⟩ := I.led (a, .list xs) (List.mem_cons_self)
  obtain ⟨y, hy, ry⟩ := r.get' hx
  have hl := r.length
  have hf : Builtin.List.listFitsIndex (i : Int) = true := by simp [Builtin.List.listFitsIndex]; omega
  have hk : seqIndex? (i : Int) vs.toArray.size = some i := by
    unfold seqIndex?
    simp [hl]
    omega
  have hsz : vs.toArray.size ≤ sizeLine := by rw [List.size_toArray, hl]; exact Nat.le_trans hlen (by decide)
  have hy' : vs.toArray[i]? = some y := by simpa using hy
  refine pop_call hf hk hy' hsz e ?_
  obtain ⟨m', hd'⟩ := Obj.data_mapSeq (o := { cls := .type "list", data := .seq vs.toArray m }) rfl (fun xs => xs.eraseIdxIfInBounds i)
  have ho' : (s.heap.update a (Obj.mapSeq fun xs => xs.eraseIdxIfInBounds i)).get? a = some { cls := .type "list", data := .seq (vs.eraseIdx i).toArray m' } := by
    rw [Heap.get?_update_self _ e (Obj.isFreed_of_seq hd')]
    refine congrArg some ?_
    rw [show (vs.eraseIdx i).toArray = vs.toArray.eraseIdxIfInBounds i by simp, ← hd']
    rfl
  have hs' : ∀ c, c ∉ kf (a, O.list xs) → (s.heap.update a (Obj.mapSeq fun xs => xs.eraseIdxIfInBounds i)).get? c = s.heap.get? c := fun c hc => (Heap.SameBut.update ..).2 c fun z => hc (by simp [kf, z])
  exact k x y loc _ { s with heap := _ } ⟨rfl, q⟩ ry (I.upd (o' := .list (xs.eraseIdx i)) rfl hs' ⟨vs.eraseIdx i, _, ho', r.erase i⟩) (Tr.upd rfl hs' rfl rfl)
theorem cmp_notin {o : V} {a : Addr} {is : List Int} {i : Int} (ho : IsRef o a) (hL : LI X Γ a (intsV is)) (q : Q (.bool (!(is.any (· == i)))) Γ) : cmpS X n .NotIn (.int i) o Γ Q := by
  intro a' b' ra rb env loc
  obtain ⟨t, rfl⟩ := ra
  cases ho.vr rb
  refine Tri.quiet (b := .bool (!(is.any (· == i)))) (fun A s Qc ok eo rm I k => ?_) ⟨rfl, q⟩
  obtain ⟨vs, hl, r⟩ := hL env loc s.heap ok I
  exact notin_list_ints hl (vrs_ints r) (k _ s.toks rfl)
end Mine


open PySem PySem.W PyProof.Rows PySem.Calls PySem.SeqAt
set_option Elab.async false
set_option maxRecDepth 100000
set_option linter.unusedVariables false
set_option linter.unusedSimpArgs false
namespace Mine

/-! ## one block with seven checks -/
def g7 : List Nat := [127, 122, 154, 164, 11, 68, 117]
def lc (α : Nat) (a b : List Nat) : List Nat := List.zipWith (fun x y => x ^^^ mul α y) a b
theorem mul_left (a b c : Nat) : mul a (mul b c) = mul b (mul a c) := by rw [← mul_assoc, mul_comm a b, mul_assoc]
theorem redu_cons {b h a : Nat} {g' t : List Nat} : redu (b :: g') h (a :: t) = (a ^^^ mul b h) :: redu g' h t := by simp [redu]
theorem redu_lc {α h1 h2 : Nat} (hα : α < 256) (k1 : h1 < 256) (k2 : h2 < 256) : ∀ (g' t1 t2 : List Nat), t1.length = t2.length → oct t1 → oct t2 → oct g' → redu g' (h1 ^^^ mul α h2) (lc α t1 t2) = lc α (redu g' h1 t1) (redu g' h2 t2)
  | [], t1, t2, _, _, _, _ => by simp [redu]
  | b :: g', [], [], _, _, _, _ => by simp [redu, lc]
  | b :: g', a1 :: t1, a2 :: t2, hl, o1, o2, og => by
    have ih := redu_lc hα k1 k2 g' t1 t2 (by simpa using hl) (fun v hv => o1 v (.tail _ hv)) (fun v hv => o2 v (.tail _ hv)) (fun v hv => og v (.tail _ hv))
    show redu (b :: g') _ ((a1 ^^^ mul α a2) :: lc α t1 t2) = _
    rw [redu_cons, redu_cons, redu_cons, ih]
    show _ = ((a1 ^^^ mul b h1) ^^^ mul α (a2 ^^^ mul b h2)) :: lc α _ _
    congr 1
    have hb := og b (.head _)
    have ha2 := o2 a2 (.head _)
    rw [mul_xor hb k1 (mul_lt _ _), mul_xor hα ha2 (mul_lt _ _), mul_left b α h2]
    simp [Nat.xor_assoc, Nat.xor_comm, xor_lc]
  | b :: g', [], a2 :: t2, hl, _, _, _ => by simp at hl
  | b :: g', a1 :: t1, [], hl, _, _, _ => by simp at hl
theorem lrem_lc {α : Nat} (hα : α < 256) {g' : List Nat} (og : oct g') : ∀ (k : Nat) (a b : List Nat), a.length = b.length → oct a → oct b → g'.length + k ≤ a.length → lrem g' k (lc α a b) = lc α (lrem g' k a) (lrem g' k b)
  | 0, a, b, _, _, _, _ => by simp [lrem]
  | k + 1, [], b, _, _, _, h => by simp at h
  | k + 1, h1 :: t1, [], hl, _, _, _ => by simp at hl
  | k + 1, h1 :: t1, h2 :: t2, hl, o1, o2, h => by
    simp only [List.length_cons] at h hl
    have l1 := redu_length (g' := g') (h := h1) (t := t1) (by omega)
    have l2 := redu_length (g' := g') (h := h2) (t := t2) (by omega)
    have ot1 : oct t1 := fun v hv => o1 v (.tail _ hv)
    have ot2 : oct t2 := fun v hv => o2 v (.tail _ hv)
    have ih := lrem_lc hα og k (redu g' h1 t1) (redu g' h2 t2) (by omega) (redu_oct ot1) (redu_oct ot2) (by omega)
    show lrem g' k (redu g' (h1 ^^^ mul α h2) (lc α t1 t2)) = lc α (lrem g' k (redu g' h1 t1)) (lrem g' k (redu g' h2 t2))
    rw [redu_lc hα (o1 h1 (.head _)) (o2 h2 (.head _)) g' t1 t2 (by omega) ot1 ot2 og, ih]
theorem lrem_len {g' : List Nat} : ∀ (k : Nat) (a : List Nat), g'.length + k ≤ a.length → (lrem g' k a).length = a.length - k
  | 0, a, _ => by simp [lrem]
  | k + 1, [], h => by simp at h
  | k + 1, h :: t, hl => by
    simp only [List.length_cons] at hl
    have l1 := redu_length (g' := g') (h := h) (t := t) (by omega)
    show (lrem g' k (redu g' h t)).length = _
    rw [lrem_len k _ (by omega), l1, List.length_cons]; omega
theorem lrem_oct {g' : List Nat} : ∀ (k : Nat) (a : List Nat), oct a → oct (lrem g' k a)
  | 0, a, h => h
  | k + 1, [], h => h
  | k + 1, x :: t, h => lrem_oct k _ (redu_oct fun v hv => h v (.tail _ hv))
def dataT (data : List Nat) : List Nat := data ++ lrem g7 data.length (data ++ List.replicate 7 0)
theorem g7_oct : oct g7 := by intro v hv; simp [g7] at hv; omega
theorem rep_oct {k : Nat} : oct (List.replicate k 0) := fun v hv => by rw [List.eq_of_mem_replicate hv]; decide
theorem app_oct {a b : List Nat} (ha : oct a) (hb : oct b) : oct (a ++ b) := fun v hv => by
  rcases List.mem_append.mp hv with h | h
  · exact ha v h
  · exact hb v h
theorem lc_len {α : Nat} {a b : List Nat} (h : a.length = b.length) : (lc α a b).length = a.length := by unfold lc; simp; omega
theorem lc_app {α : Nat} {a b c d : List Nat} (h : a.length = b.length) : lc α (a ++ c) (b ++ d) = lc α a b ++ lc α c d := by unfold lc; rw [List.zipWith_append h]
theorem lc_rep {α k : Nat} : lc α (List.replicate k 0) (List.replicate k 0) = List.replicate k 0 := by
  unfold lc; rw [List.zipWith_replicate, mul_zero]; simp
theorem lc_oct {α : Nat} {a b : List Nat} (ha : oct a) : oct (lc α a b) := by
  intro v hv
  unfold lc at hv
  obtain ⟨i, hi⟩ := List.mem_iff_getElem?.mp hv
  rw [List.getElem?_zipWith] at hi
  cases h1 : a[i]? with
  | none => rw [h1] at hi; cases hi
  | some x =>
    cases h2 : b[i]? with
    | none => rw [h1, h2] at hi; cases hi
    | some y => rw [h1, h2] at hi; cases hi; exact xor_lt (ha x (List.mem_of_getElem? h1)) (mul_lt _ _)
theorem dataT_len {d : List Nat} : (dataT d).length = d.length + 7 := by
  unfold dataT
  rw [List.length_append, lrem_len _ _ (by simp [g7]; omega)]; simp
theorem dataT_oct {d : List Nat} (h : oct d) : oct (dataT d) := app_oct h (lrem_oct _ _ (app_oct h rep_oct))
theorem dataT_lc {α : Nat} (hα : α < 256) {a b : List Nat} (h : a.length = b.length) (oa : oct a) (ob : oct b) : dataT (lc α a b) = lc α (dataT a) (dataT b) := by
  unfold dataT
  rw [lc_len h, lc_app h]
  congr 1
  have e : lc α a b ++ List.replicate 7 0 = lc α (a ++ List.replicate 7 0) (b ++ List.replicate 7 0) := by rw [lc_app h, lc_rep]
  rw [e, lrem_lc hα g7_oct _ _ _ (by simp [h]) (app_oct oa rep_oct) (app_oct ob rep_oct) (by simp [g7]; omega), h]
theorem lc_getD {α : Nat} {a b : List Nat} (h : a.length = b.length) (i : Nat) : (lc α a b).getD i 0 = a.getD i 0 ^^^ mul α (b.getD i 0) := by
  unfold lc
  rw [List.getD_eq_getElem?_getD, List.getD_eq_getElem?_getD, List.getD_eq_getElem?_getD, List.getElem?_zipWith]
  by_cases hi : i < a.length
  · rw [List.getElem?_eq_getElem hi, List.getElem?_eq_getElem (by omega)]; rfl
  · rw [List.getElem?_eq_none (by omega), List.getElem?_eq_none (by omega)]
    show 0 = 0 ^^^ mul α 0
    rw [mul_zero]; rfl
/-! ## sums of a block -/
def sp : Nat → Nat
  | 0 => 0
  | k + 1 => sp k + L (E (k + 1) ^^^ 1)
def fac (n p : Nat) : Nat := p * (p - 1) / 2 + p * (n - 1 - p) + sp p + sp (n - 1 - p)
def S1 (n : Nat) (y : Nat → Nat) (r : Nat) : Nat := xs n fun i => mul (y i) (E ((n - 1 - i) * r))
def S2 (n : Nat) (y : Nat → Nat) (r : Nat) : Nat := xs n fun i => mul (mul (y i) (y i)) (mul (E (fac n (n - 1 - i))) (E ((n - 1 - i) * r)))
theorem xs_xor {n : Nat} {f g : Nat → Nat} : xs n (fun i => f i ^^^ g i) = xs n f ^^^ xs n g := by
  induction n with
  | zero => simp [xs]
  | succ n ih => unfold xs; rw [ih]; simp [Nat.xor_assoc, Nat.xor_comm, xor_lc]
theorem xs_mul {n α : Nat} {f : Nat → Nat} (hα : α < 256) (h : ∀ i < n, f i < 256) : xs n (fun i => mul α (f i)) = mul α (xs n f) := by
  induction n with
  | zero => exact (mul_zero α).symm
  | succ n ih => unfold xs; rw [ih fun i hi => h i (by omega), mul_xor hα (xs_lt fun i hi => h i (by omega)) (h n (by omega))]
theorem S1_lc {n α r : Nat} {a b : Nat → Nat} (hα : α < 256) (ha : ∀ i, a i < 256) (hb : ∀ i, b i < 256) : S1 n (fun i => a i ^^^ mul α (b i)) r = S1 n a r ^^^ mul α (S1 n b r) := by
  unfold S1
  rw [← xs_mul hα fun i _ => mul_lt _ _, ← xs_xor]
  exact xs_congr fun i _ => by rw [xor_mul (ha i) (mul_lt _ _) (E_lt _), mul_assoc]
theorem sq_xor {a b : Nat} (ha : a < 256) (hb : b < 256) : mul (a ^^^ b) (a ^^^ b) = mul a a ^^^ mul b b := by
  rw [xor_mul ha hb (xor_lt ha hb), mul_xor ha ha hb, mul_xor hb ha hb, mul_comm b a]
  simp [Nat.xor_assoc, Nat.xor_comm, xor_lc, xor_cc]
theorem S2_lc {n α r : Nat} {a b : Nat → Nat} (hα : α < 256) (ha : ∀ i, a i < 256) (hb : ∀ i, b i < 256) : S2 n (fun i => a i ^^^ mul α (b i)) r = S2 n a r ^^^ mul (mul α α) (S2 n b r) := by
  unfold S2
  rw [← xs_mul (mul_lt _ _) fun i _ => mul_lt _ _, ← xs_xor]
  refine xs_congr fun i _ => ?_
  rw [sq_xor (ha i) (mul_lt _ _), xor_mul (mul_lt _ _) (mul_lt _ _) (mul_lt _ _)]
  congr 1
  rw [mul_assoc α (b i), mul_left (b i) α (b i), ← mul_assoc α α, mul_assoc (mul α α)]
def cmb (z : List Nat) (l : List (Nat × List Nat)) : List Nat := l.foldl (fun acc p => lc p.1 acc p.2) z
theorem cmb_len {z : List Nat} : ∀ {l : List (Nat × List Nat)}, (∀ p ∈ l, p.2.length = z.length) → (cmb z l).length = z.length := by
  intro l
  induction l generalizing z with
  | nil => intro _; rfl
  | cons p l ih =>
    intro h
    have e := lc_len (α := p.1) (h p (.head _)).symm
    show (cmb (lc p.1 z p.2) l).length = _
    rw [ih fun q hq => by rw [e]; exact h q (.tail _ hq), e]
theorem dataT_cmb {z : List Nat} : ∀ {l : List (Nat × List Nat)}, oct z → (∀ p ∈ l, p.2.length = z.length ∧ p.1 < 256 ∧ oct p.2) → dataT (cmb z l) = cmb (dataT z) (l.map fun p => (p.1, dataT p.2)) := by
  intro l
  induction l generalizing z with
  | nil => intro _ _; rfl
  | cons p l ih =>
    intro oz h
    obtain ⟨h1, h2, h3⟩ := h p (.head _)
    have e := lc_len (α := p.1) h1.symm
    show dataT (cmb (lc p.1 z p.2) l) = cmb (lc p.1 (dataT z) (dataT p.2)) _
    rw [ih (lc_oct oz) fun q hq => by rw [e]; exact h q (.tail _ hq), dataT_lc h2 h1.symm oz h3]
theorem getD_oct {l : List Nat} (h : oct l) (i : Nat) : l.getD i 0 < 256 := by
  rw [List.getD_eq_getElem?_getD]
  cases q : l[i]? with
  | none => exact (by decide : 0 < 256)
  | some v => exact h v (List.mem_of_getElem? q)
theorem S_cmb {n r : Nat} {z : List Nat} : ∀ {l : List (Nat × List Nat)}, oct z → (∀ p ∈ l, p.2.length = z.length ∧ p.1 < 256 ∧ oct p.2) →
    (S1 n (z.getD · 0) r = 0 → (∀ p ∈ l, S1 n (p.2.getD · 0) r = 0) → S1 n ((cmb z l).getD · 0) r = 0) ∧ (S2 n (z.getD · 0) r = 0 → (∀ p ∈ l, S2 n (p.2.getD · 0) r = 0) → S2 n ((cmb z l).getD · 0) r = 0) := by
  intro l
  induction l generalizing z with
  | nil => intro _ _; exact ⟨fun h _ => h, fun h _ => h⟩
  | cons p l ih =>
    intro oz h
    obtain ⟨h1, h2, h3⟩ := h p (.head _)
    have e := lc_len (α := p.1) h1.symm
    obtain ⟨i1, i2⟩ := ih (z := lc p.1 z p.2) (lc_oct oz) fun q hq => by rw [e]; exact h q (.tail _ hq)
    have f : (fun i => (lc p.1 z p.2).getD i 0) = fun i => z.getD i 0 ^^^ mul p.1 (p.2.getD i 0) := funext fun i => lc_getD h1.symm i
    refine ⟨fun a b => i1 ?_ fun q hq => b q (.tail _ hq), fun a b => i2 ?_ fun q hq => b q (.tail _ hq)⟩
    · rw [f, S1_lc h2 (getD_oct oz) (getD_oct h3), a, b p (.head _), mul_zero]; rfl
    · rw [f, S2_lc h2 (getD_oct oz) (getD_oct h3), a, b p (.head _), mul_zero]; rfl
/-! ## multiplication by doubling: to compute with -/
def mulR : Nat → Nat → Nat → Nat
  | 0, _, _ => 0
  | k + 1, a, b => (if b % 2 = 1 then a else 0) ^^^ mulR k (xt a) (b / 2)
theorem mulR_eq : ∀ (k a b : Nat), a < 256 → b < 256 → b < 2 ^ k → mul a b = mulR k a b
  | 0, a, b, _, _, h => by
    have : b = 0 := by simp at h; omega
    subst this; rw [mul_zero]; rfl
  | k + 1, a, b, ha, hb, h => by
    have hd : b / 2 < 128 := by omega
    have hx : xt (b / 2) = 2 * (b / 2) := by unfold xt; rw [if_neg (by omega)]
    have e : b = (b % 2) ^^^ 2 * (b / 2) := by
      have : (b % 2) ^^^ 2 * (b / 2) = b % 2 + 2 * (b / 2) := by
        have r : b % 2 = 0 ∨ b % 2 = 1 := by omega
        rcases r with r | r
        · rw [r, Nat.zero_xor]; omega
        · rw [r]
          have := Nat.two_pow_add_eq_or_of_lt (i := 1) (b := 1) (by decide) (b / 2)
          have q : (1 ^^^ 2 * (b / 2)) % 2 = 1 := by
            have := Nat.xor_mod_two_eq_one (a := 1) (b := 2 * (b / 2)); omega
          have q2 : (1 ^^^ 2 * (b / 2)) / 2 = b / 2 := by
            rw [Nat.xor_div_two]; simp
          omega
      omega
    have ih := mulR_eq k (xt a) (b / 2) (xt_lt ha) (by omega) (by rw [Nat.pow_succ] at h; omega)
    show mul a b = (if b % 2 = 1 then a else 0) ^^^ mulR k (xt a) (b / 2)
    rw [← ih]
    have s : mul a b = mul a (b % 2) ^^^ mul a (2 * (b / 2)) := by
      rw [← mul_xor ha (by omega) (by omega), ← e]
    have t : mul a (2 * (b / 2)) = mul (xt a) (b / 2) := by
      rw [← hx, mul_comm, ← xt_mul (by omega) ha, mul_comm, xt_mul ha (by omega)]
    rw [s, t]
    congr 1
    have r : b % 2 = 0 ∨ b % 2 = 1 := by omega
    rcases r with r | r
    · rw [r, if_neg (by decide), mul_zero]
    · rw [r, if_pos rfl, mul_one ha]
def WL : Nat → List Nat
  | 2 => [35, 204, 95, 113, 40, 127, 5, 52, 90]
  | 3 => [255, 253, 149, 148, 14, 100, 6, 198, 20, 66]
  | 4 => [167, 162, 33, 115, 168, 127, 169, 21, 206, 246, 230]
  | _ => []
def UL : Nat → List (List Nat × List Nat)
  | 2 => [([1, 0], [1, 0, 139, 245, 87, 192, 26, 34, 208]), ([0, 1], [0, 1, 127, 122, 154, 164, 11, 68, 117])]
  | 3 => [([1, 0, 0], [1, 0, 0, 218, 229, 69, 70, 142, 187, 8]), ([0, 1, 0], [0, 1, 0, 139, 245, 87, 192, 26, 34, 208]), ([0, 0, 1], [0, 0, 1, 127, 122, 154, 164, 11, 68, 117])]
  | 4 => [([1, 0, 0, 0], [1, 0, 0, 0, 160, 149, 69, 150, 86, 195, 114]), ([0, 1, 0, 0], [0, 1, 0, 0, 218, 229, 69, 70, 142, 187, 8]), ([0, 0, 1, 0], [0, 0, 1, 0, 139, 245, 87, 192, 26, 34, 208]), ([0, 0, 0, 1], [0, 0, 0, 1, 127, 122, 154, 164, 11, 68, 117])]
  | _ => []
def two (own : Nat) : Nat := if own < 4 then 2 else 1
def one (own : Nat) : Nat := if own < 4 then 3 else 4
theorem WL_ok : ∀ own ∈ [2, 3, 4], ∀ i < own + 7, E (fac (own + 7) (own + 6 - i)) = (WL own).getD i 0 := by decide +kernel
theorem UL_ok : ∀ own ∈ [2, 3, 4], ∀ p ∈ UL own, dataT p.1 = p.2 := by decide +kernel
theorem UZ_ok : ∀ own ∈ [2, 3, 4], dataT (List.replicate own 0) = List.replicate (own + 7) 0 := by decide +kernel
theorem U1_ok : ∀ own ∈ [2, 3, 4], ∀ p ∈ UL own, ∀ r < 7, xs (own + 7) (fun i => xtn ((own + 6 - i) * r) (p.2.getD i 0)) = 0 := by decide +kernel
theorem U2_ok : ∀ own ∈ [2, 3, 4], ∀ p ∈ UL own, ∀ r < two own + 3, xs (own + 7) (fun i => mulR 8 (mulR 8 (p.2.getD i 0) (p.2.getD i 0)) (xtn ((own + 6 - i) * r) ((WL own).getD i 0))) = 0 := by decide +kernel
theorem U_S {own : Nat} (h : own ∈ [2, 3, 4]) {p : List Nat × List Nat} (hp : p ∈ UL own) : (∀ r < 7, S1 (own + 7) (p.2.getD · 0) r = 0) ∧ ∀ r < two own + 3, S2 (own + 7) (p.2.getD · 0) r = 0 := by
  have ho : oct p.2 := by
    have : ∀ own ∈ [2, 3, 4], ∀ p ∈ UL own, ∀ v ∈ p.2, v < 256 := by decide
    exact this own h p hp
  refine ⟨fun r hr => ?_, fun r hr => ?_⟩
  · refine Eq.trans (xs_congr fun i hi => ?_) (U1_ok own h p hp r hr)
    show mul (p.2.getD i 0) _ = _
    rw [mul_comm, mul_E (getD_oct ho i)]; rfl
  · refine Eq.trans (xs_congr fun i hi => ?_) (U2_ok own h p hp r hr)
    show mul (mul (p.2.getD i 0) (p.2.getD i 0)) _ = _
    have hw : (WL own).getD i 0 < 256 := by
      rw [← WL_ok own h i hi]; exact E_lt _
    rw [show own + 7 - 1 - i = own + 6 - i by omega, WL_ok own h i hi, mul_comm ((WL own).getD i 0), mul_E hw, mulR_eq 8 _ _ (getD_oct ho i) (getD_oct ho i) (getD_oct ho i)]
    have hm : mulR 8 (p.2.getD i 0) (p.2.getD i 0) < 256 := by rw [← mulR_eq 8 _ _ (getD_oct ho i) (getD_oct ho i) (getD_oct ho i)]; exact mul_lt _ _
    rw [mulR_eq 8 _ _ hm (xtn_lt hw _) (xtn_lt hw _)]
theorem S_zero {n r k : Nat} : S1 n ((List.replicate k 0).getD · 0) r = 0 ∧ S2 n ((List.replicate k 0).getD · 0) r = 0 := by
  have e : ∀ i, (List.replicate k 0).getD i 0 = 0 := fun i => by
    rw [List.getD_eq_getElem?_getD, List.getElem?_replicate]; split <;> rfl
  have z : ∀ (n : Nat) (f : Nat → Nat), (∀ i, f i = 0) → xs n f = 0 := by
    intro n f h
    induction n with
    | zero => rfl
    | succ n ih => unfold xs; rw [ih, h]; rfl
  exact ⟨z _ _ fun i => by show mul ((List.replicate k 0).getD i 0) _ = 0; rw [e, zero_mul], z _ _ fun i => by show mul (mul ((List.replicate k 0).getD i 0) ((List.replicate k 0).getD i 0)) _ = 0; rw [e, zero_mul, zero_mul]⟩
theorem cmb_data {own : Nat} (h : own ∈ [2, 3, 4]) {d : List Nat} (hd : d.length = own) (ho : oct d) : ∃ l : List (Nat × List Nat), cmb (List.replicate own 0) l = d ∧ ∀ p ∈ l, p.2.length = own ∧ p.1 < 256 ∧ oct p.2 ∧ ∃ q ∈ UL own, q.1 = p.2 := by
  have u0 : oct [1, 0] ∧ oct [0, 1] ∧ oct [1, 0, 0] ∧ oct [0, 1, 0] ∧ oct [0, 0, 1] ∧ oct [1, 0, 0, 0] ∧ oct [0, 1, 0, 0] ∧ oct [0, 0, 1, 0] ∧ oct [0, 0, 0, 1] := by unfold oct; decide
  obtain ⟨u1, u2, u3, u4, u5, u6, u7, u8, u9⟩ := u0
  simp only [List.mem_cons, List.not_mem_nil, or_false] at h
  rcases h with rfl | rfl | rfl
  · match d, hd with
    | [x, y], _ =>
      have hx := ho x (by simp)
      have hy := ho y (by simp)
      refine ⟨[(x, [1, 0]), (y, [0, 1])], ?_, ?_⟩
      · simp [cmb, lc, mul_one hx, mul_one hy, mul_zero]
      · intro p hp
        simp only [List.mem_cons, List.not_mem_nil, or_false] at hp
        rcases hp with rfl | rfl
        · exact ⟨rfl, hx, u1, _, .head _, rfl⟩
        · exact ⟨rfl, hy, u2, _, .tail _ (.head _), rfl⟩
  · match d, hd with
    | [x, y, z], _ =>
      have hx := ho x (by simp)
      have hy := ho y (by simp)
      have hz := ho z (by simp)
      refine ⟨[(x, [1, 0, 0]), (y, [0, 1, 0]), (z, [0, 0, 1])], ?_, ?_⟩
      · simp [cmb, lc, mul_one hx, mul_one hy, mul_one hz, mul_zero]
      · intro p hp
        simp only [List.mem_cons, List.not_mem_nil, or_false] at hp
        rcases hp with rfl | rfl | rfl
        · exact ⟨rfl, hx, u3, _, .head _, rfl⟩
        · exact ⟨rfl, hy, u4, _, .tail _ (.head _), rfl⟩
        · exact ⟨rfl, hz, u5, _, .tail _ (.tail _ (.head _)), rfl⟩
  · match d, hd with
    | [x, y, z, w], _ =>
      have hx := ho x (by simp)
      have hy := ho y (by simp)
      have hz := ho z (by simp)
      have hw := ho w (by simp)
      refine ⟨[(x, [1, 0, 0, 0]), (y, [0, 1, 0, 0]), (z, [0, 0, 1, 0]), (w, [0, 0, 0, 1])], ?_, ?_⟩
      · simp [cmb, lc, mul_one hx, mul_one hy, mul_one hz, mul_one hw, mul_zero]
      · intro p hp
        simp only [List.mem_cons, List.not_mem_nil, or_false] at hp
        rcases hp with rfl | rfl | rfl | rfl
        · exact ⟨rfl, hx, u6, _, .head _, rfl⟩
        · exact ⟨rfl, hy, u7, _, .tail _ (.head _), rfl⟩
        · exact ⟨rfl, hz, u8, _, .tail _ (.tail _ (.head _)), rfl⟩
        · exact ⟨rfl, hw, u9, _, .tail _ (.tail _ (.tail _ (.head _))), rfl⟩
/-- the sums of what create_bytes tells, and of its squares -/
theorem block_sums {own : Nat} (h : own ∈ [2, 3, 4]) {d : List Nat} (hd : d.length = own) (ho : oct d) : (∀ r < 7, S1 (own + 7) ((dataT d).getD · 0) r = 0) ∧ ∀ r < two own + 3, S2 (own + 7) ((dataT d).getD · 0) r = 0 := by
  obtain ⟨l, rfl, hl⟩ := cmb_data h hd ho
  have e : dataT (cmb (List.replicate own 0) l) = cmb (List.replicate (own + 7) 0) (l.map fun p => (p.1, dataT p.2)) := by
    rw [dataT_cmb rep_oct fun p hp => ⟨by rw [List.length_replicate]; exact (hl p hp).1, (hl p hp).2.1, (hl p hp).2.2.1⟩, UZ_ok own h]
  have m : ∀ p ∈ l.map (fun p => (p.1, dataT p.2)), p.2.length = (List.replicate (own + 7) 0).length ∧ p.1 < 256 ∧ oct p.2 := by
    intro p hp
    obtain ⟨q, hq, rfl⟩ := List.mem_map.mp hp
    obtain ⟨h1, h2, h3, h4⟩ := hl q hq
    exact ⟨by rw [dataT_len, h1, List.length_replicate], h2, dataT_oct h3⟩
  have s : ∀ p ∈ l.map (fun p => (p.1, dataT p.2)), (∀ r < 7, S1 (own + 7) (p.2.getD · 0) r = 0) ∧ ∀ r < two own + 3, S2 (own + 7) (p.2.getD · 0) r = 0 := by
    intro p hp
    obtain ⟨q, hq, rfl⟩ := List.mem_map.mp hp
    obtain ⟨h1, h2, h3, u, hu, h4⟩ := hl q hq
    have := U_S h hu
    rw [← UL_ok own h u hu, h4] at this
    exact this
  rw [e]
  exact ⟨fun r hr => (S_cmb (n := own + 7) (r := r) rep_oct m).1 S_zero.1 fun p hp => (s p hp).1 r hr, fun r hr => (S_cmb (n := own + 7) (r := r) rep_oct m).2 S_zero.2 fun p hp => (s p hp).2 r hr⟩
end Mine


open PySem PySem.W PyProof.Rows PySem.Calls PySem.SeqAt
set_option Elab.async false
set_option maxRecDepth 100000
set_option linter.unusedVariables false
set_option linter.unusedSimpArgs false
namespace Mine

theorem E_add (a b : Nat) : mul (E a) (E b) = E (a + b) := by
  rw [mul_nz (Nat.ne_of_gt (E_pos _)) (Nat.ne_of_gt (E_pos _)), L_E, L_E, E_period, E_period (a + b)]
  congr 1; omega
abbrev gS (n : Nat) (f : Nat → G) : G := @gs G gField n f
theorem gOf_S1 {n r : Nat} {y : Nat → Nat} (hy : ∀ i, y i < 256) : gOf (S1 n y r) = gS n (fun i => gMul (gOf (y i)) (gOf (E ((n - 1 - i) * r)))) := by
  unfold S1
  rw [gOf_xs fun i _ => mul_lt _ _]
  congr 1
  funext i
  rw [gOf_mul (hy i) (E_lt _)]
theorem gOf_S2 {n r : Nat} {y : Nat → Nat} (hy : ∀ i, y i < 256) : gOf (S2 n y r) = gS n (fun i => gMul (gMul (gOf (y i)) (gOf (y i))) (gMul (gOf (E (fac n (n - 1 - i)))) (gOf (E ((n - 1 - i) * r))))) := by
  unfold S2
  rw [gOf_xs fun i _ => mul_lt _ _]
  congr 1
  funext i
  rw [gOf_mul (mul_lt _ _) (mul_lt _ _), gOf_mul (hy i) (hy i), gOf_mul (E_lt _) (E_lt _)]
theorem S1_lt {n r : Nat} {y : Nat → Nat} : S1 n y r < 256 := xs_lt fun _ _ => mul_lt _ _
theorem S2_lt {n r : Nat} {y : Nat → Nat} : S2 n y r < 256 := xs_lt fun _ _ => mul_lt _ _
theorem mend {own : Nat} (h : own ∈ [2, 3, 4]) {d : List Nat} (hd : d.length = own) (ho : oct d) {e y q : Nat → Nat} (he : ∀ i, e i < 256) (hq : ∀ k, q k < 256) (hy : ∀ i, y i = (dataT d).getD i 0 ^^^ e i)
    (ans : ∀ t < 4, xs (one own) (fun k => mul (S1 (own + 7) y (t + k)) (q k)) ^^^ xs (two own) (fun k => mul (S2 (own + 7) y (t + k)) (q (one own + k))) = 0)
    {p a b c : Nat} (hp : p < own + 7) (ha : a < own + 7) (hb : b < own + 7) (hc : c < own + 7) (npa : p ≠ a) (npb : p ≠ b) (npc : p ≠ c) (hz : ∀ i < own + 7, i ≠ p → i ≠ a → i ≠ b → i ≠ c → e i = 0) (hne : e p ≠ 0) :
    xs (one own) (fun k => mul (q k) (E ((own + 6 - p) * k))) = mul (mul (e p) (E (fac (own + 7) (own + 6 - p)))) (xs (two own) fun k => mul (q (one own + k)) (E ((own + 6 - p) * k))) := by
  have hT := getD_oct (dataT_oct ho)
  have hy2 : ∀ i, y i < 256 := fun i => by rw [hy]; exact xor_lt (hT i) (he i)
  obtain ⟨b1, b2⟩ := block_sums h hd ho
  have h13 : one own ≤ 4 := by unfold one; split <;> decide
  have hown : own ≤ 4 := by simp only [List.mem_cons, List.not_mem_nil, or_false] at h; omega
  have k := @sudan G gField gChar (own + 7) (one own) (two own) (fun i r => gOf (E ((own + 7 - 1 - i) * r))) (fun i => gOf (E (fac (own + 7) (own + 7 - 1 - i)))) (fun i => gOf ((dataT d).getD i 0)) (fun i => gOf (e i)) (fun k => gOf (q k)) (fun k => gOf (q (one own + k)))
    gDom (fun i r s => by
      show gOf _ = gMul (gOf _) (gOf _)
      rw [← gOf_mul (E_lt _) (E_lt _), E_add, Nat.mul_add]) (fun i => by
      rw [Nat.mul_zero]; exact G.ext (by decide +kernel)) (fun i hi j hj hij => by
      have := congrArg L (gOf_inj (E_lt _) (E_lt _) hij)
      rw [L_E, L_E] at this
      omega) (fun r hr => by
      have := congrArg gOf (b1 r (by omega))
      rw [gOf_S1 hT] at this
      exact this) (fun r hr => by
      have := congrArg gOf (b2 r hr)
      rw [gOf_S2 hT] at this
      exact this) (fun t ht => by
      have := congrArg gOf (ans t ht)
      rw [gOf_xor (xs_lt fun _ _ => mul_lt _ _) (xs_lt fun _ _ => mul_lt _ _), gOf_xs (fun _ _ => mul_lt _ _), gOf_xs (fun _ _ => mul_lt _ _)] at this
      refine Eq.trans ?_ this
      have e1 : ∀ k, gOf (mul (S1 (own + 7) y (t + k)) (q k)) = gMul (gS (own + 7) fun i => gMul (gAdd (gOf ((dataT d).getD i 0)) (gOf (e i))) (gOf (E ((own + 7 - 1 - i) * (t + k))))) (gOf (q k)) := fun k => by
        rw [gOf_mul S1_lt (hq _), gOf_S1 hy2]
        congr 2
        funext i
        rw [hy, gOf_xor (hT i) (he i)]
      have e2 : ∀ k, gOf (mul (S2 (own + 7) y (t + k)) (q (one own + k))) = gMul (gS (own + 7) fun i => gMul (gMul (gAdd (gOf ((dataT d).getD i 0)) (gOf (e i))) (gAdd (gOf ((dataT d).getD i 0)) (gOf (e i)))) (gMul (gOf (E (fac (own + 7) (own + 7 - 1 - i)))) (gOf (E ((own + 7 - 1 - i) * (t + k)))))) (gOf (q (one own + k))) := fun k => by
        rw [gOf_mul S2_lt (hq _), gOf_S2 hy2]
        congr 2
        funext i
        rw [hy, gOf_xor (hT i) (he i)]
      simp only [e1, e2]
      rfl)
    p a b c hp ha hb hc npa npb npc (fun i hi h1 h2 h3 h4 => by show gOf (e i) = _; rw [hz i hi h1 h2 h3 h4]; rfl) (fun z => hne (gOf_inj (he p) (by decide) z))
  refine gOf_inj (xs_lt fun _ _ => mul_lt _ _) (mul_lt _ _) ?_
  rw [gOf_mul (mul_lt _ _) (xs_lt fun _ _ => mul_lt _ _), gOf_mul (he p) (E_lt _), gOf_xs (fun _ _ => mul_lt _ _), gOf_xs (fun _ _ => mul_lt _ _)]
  refine Eq.trans ?_ (Eq.trans k ?_)
  · show gS _ _ = gS _ _
    congr 1
    funext k
    rw [gOf_mul (hq _) (E_lt _)]
    rfl
  · show gMul (gMul _ _) (gS _ _) = gMul (gMul _ _) (gS _ _)
    congr 2
    funext k
    rw [gOf_mul (hq _) (E_lt _)]
    rfl
/-- a polynomial's worth, from the top -/
def wor (p : Nat) (row : List Nat) : Nat := row.foldr (fun o t => (if t = 0 then 0 else E (L t + p)) ^^^ o) 0
theorem wor_lt {p : Nat} : ∀ {row : List Nat}, oct row → wor p row < 256
  | [], _ => (by decide : 0 < 256)
  | o :: r, h => by
    show (if wor p r = 0 then 0 else E (L (wor p r) + p)) ^^^ o < 256
    refine xor_lt ?_ (h o (.head _))
    split
    · decide
    · exact E_lt _
theorem xs_front {n : Nat} {f : Nat → Nat} : xs (n + 1) f = f 0 ^^^ xs n fun i => f (i + 1) := by
  induction n with
  | zero => simp [xs]
  | succ n ih =>
    rw [xs, ih]
    conv => rhs; rw [xs]
    rw [Nat.xor_assoc]
theorem L_lt {a : Nat} (h : a < 256) (h0 : a ≠ 0) : L a < 255 := by
  have := List.all_eq_true.mp fact_L a (List.mem_range.mpr h)
  simp only [Bool.or_eq_true, beq_iff_eq, Bool.and_eq_true, decide_eq_true_eq] at this
  rcases this with z | z
  · exact absurd z h0
  · exact z.1
theorem lift_eq {t p : Nat} (ht : t < 256) : (if t = 0 then 0 else E (L t + p)) = mul t (E p) := by
  by_cases h : t = 0
  · rw [if_pos h, h, zero_mul]
  · rw [if_neg h, mul_nz h (Nat.ne_of_gt (E_pos _)), L_E, E_period, E_period (L t + p % 255)]
    congr 1; omega
theorem wor_eq {p : Nat} : ∀ {row : List Nat}, oct row → wor p row = xs row.length fun k => mul (row.getD k 0) (E (p * k))
  | [], _ => rfl
  | o :: r, h => by
    have hr : oct r := fun v hv => h v (.tail _ hv)
    show (if wor p r = 0 then 0 else E (L (wor p r) + p)) ^^^ o = _
    rw [lift_eq (wor_lt hr), List.length_cons, xs_front, wor_eq hr, Nat.xor_comm]
    congr 1
    · show o = mul o (E (p * 0))
      rw [Nat.mul_zero, show E 0 = 1 by decide +kernel, mul_one (h o (.head _))]
    · rw [mul_comm, ← xs_mul (E_lt _) fun _ _ => mul_lt _ _]
      refine xs_congr fun i _ => ?_
      show mul (E p) (mul (r.getD i 0) _) = mul (r.getD i 0) _
      rw [mul_left, E_add, Nat.mul_add, Nat.mul_one, Nat.add_comm]
end Mine


open PySem PySem.W PyProof.Rows PySem.Calls PySem.SeqAt
set_option Elab.async false
set_option maxRecDepth 100000
set_option linter.unusedVariables false
set_option linter.unusedSimpArgs false
namespace Mine
variable {X : Cx} {n : Nat} {env : Env} {loc : Loc} {Γ : Led} {Q : V → Led → Prop}

/-! ## two instances of a class above tuple -/
theorem callBound_sub {prog : Program} {w : World} {A : Around} {E : Value → Shared → Prop} {s : Shared} {a C : Addr} {o : Obj} {name : Str} {T id : String} {args : List Value} {Q : Option Value → Shared → Prop} (ho : s.heap.get? a = some o) (hc : o.cls = .ref C)
    (L : Looks (model prog w) s.heap (typeLookup (.ref C) name) (some (.builtin id))) (S : Slot T name id)
    (hcall : wpAny (model prog w) A (call (.builtin id) (.ref a :: args)) (fun v => Q (some v)) E s) : wpAny (model prog w) A (callSpecialIfBound? (.ref a) name args) Q E s := by
  simp only [callSpecialIfBound?, bindSpecialIfBound?]
  refine wpAny_holding (wpAny_bind (wpAny_bind ?_))
  unfold specialOf
  refine wpAny_bind (wpAny_typeOf_ref ho ?_)
  rw [hc]
  refine L A _ E s (fun b o e => e) ?_
  simp only [S.bind]
  refine wpAny_bind (wpAny_askSetting (wpAny_ite ?_))
  have fin : wpAny (model prog w) A (call (.builtin id) ([.ref a] ++ args) >>= fun v => pure (some v)) Q E s :=
    wpAny_bind (wpAny_mono hcall (fun v s' h' => wpAny_pure h') fun _ _ h' => h')
  split
  · exact wpAny_bind (wpAny_pure (wpAny_pure fin))
  · exact wpAny_tryCatch (wpAny_bind (wpAny_pure (wpAny_pure fin)))
theorem tupEq_run {prog : Program} {w : World} {A : Around} {E : Value → Shared → Prop} {s : Shared} {a b : Addr} {o1 o2 : Obj} {x y : Int} {t1 t2 t3 t4 : Tok} {n1 n2 : Nat} {Q : Value → Shared → Prop} (ho1 : s.heap.get? a = some o1) (hd1 : o1.data = .seq #[.int x t1, .int y t2] n1)
    (ho2 : s.heap.get? b = some o2) (hd2 : o2.data = .seq #[.int x t3, .int y t4] n2)
    (hi1 : Looks (model prog w) s.heap (isInstance (.ref a) (.type "tuple")) true) (hi2 : Looks (model prog w) s.heap (isInstance (.ref b) (.type "tuple")) true) (h : Q (.bool true) s) : wpAny (model prog w) A (call (.builtin "tuple.__eq__") [.ref a, .ref b]) Q E s := by
  refine wpAny_call (codeAny_call_builtin PySem.F.slot_tuple_eq.plain PySem.F.entry_tuple_eq (@check_slot (model prog w) _ _ _ "tuple.__eq__" "tuple" "__eq__" (.ref a) [.ref b] [] _ (by decide +kernel) (by decide +kernel) hi1 (PySem.F.args_tuple_eq_2 _ _) ?_))
  have hit1 : ∀ {Q : Array Value → Shared → Prop} {E : Value → Shared → Prop} {A : Around}, Q #[.int x t1, .int y t2] s → wpAny (model prog w) A (Builtin.Tuple.tupleItemsOf (.ref a)) Q E s := fun q => by
    unfold Builtin.Tuple.tupleItemsOf
    exact wpAny_bind (wpAny_seqItems ho1 hd1 (wpAny_pure q))
  have hit2 : ∀ {Q : Array Value → Shared → Prop} {E : Value → Shared → Prop} {A : Around}, Q #[.int x t3, .int y t4] s → wpAny (model prog w) A (Builtin.Tuple.tupleItemsOf (.ref b)) Q E s := fun q => by
    unfold Builtin.Tuple.tupleItemsOf
    exact wpAny_bind (wpAny_seqItems ho2 hd2 (wpAny_pure q))
  show wpAny _ _ (isInstance (.ref b) (.type "tuple") >>= _) _ _ s
  refine wpAny_bind (hi2 _ _ _ s (fun b o e => e) ?_)
  simp only [Bool.not_true, Bool.false_eq_true, if_false]
  refine wpAny_bind (hit1 (wpAny_bind (hit2 ?_)))
  show wpAny _ _ (forIn [(Value.int x t1, Value.int x t3), (Value.int y t2, Value.int y t4)] _ _ >>= _) _ _ s
  have e1 : EqAt A.in1 s (.int x t1) (.int x t3) (x == x) := EqAt.int_int _ _ _ _
  have e2 : EqAt A.in1 s (.int y t2) (.int y t4) (y == y) := EqAt.int_int _ _ _ _
  rw [beq_self_eq_true] at e1 e2
  rw [List.forIn_cons]
  refine wpAny_bind (wpAny_bind ?_)
  refine wpAny_bind (e1 prog w _ _ ?_)
  rw [if_neg (by decide)]
  refine wpAny_pure ?_
  dsimp only
  rw [List.forIn_cons]
  refine wpAny_bind (wpAny_bind (e2 prog w _ _ ?_))
  rw [if_neg (by decide)]
  refine wpAny_pure ?_
  dsimp only
  rw [List.forIn_nil]
  refine wpAny_pure ?_
  exact wpAny_pure h
theorem eqAt_sub {K : Frag} {A : Around} {s : Shared} {a b C : Addr} {o1 o2 : Obj} {x y : Int} {t1 t2 t3 t4 : Tok} {n1 n2 : Nat} (hne : a ≠ b) (XK : K.In s.heap) (hs : subIn K (.ref C) (.type "tuple") = some true) (hf : findIn K (.ref C) (cmpInfo .Eq).2.1 = some (some (.builtin "tuple.__eq__"))) (hu : A.units < cLine)
    (ho1 : s.heap.get? a = some o1) (hc1 : o1.cls = .ref C) (hd1 : o1.data = .seq #[.int x t1, .int y t2] n1) (ho2 : s.heap.get? b = some o2) (hc2 : o2.cls = .ref C) (hd2 : o2.data = .seq #[.int x t3, .int y t4] n2) : EqAt A s (.ref a) (.ref b) true := by
  refine EqAt.of_refs hne fun prog w E Q h => ?_
  have isT : ∀ (c : Addr) (o : Obj), s.heap.get? c = some o → o.cls = .ref C → Looks (model prog w) s.heap (isInstance (.ref c) (.type "tuple")) true := fun c o ho hc A' Q' E' s' kp q => by
    unfold isInstance
    refine wpAny_bind (wpAny_typeOf_ref (kp _ _ ho) ?_)
    rw [hc]
    exact looks_subIn (M := model prog w) XK hs A' _ _ s' kp q
  have L : Looks (model prog w) s.heap (typeLookup (.ref C) (cmpInfo .Eq).2.1) (some (.builtin "tuple.__eq__")) := looks_findIn XK hf
  unfold richCompare
  refine wpAny_holding ?_
  refine wpAny_bind (wpAny_cRoomFor_or (.inr hu) ?_)
  show wpAny _ _ (typeOf (.ref a) >>= _) _ _ s
  refine wpAny_bind (wpAny_typeOf_ref ho1 ?_)
  refine wpAny_bind (wpAny_typeOf_ref ho2 ?_)
  rw [hc1, hc2]
  simp only [bne_self_eq_false, Bool.false_eq_true, if_false, pure_bind]
  refine wpAny_bind ?_
  unfold tryCompare
  refine wpAny_bind (callBound_sub ho1 hc1 L PySem.F.slot_tuple_eq ?_)
  exact tupEq_run ho1 hd1 ho2 hd2 (isT a o1 ho1 hc1) (isT b o2 ho2 hc2) (wpAny_pure (wpAny_pure h))
theorem pick_mem {e : Addr × O} : ∀ {Γ : Led}, e ∈ Γ → ∃ Γ₁, Pick Γ e Γ₁
  | x :: Γ, h => by
    rcases List.mem_cons.mp h with rfl | h
    · exact ⟨_, .here⟩
    · obtain ⟨Γ₁, p⟩ := pick_mem h
      exact ⟨_, .there p⟩
theorem refs_get {bs : List Addr} {vs : List Value} (r : VRs (bs.map .ref) vs) {j : Nat} (h1 : j < bs.length) (h2 : j < vs.toArray.size) : vs.toArray[j] = .ref bs[j] := by
  have hx : (bs.map V.ref)[j]? = some (.ref bs[j]) := by rw [List.getElem?_map, List.getElem?_eq_getElem h1]; rfl
  obtain ⟨v, hv, rv⟩ := r.get' hx
  cases (show v = .ref bs[j] from rv)
  rw [List.getElem_toArray]
  exact Option.some.inj ((List.getElem?_eq_getElem (by simpa using h2)).symm.trans hv)
theorem vrs_two {x y : Int} {vs : List Value} (r : VRs [.int x, .int y] vs) : ∃ t1 t2, vs = [.int x t1, .int y t2] := by
  obtain ⟨u, v, rfl, ⟨t1, rfl⟩, ⟨t2, rfl⟩⟩ := r.two
  exact ⟨t1, t2, rfl⟩
/-- lists of instances, one like the other -/
theorem cmp_blocks {o1 o2 : V} {a b C : Addr} {bs1 bs2 : List Addr} {x y : Int} (h1 : IsRef o1 a) (h2 : IsRef o2 b) (hx : (a, O.list (bs1.map .ref)) ∈ Γ) (hy : (b, O.list (bs2.map .ref)) ∈ Γ) (hl : bs1.length = bs2.length)
    (hp : ∀ (i : Nat) p q, bs1[i]? = some p → bs2[i]? = some q → ∃ d1 d2 Γ₁, Pick Γ (p, O.sub C d1 [.int x, .int y]) Γ₁ ∧ (q, O.sub C d2 [.int x, .int y]) ∈ Γ₁) (hs : subIn X.K (.ref C) (.type "tuple") = some true) (hf : findIn X.K (.ref C) (cmpInfo .Eq).2.1 = some (some (.builtin "tuple.__eq__")))
    (q : Q (.bool false) Γ) : cmpS X (n + 1) .NotEq o1 o2 Γ Q := by
  intro a' b' ra rb env loc
  cases h1.vr ra
  cases h2.vr rb
  refine Tri.quiet (b := .bool false) (fun A s Qc ok eo rm I k => ?_) ⟨rfl, q⟩
  have XK := ok.kin.keeps I.base
  obtain ⟨vs, hl1, r1⟩ := list_of (I.led _ hx)
  obtain ⟨ws, hl2, r2⟩ := list_of (I.led _ hy)
  have hu : A.units < cLine := by have := rm.units; omega
  have hu1 : A.in1.units < cLine := by have := rm.units; show A.units + 1 < _; omega
  have hv := r1.length
  have hw := r2.length
  rw [List.length_map] at hv hw
  have hsz : vs.toArray.size = ws.toArray.size := by rw [List.size_toArray, List.size_toArray, hv, hw, hl]
  have he : ∀ j (h1 : j < vs.toArray.size) (h2 : j < ws.toArray.size), EqAt A.in1 s vs.toArray[j] ws.toArray[j] true := fun j h1 h2 => by
    have k1 : j < bs1.length := by rw [List.size_toArray, hv] at h1; exact h1
    have k2 : j < bs2.length := by rw [List.size_toArray, hw] at h2; exact h2
    rw [refs_get r1 k1, refs_get r2 k2]
    obtain ⟨d1, d2, Γ₁, pk, hm⟩ := hp j _ _ (List.getElem?_eq_getElem k1) (List.getElem?_eq_getElem k2)
    have Iw := I.weak .refl (SubP.pick pk)
    have hne : bs1[j] ≠ bs2[j] := fun z => by
      have nd := Iw.nd
      rw [keys_cons] at nd
      have := (List.nodup_append.mp nd).2.2 bs1[j] (by simp [kf]) bs2[j] (mem_keys hm (by simp [kf]))
      exact this z
    obtain ⟨⟨v1, n1, e1, q1⟩, _⟩ := Iw.led _ (List.mem_cons_self)
    obtain ⟨⟨v2, n2, e2, q2⟩, _⟩ := Iw.led _ (List.mem_cons_of_mem _ hm)
    obtain ⟨t1, t2, rfl⟩ := vrs_two q1
    obtain ⟨t3, t4, rfl⟩ := vrs_two q2
    exact eqAt_sub hne XK hs hf hu1 e1 rfl rfl e2 rfl rfl
  refine RcNeAt.lists (e := fun _ => true) hl1 hl2 hsz hu he _ _ _ _ (k _ s.toks ?_)
  show Value.bool _ = Value.bool false
  simp
end Mine


open PySem PySem.W PyProof.Rows PySem.Calls PySem.SeqAt
set_option Elab.async false
set_option maxRecDepth 100000
set_option linter.unusedVariables false
set_option linter.unusedSimpArgs false
namespace Mine
variable {X : Cx} {n : Nat} {env : Env} {loc : Loc} {Γ : Led} {Q : V → Led → Prop}

/-! ## sorted, reverse -/
theorem ints_vrs' : ∀ {vs : List Value} {is : List Int}, IntsAre vs is → VRs (intsV is) vs
  | _, _, .nil => .nil
  | _, _, .cons n t r => .cons ⟨t, rfl⟩ (ints_vrs' r)
theorem callW_sorted {o : V} {a : Addr} {is : List Int} (ho : IsRef o a) (hL : LI X Γ a (intsV is)) (hlen : is.length < 64) (q : ∀ b is', is'.Perm is → is'.Pairwise (· ≤ ·) → Q (.ref b) ((b, .list (intsV is')) :: Γ)) : callW X n (.val (.builtin "sorted")) [o] Γ Q := by
  intro fv' vs' rf rvs env loc
  cases (show fv' = .builtin "sorted" from rf)
  obtain ⟨v', rfl, r⟩ := rvs.one
  cases ho.vr r
  intro A s Qc ok eo rm I k
  obtain ⟨vs, hl, r⟩ := hL env loc s.heap ok I
  have hlv := r.length
  rw [intsV_length] at hlv
  refine sorted_ints hl (vrs_ints r) (by omega) fun out ns' a1 a2 a3 => ?_
  obtain ⟨e, he⟩ := sortedAll_at s.heap vs out
  have kp : ∀ b o', s.heap.get? b = some o' → (sortedAll s.heap vs out).get? b = some o' := fun b o' e => sortedAll_old e
  have fr : ∀ b ∈ kf (s.heap.objs.size + 1, O.list (intsV ns')), s.heap.get? b = none := fun b hb => by
    rw [List.mem_singleton.mp hb]; exact Heap.get?_none_of_le (Nat.le_succ _)
  exact k (.ref _) _ loc _ { s with heap := sortedAll s.heap vs out } ⟨rfl, q _ ns' a2 a3⟩ rfl (I.grow kp fr (by simp [kf]) ⟨out.toList, e, by rw [he], ints_vrs' a1⟩) (Tr.grow kp fr rfl rfl)
theorem VRs.reverse {xs : List V} {vs : List Value} (r : VRs xs vs) : VRs xs.reverse vs.reverse := by
  induction r with
  | nil => exact .nil
  | cons r1 r ih =>
    rw [List.reverse_cons, List.reverse_cons]
    exact ih.append (.cons r1 .nil)
theorem callW_reverse {a : Addr} {xs : List V} {Γ₁ : Led} (hp : Pick Γ (a, O.list xs) Γ₁) (hlen : xs.length ≤ 1000000) (q : Q .none ((a, .list xs.reverse) :: Γ₁)) : callW X n (.val (.builtin "list.reverse")) [.ref a] Γ Q := by
  intro fv' vs' rf rvs env loc
  cases (show fv' = .builtin "list.reverse" from rf)
  obtain ⟨u', rfl, ru⟩ := rvs.one
  cases (show u' = .ref a from ru)
  refine Tri.pick hp fun A s Qc ok eo rm I k => ?_
  obtain ⟨vs, m, e, r⟩ := I.led (a, .list xs) (List.mem_cons_self)
  have hsz : vs.toArray.size ≤ sizeLine := by rw [List.size_toArray, r.length]; exact Nat.le_trans hlen (by decide)
  have M := @AutoListH.list_reverse_list_0 a vs.toArray m hsz
  have hT : s.TypeIs (.ref a) "list" := ⟨_, e, rfl⟩
  refine call_meets PySem.F.slot_list_reverse hT PySem.F.entry_list_reverse (PySem.F.args_list_reverse_1 _) M ⟨e, ?_⟩
  obtain ⟨m', hd'⟩ := Obj.data_mapSeq (o := { cls := .type "list", data := .seq vs.toArray m }) rfl (fun xs => xs.reverse)
  have ho' : (s.heap.update a (Obj.mapSeq fun xs => xs.reverse)).get? a = some { cls := .type "list", data := .seq vs.reverse.toArray m' } := by
    rw [Heap.get?_update_self _ e (Obj.isFreed_of_seq hd')]
    refine congrArg some ?_
    rw [show vs.reverse.toArray = vs.toArray.reverse by simp, ← hd']
    rfl
  have hs' : ∀ c, c ∉ kf (a, O.list xs) → (s.heap.update a (Obj.mapSeq fun xs => xs.reverse)).get? c = s.heap.get? c := fun c hc => (Heap.SameBut.update ..).2 c fun z => hc (by simp [kf, z])
  exact k .none _ loc _ { s with heap := _ } ⟨rfl, q⟩ rfl (I.upd (o' := .list xs.reverse) rfl hs' ⟨vs.reverse, _, ho', r.reverse⟩) (Tr.upd rfl hs' rfl rfl)

/-! ## dicts of the ledger -/
def putE (i : Int) (v : V) (es : List (Int × V)) : List (Int × V) := if es.any (fun p => p.1 = i) then es.map (fun p => if p.1 = i then (p.1, v) else p) else es ++ [(i, v)]
def valE (es : List (Int × V)) (i : Int) : Option V := (es.find? fun p => p.1 = i).map (·.2)
theorem EsR.any {es : List (Int × V)} {kvs : List (Int × Value)} (h : EsR es kvs) (i : Int) : kvs.any (fun p => p.1 = i) = es.any (fun p => p.1 = i) := by
  induction h with
  | nil => rfl
  | cons _ _ ih => rw [List.any_cons, List.any_cons, ih]
theorem EsR.append {es fs : List (Int × V)} {kvs ls : List (Int × Value)} (h : EsR es kvs) (h' : EsR fs ls) : EsR (es ++ fs) (kvs ++ ls) := by
  induction h with
  | nil => exact h'
  | cons r _ ih => exact .cons r ih
theorem EsR.put {es : List (Int × V)} {kvs : List (Int × Value)} (h : EsR es kvs) {i : Int} {v : V} {v' : Value} (r : VR v v') : EsR (putE i v es) (PySem.stored kvs i v') := by
  unfold putE PySem.stored
  rw [h.any i]
  split
  · rename_i hc
    clear hc
    induction h with
    | nil => exact .nil
    | @cons j u u' fs ks hr hs ih =>
      rw [List.map_cons, List.map_cons]
      by_cases e : j = i
      · simp only [e, if_true]
        exact .cons r (by simpa using ih)
      · simp only [e, if_false]
        exact .cons hr (by simpa using ih)
  · exact h.append (.cons r .nil)
theorem EsR.val {es : List (Int × V)} {kvs : List (Int × Value)} (h : EsR es kvs) (i : Int) : (∀ x, valE es i = some x → ∃ v', PySem.valueAt kvs i = some v' ∧ VR x v') ∧ (valE es i = none → PySem.valueAt kvs i = none) := by
  unfold valE PySem.valueAt
  induction h with
  | nil => exact ⟨fun x hx => (by cases hx), fun _ => rfl⟩
  | @cons j u u' fs ks hr hs ih =>
    rw [List.find?_cons, List.find?_cons]
    by_cases e : j = i
    · simp only [e, decide_true]
      exact ⟨fun x hx => (by cases hx; exact ⟨_, rfl, hr⟩), fun h => (by cases h)⟩
    · simp only [e, decide_false]
      exact ih
theorem setW_idict {a : Addr} {es : List (Int × V)} {ep : Nat} {i : Int} {v : V} {Γ₁ : Led} {Q : Led → Prop} (hp : Pick Γ (a, O.idict es ep) Γ₁) (hlen : es.length ≤ 1000) (q : ∀ ep', Q ((a, .idict (putE i v es) ep') :: Γ₁)) : setW X n (.ref a) (.int i) v Γ Q := by
  intro o' i' v' ro ri rv env loc
  cases (show o' = .ref a from ro)
  obtain ⟨t, rfl⟩ := ri
  refine Tri.pick hp fun A s Qc ok eo rm I k => ?_
  obtain ⟨hlo, kvs, hd, r⟩ := I.led (a, .idict es ep) (List.mem_cons_self)
  refine wpAny_setItem_pairs (intKind_is _ _ i t) hd.dictOf (fun h' hd' hs => ?_) (by rw [r.length]; exact Nat.le_trans hlen (by decide))
  obtain ⟨ep', hd'⟩ := hd'.dictAt
  have hs' : ∀ b, b ∉ kf (a, O.idict es ep) → h'.get? b = s.heap.get? b := fun b hb => hs.2 b fun z => hb (by simp [kf, z])
  exact k () () loc _ { s with heap := h', toks := s.toks + 1 } ⟨rfl, q ep'⟩ trivial (I.upd (o' := .idict (putE i v es) ep') rfl hs' ⟨hlo, _, hd', r.put rv⟩) (Tr.upd rfl hs' rfl rfl)
theorem subW_idict {a : Addr} {es : List (Int × V)} {ep : Nat} {i : Int} {x : V} (hm : (a, O.idict es ep) ∈ Γ) (hx : valE es i = some x) (q : Q x Γ) : subW X n (.ref a) (.int i) Γ Q := by
  intro o' i' ro ri env loc sl hsl
  cases (show o' = .ref a from ro)
  obtain ⟨t, rfl⟩ := ri
  refine Tri.quiet (b := x) (fun A s Qc ok eo rm I k => ?_) ⟨rfl, q⟩
  obtain ⟨hlo, kvs, hd, r⟩ := I.led _ hm
  obtain ⟨v', hv, rv⟩ := (r.val i).1 x hx
  have hT := hd.dictOf.typeIs
  rw [getitemInPython_of_ne hT.not_modules]
  refine wpAny_bind (wpAny_bind (wpAny_specialOf hT slot_dict_getitem.lookup (wpAny_pure ?_)))
  rw [hsl false]
  exact wpAny_operating (wpAny_getItem_of (intKind_is _ _ i t) hd.dictOf.mapOf hv (k v' _ rv))
theorem methR_dict {a : Addr} {es : List (Int × V)} {ep : Nat} {k : Nat} {id : String} (hm : (a, O.idict es ep) ∈ Γ) (hx : ∀ x, X.at_[k]? = some x → Slot "dict" x id) (hty : typeOf (.builtin id) = pure (.type "method_descriptor")) : methR X n Γ (.ref a) k (.builtin id) true := by
  intro ov' x rv hk env loc pl
  cases (show ov' = .ref a from rv)
  refine Tri.quiet (b := (.builtin id, [.ref a])) (fun A s Qc ok eo rm I kq => ?_) ⟨rfl, rfl, rfl⟩
  obtain ⟨hlo, kvs, hd, r⟩ := I.led _ hm
  refine getMethod_builtin (T := "dict") hd.dictOf.typeIs PySem.F.plainAttrs_dict (hx x hk) hty (fun b hb => ?_) (kq _ s.toks rfl)
  cases hb
  obtain ⟨o, es', ho, hc, _⟩ := hd
  exact ⟨o, ho, hc.2.1⟩
theorem callW_get {a : Addr} {es : List (Int × V)} {ep : Nat} {i d : Int} {x : V} (hm : (a, O.idict es ep) ∈ Γ) (hx : (valE es i).getD (.int d) = x) (q : Q x Γ) : callW X n (.val (.builtin "dict.get")) [.ref a, .int i, .int d] Γ Q := by
  intro fv' vs' rf rvs env loc
  cases (show fv' = .builtin "dict.get" from rf)
  cases rvs with
  | cons ra rvs =>
  obtain ⟨u', v', rfl, ⟨t, rfl⟩, ⟨t2, rfl⟩⟩ := rvs.two
  cases (show _ = Value.ref a from ra)
  refine Tri.quiet (b := x) (fun A s Qc ok eo rm I k => ?_) ⟨rfl, q⟩
  obtain ⟨hlo, kvs, hd, r⟩ := I.led _ hm
  refine call_meetsIn PySem.F.slot_dict_get hd.dictOf.typeIs PySem.F.entry_dict_get (PySem.F.args_dict_get_3 _ _ _) (meets_dict_get_default (PySem.intKind X.prog X.w) a (intKind_is _ _ i t) (not_sysModules ok hlo) (.int d t2)) ⟨_, hd.dictOf.mapOf, k _ _ ?_⟩
  obtain ⟨h1, h2⟩ := r.val i
  cases hv : valE es i with
  | none =>
    rw [hv] at hx
    rw [h2 hv, ← hx]
    exact ⟨t2, rfl⟩
  | some y =>
    rw [hv] at hx
    obtain ⟨v', e, rv⟩ := h1 y hv
    rw [e]
    cases hx
    exact rv
end Mine


open PySem PySem.W PyProof.Rows PySem.Calls PySem.SeqAt
set_option Elab.async false
set_option maxRecDepth 100000
set_option linter.unusedVariables false
set_option linter.unusedSimpArgs false
namespace Mine
variable {X : Cx} {n : Nat} {Γ : Led} {Q : V → Led → Prop}

theorem LocLe.z {l : Loc} : LocLe [] l := fun i v h => by simp at h
theorem LocLe.o {l' l : Loc} {x : Option V} (h : LocLe l' l) : LocLe (none :: l') (x :: l) := fun i v e => by
  cases i with
  | zero => simp at e
  | succ i => simpa using h i v (by simpa using e)
theorem LocLe.s {l' l : Loc} {x : Option V} (h : LocLe l' l) : LocLe (x :: l') (x :: l) := fun i v e => by
  cases i with
  | zero => simpa using e
  | succ i => simpa using h i v (by simpa using e)
theorem getD_get {l : List Nat} {i v : Nat} (h : l[i]? = some v) : l.getD i 0 = v := by rw [List.getD_eq_getElem?_getD, h]; rfl
theorem get_getD {l : List Nat} {i : Nat} (h : i < l.length) : l[i]? = some (l.getD i 0) := by
  rw [List.getD_eq_getElem?_getD, List.getElem?_eq_getElem h]; rfl
theorem Pick.mem {e : Addr × O} {Γ Γ₁ : Led} (h : Pick Γ e Γ₁) : e ∈ Γ := by
  induction h with
  | here => exact .head _
  | there _ ih => exact .tail _ ih
theorem bw_add {a b : Int} {Q : V → Led → Prop} (q : Q (.int (a + b)) Γ) : binW X n .Add (.int a) (.int b) Γ Q := q
theorem bw_sub {a b : Int} {Q : V → Led → Prop} (q : Q (.int (a - b)) Γ) : binW X n .Sub (.int a) (.int b) Γ Q := q
theorem bw_mul {a b : Int} {Q : V → Led → Prop} (h : -(2 ^ 64) < a ∧ a < 2 ^ 64) (q : Q (.int (a * b)) Γ) : binW X n .Mult (.int a) (.int b) Γ Q := ⟨.inl h, q⟩
theorem bw_mod {a b : Nat} {Q : V → Led → Prop} (h : b ≠ 0) (q : Q (.int (a % b : Nat)) Γ) : binW X n .Mod (.int a) (.int b) Γ Q := ⟨by omega, by rw [fmod_nat]; exact q⟩
theorem bw_xor {a b : Nat} {Q : V → Led → Prop} (q : Q (.int (a ^^^ b : Nat)) Γ) : binW X n .BitXor (.int a) (.int b) Γ Q := by
  show Q (.int (Builtin.bitXor a b)) Γ
  rw [bitXor_nat]; exact q
theorem bw_and {a b : Nat} {Q : V → Led → Prop} (q : Q (.int (a &&& b : Nat)) Γ) : binW X n .BitAnd (.int a) (.int b) Γ Q := by
  show Q (.int (Builtin.bitAnd a b)) Γ
  rw [bitAnd_nat]; exact q
theorem bw_or {a b : Nat} {Q : V → Led → Prop} (q : Q (.int (a ||| b : Nat)) Γ) : binW X n .BitOr (.int a) (.int b) Γ Q := by
  show Q (.int (Builtin.bitOr a b)) Γ
  rw [bitOr_nat]; exact q
theorem bw_shl {b : Nat} {Q : V → Led → Prop} (h : b ≤ 1000) (q : Q (.int (2 ^ b : Nat)) Γ) : binW X n .LShift (.int 1) (.int b) Γ Q := by
  refine ⟨by omega, by omega, by decide, ?_⟩
  rw [Int.toNat_natCast, Int.one_mul]
  have : ((2 ^ b : Nat) : Int) = (2 : Int) ^ b := by push_cast; rfl
  rw [← this]; exact q
theorem bw_shr {a b : Nat} {Q : V → Led → Prop} (q : Q (.int (a / 2 ^ b : Nat)) Γ) : binW X n .RShift (.int a) (.int b) Γ Q := by
  refine ⟨by omega, ?_⟩
  rw [Int.toNat_natCast]
  have : ((2 ^ b : Nat) : Int) = (2 : Int) ^ b := by push_cast; rfl
  rw [← this, fdiv_nat]; exact q

/-! ## the wedge -/
def ld (es : List (Nat × Nat)) : List (Int × V) := es.map fun p => ((p.1 : Int), V.int (p.2 : Nat))
def putN (k v : Nat) (es : List (Nat × Nat)) : List (Nat × Nat) := if es.any (fun p => p.1 = k) then es.map (fun p => if p.1 = k then (p.1, v) else p) else es ++ [(k, v)]
def getO (es : List (Nat × Nat)) (k : Nat) : Option Nat := (es.find? fun p => p.1 = k).map (·.2)
def getN (es : List (Nat × Nat)) (k : Nat) : Nat := (getO es k).getD 0
theorem any_ld (es : List (Nat × Nat)) (k : Nat) : (ld es).any (fun p => p.1 = (k : Int)) = es.any (fun p => p.1 = k) := by
  unfold ld
  induction es with
  | nil => rfl
  | cons p es ih =>
    rw [List.map_cons, List.any_cons, List.any_cons, ih]
    congr 1
    exact decide_eq_decide.mpr (by show ((p.1 : Int) = (k : Int)) ↔ _; omega)
theorem put_ld (es : List (Nat × Nat)) (k v : Nat) : putE k (.int v) (ld es) = ld (putN k v es) := by
  unfold putE putN
  rw [any_ld]
  split
  · unfold ld
    rw [List.map_map, List.map_map]
    refine List.map_congr_left fun p _ => ?_
    show (if (p.1 : Int) = (k : Int) then _ else _) = _
    by_cases e : p.1 = k
    · rw [if_pos (by omega)]
      show _ = (fun p : Nat × Nat => ((p.1 : Int), V.int (p.2 : Nat))) (if p.1 = k then (p.1, v) else p)
      rw [if_pos e]
    · rw [if_neg (by omega)]
      show _ = (fun p : Nat × Nat => ((p.1 : Int), V.int (p.2 : Nat))) (if p.1 = k then (p.1, v) else p)
      rw [if_neg e]
  · unfold ld; simp
theorem val_ld (es : List (Nat × Nat)) (k : Nat) : valE (ld es) k = (getO es k).map fun v : Nat => V.int v := by
  unfold valE getO ld
  induction es with
  | nil => rfl
  | cons p es ih =>
    rw [List.map_cons, List.find?_cons, List.find?_cons]
    have : (decide ((p.1 : Int) = (k : Int))) = decide (p.1 = k) := decide_eq_decide.mpr (by omega)
    show (match decide ((p.1 : Int) = (k : Int)) with | true => _ | false => _ : Option _).map _ = _
    rw [this]
    by_cases e : p.1 = k
    · simp only [e, decide_true]; rfl
    · simp only [e, decide_false]; exact ih
def OctD (es : List (Nat × Nat)) : Prop := ∀ p ∈ es, p.2 < 256
theorem put_oct {es : List (Nat × Nat)} {k v : Nat} (h : OctD es) (hv : v < 256) : OctD (putN k v es) := by
  unfold putN
  split
  · intro p hp
    obtain ⟨q, hq, rfl⟩ := List.mem_map.mp hp
    split
    · exact hv
    · exact h q hq
  · intro p hp
    rcases List.mem_append.mp hp with h' | h'
    · exact h p h'
    · cases List.mem_singleton.mp h'; exact hv
theorem put_len {es : List (Nat × Nat)} {k v : Nat} : (putN k v es).length ≤ es.length + 1 := by
  unfold putN; split <;> simp
theorem getN_lt {es : List (Nat × Nat)} {k : Nat} (h : OctD es) : getN es k < 256 := by
  unfold getN getO
  cases q : es.find? (fun p => p.1 = k) with
  | none => exact (by decide : 0 < 256)
  | some p => exact h p (List.mem_of_find?_eq_some q)
theorem getO_mem {es : List (Nat × Nat)} {p : Nat × Nat} (h : p ∈ es) : getO es p.1 = some (getN es p.1) := by
  unfold getN getO
  cases q : es.find? (fun q => q.1 = p.1) with
  | none =>
    have := List.find?_eq_none.mp q p h
    simp at this
  | some r => rfl
def stp (mark wv : Nat) (line : List Nat) (acc : List (Nat × Nat)) (s : Nat) : List (Nat × Nat) := if (mark / 2 ^ s) &&& 1 = 0 then putN (mark ||| 2 ^ s) (getN acc (mark ||| 2 ^ s) ^^^ mul wv (line.getD s 0)) acc else acc
def stpM (width : Nat) (W : List (Nat × Nat)) (line : List Nat) (acc : List (Nat × Nat)) (p : Nat × Nat) : List (Nat × Nat) := (List.range width).foldl (stp p.1 (getN W p.1) line) acc
def wstep (width : Nat) (W : List (Nat × Nat)) (line : List Nat) : List (Nat × Nat) := W.foldl (stpM width W line) []
def wzero (width : Nat) (row : List Nat) : List (Nat × Nat) := (List.range width).foldl (fun acc s => putN (2 ^ s) (row.getD s 0) acc) []
def wall (width : Nat) (rows : List (List Nat)) : List (Nat × Nat) := match rows with
  | [] => []
  | r :: rs => rs.foldl (wstep width) (wzero width r)
def fnd (width : Nat) (rows : List (List Nat)) : List Nat := (List.range width).map fun s => getN (wall width rows) ((2 ^ width - 1) ^^^ 2 ^ s)
def m_fndc : MSs := (.cons (.asgSub (.loc 2) (.bin .LShift (.int 1) (.loc 3)) (.sub (.sub (.loc 0) (.int 0)) (.loc 3))) .nil)
def m_fnddbaaT1 : MSs := (.cons (.asgSub (.loc 5) (.loc 7) (.bin .BitXor (.meth (.loc 5) 14 (.cons (.loc 7) (.cons (.int 0) .nil))) (.call (.val (.ref 320)) (.cons (.sub (.loc 2) (.loc 6)) (.cons (.sub (.loc 4) (.loc 3)) .nil))))) .nil)
def m_fnddbaaT : MSs := (.cons (.asg 7 (.bin .BitOr (.loc 6) (.bin .LShift (.int 1) (.loc 3)))) m_fnddbaaT1)
def m_fnddba : MSs := (.cons (.ite (.not (.val (.bin .BitAnd (.bin .RShift (.loc 6) (.loc 3)) (.int 1)))) m_fnddbaaT .nil) .nil)
def m_fnddb : MSs := (.cons (.loop (.loc 3) (.rng (.loc 1)) m_fnddba) .nil)
def m_fndd2 : MSs := (.cons (.asg 2 (.loc 5)) .nil)
def m_fndd1 : MSs := (.cons (.loop (.loc 6) (.over (.loc 2)) m_fnddb) m_fndd2)
def m_fndd : MSs := (.cons (.asg 5 .dict) m_fndd1)
def m_fnd5 : MSs := (.cons (.ret (.comp [none, none, some 2, some 8] (.loc 1) (.rng (.loc 1)) .tt (.sub (.loc 2) (.bin .BitXor (.loc 3) (.bin .LShift (.int 1) (.loc 1)))))) .nil)
def m_fnd4 : MSs := (.cons (.asg 8 (.bin .Sub (.bin .LShift (.int 1) (.loc 1)) (.int 1))) m_fnd5)
def m_fnd3 : MSs := (.cons (.loop (.loc 4) (.over (.slice (.loc 0) (.int 1) .none .none)) m_fndd) m_fnd4)
def m_fnd2 : MSs := (.cons (.loop (.loc 3) (.rng (.loc 1)) m_fndc) m_fnd3)
def m_fnd1 : MSs := (.cons (.asg 2 .dict) m_fnd2)
def m_fnd : MSs := (.cons (.asg 1 (.call (.val (.builtin "len")) (.cons (.sub (.loc 0) (.int 0)) .nil))) m_fnd1)
def m_liftabT : MSs := (.cons (.aug 0 .BitXor (.int 285)) .nil)
def m_lifta1 : MSs := (.cons (.ite (.cmp .Gt (.loc 0) (.int 255)) m_liftabT .nil) .nil)
def m_lifta : MSs := (.cons (.asg 0 (.bin .Mult (.loc 0) (.int 2))) m_lifta1)
def m_lift1 : MSs := (.cons (.ret (.loc 0)) .nil)
def m_lift : MSs := (.cons (.loop (.loc 2) (.rng (.loc 1)) m_lifta) m_lift1)
end Mine


open PySem PySem.W PyProof.Rows PySem.Calls PySem.SeqAt
set_option Elab.async false
set_option maxRecDepth 100000
set_option linter.unusedVariables false
set_option linter.unusedSimpArgs false
namespace Mine
variable {X : Cx} {n : Nat} {Γ : Led} {Q : V → Led → Prop}

theorem not_nz {x : Nat} (h : (!((x : Int) != 0)) = true) : x = 0 := by simpa using h
theorem is_nz {x : Nat} (h : (!((x : Int) != 0)) = false) : ¬ x = 0 := by simpa using h
theorem lift_spec {A : Addr} (h : FnIs X A 2 [some 0, some 1, none] m_lift) {a k : Nat} (ha : a < 256) (hk : k ≤ 1000) (q : Q (.int (xtn k a : Nat)) Γ) : keepsW X (.val (.ref A)) ∧ callW X (n + 1) (.val (.ref A)) [.int a, .int k] Γ Q := by
  refine h.w rfl ?_
  simp only [m_lift, wpSs, wpS, wpE, wpI]
  refine ⟨_, rfl, _, rfl, by omega, by omega, ?_⟩
  refine ⟨k, fun j loc Γ' => j ≤ k ∧ loc = [some (.int (xtn j a : Nat)), some (.int k), none] ∧ Γ' = Γ, ⟨Nat.zero_le _, rfl, rfl⟩, ?_⟩
  rintro j loc Γ' ⟨hj, rfl, rfl⟩
  refine ⟨hj, fun hlt => ?_, fun hge => ?_⟩
  · have hlt : j < k := by omega
    have hb := xtn_lt ha j
    simp only [tgW, m_lifta, wpSs, wpS, wpE]
    refine ⟨_, rfl, bw_mul ⟨by omega, by omega⟩ ?_⟩
    rw [show ((xtn j a : Int) * 2) = ((2 * xtn j a : Nat) : Int) by omega]
    simp only [m_lifta1, wpSs, wpS, wpE, wpT]
    refine ⟨_, rfl, ?_⟩
    simp only [cmpW, truthW]
    have hes : xtn (j + 1) a = if 2 * xtn j a > 255 then 2 * xtn j a ^^^ 285 else 2 * xtn j a := rfl
    refine ⟨fun h => ?_, fun h => ?_⟩
    · have hgt : 2 * xtn j a > 255 := by simp at h; omega
      rw [if_pos hgt] at hes
      simp only [m_liftabT, wpSs, wpS, wpE]
      refine ⟨_, rfl, ?_⟩
      rw [show (285 : Int) = ((285 : Nat) : Int) from rfl]
      simp only [inW, bitXor_nat]
      rw [← hes]
      exact ⟨_, _, .s (.s (.o .z)), .refl, hlt, rfl, rfl⟩
    · have hng : ¬ 2 * xtn j a > 255 := by simp at h; omega
      rw [if_neg hng] at hes
      rw [← hes]
      exact ⟨_, _, .s (.s (.o .z)), .refl, hlt, rfl, rfl⟩
  · have hke : j = k := by omega
    subst hke
    simp only [m_lift1, wpSs, wpS, wpE]
    exact ⟨_, rfl, _, .refl, q⟩
theorem foldl_oct {f : List (Nat × Nat) → Nat → List (Nat × Nat)} {l : List Nat} {acc : List (Nat × Nat)} (h : OctD acc) (hf : ∀ acc s, OctD acc → OctD (f acc s)) : OctD (l.foldl f acc) := by
  induction l generalizing acc with
  | nil => exact h
  | cons a l ih => exact ih (hf _ _ h)
theorem stp_oct {mark wv s : Nat} {line : List Nat} {acc : List (Nat × Nat)} (h : OctD acc) : OctD (stp mark wv line acc s) := by
  unfold stp
  split
  · exact put_oct h (xor_lt (getN_lt h) (mul_lt _ _))
  · exact h
theorem stp_len {mark wv s : Nat} {line : List Nat} {acc : List (Nat × Nat)} : (stp mark wv line acc s).length ≤ acc.length + 1 := by
  unfold stp
  split
  · exact put_len
  · omega
theorem range_fold {β : Type} {f : β → Nat → β} {b : β} {k : Nat} : (List.range (k + 1)).foldl f b = f ((List.range k).foldl f b) k := by
  rw [List.range_succ, List.foldl_append]; rfl
def inn (mark wv : Nat) (line : List Nat) (acc : List (Nat × Nat)) (j : Nat) : List (Nat × Nat) := (List.range j).foldl (stp mark wv line) acc
theorem inn_succ {mark wv j : Nat} {line : List Nat} {acc : List (Nat × Nat)} : inn mark wv line acc (j + 1) = stp mark wv line (inn mark wv line acc j) j := range_fold
theorem inn_oct {mark wv j : Nat} {line : List Nat} {acc : List (Nat × Nat)} (h : OctD acc) : OctD (inn mark wv line acc j) := foldl_oct h fun _ _ => stp_oct
theorem inn_len {mark wv : Nat} {line : List Nat} {acc : List (Nat × Nat)} : ∀ j, (inn mark wv line acc j).length ≤ acc.length + j
  | 0 => Nat.le_refl _
  | j + 1 => by
    rw [inn_succ]
    have := inn_len (mark := mark) (wv := wv) (line := line) (acc := acc) j
    have := stp_len (mark := mark) (wv := wv) (s := j) (line := line) (acc := inn mark wv line acc j)
    omega
def outr (width : Nat) (W : List (Nat × Nat)) (line : List Nat) (k : Nat) : List (Nat × Nat) := (W.take k).foldl (stpM width W line) []
theorem outr_succ {width k : Nat} {W : List (Nat × Nat)} {line : List Nat} {p : Nat × Nat} (h : W[k]? = some p) : outr width W line (k + 1) = inn p.1 (getN W p.1) line (outr width W line k) width := by
  unfold outr
  rw [List.take_add_one, h, List.foldl_append]; rfl
theorem outr_oct {width : Nat} {W : List (Nat × Nat)} {line : List Nat} : ∀ k, OctD (outr width W line k)
  | 0 => fun p hp => by simp [outr] at hp
  | k + 1 => by
    cases h : W[k]? with
    | none =>
      have : W.length ≤ k := List.getElem?_eq_none_iff.mp h
      have e : outr width W line (k + 1) = outr width W line k := by unfold outr; rw [List.take_of_length_le (by omega), List.take_of_length_le (by omega)]
      rw [e]; exact outr_oct k
    | some p => rw [outr_succ h]; exact inn_oct (outr_oct k)
theorem outr_len {width : Nat} {W : List (Nat × Nat)} {line : List Nat} : ∀ k, (outr width W line k).length ≤ k * width
  | 0 => by simp [outr]
  | k + 1 => by
    have ih := outr_len (width := width) (W := W) (line := line) k
    cases h : W[k]? with
    | none =>
      have : W.length ≤ k := List.getElem?_eq_none_iff.mp h
      have e : outr width W line (k + 1) = outr width W line k := by unfold outr; rw [List.take_of_length_le (by omega), List.take_of_length_le (by omega)]
      rw [e, Nat.succ_mul]; omega
    | some p =>
      rw [outr_succ h]
      have := inn_len (mark := p.1) (wv := getN W p.1) (line := line) (acc := outr width W line k) width
      rw [Nat.succ_mul]; omega
theorem ld_len {es : List (Nat × Nat)} : (ld es).length = es.length := by simp [ld]
theorem val_is {es : List (Nat × Nat)} {k v : Nat} (h : getO es k = some v) : valE (ld es) k = some (.int (v : Nat)) := by rw [val_ld, h]; rfl
theorem val_get {es : List (Nat × Nat)} {k : Nat} : (valE (ld es) k).getD (.int 0) = .int (getN es k : Nat) := by
  rw [val_ld]
  unfold getN
  cases getO es k <;> rfl
theorem pow_le {s : Nat} (h : s ≤ 10) : 2 ^ s ≤ 1024 := Nat.pow_le_pow_right (by decide) h
/-- one line more -/
theorem fnd_line (P : PolyF X) (ht : FnIs X 320 2 [some 0, some 1] m_times) (Pget : ∀ x, X.at_[14]? = some x → Slot "dict" x "dict.get") {wd la : Addr} {width ep : Nat} {W : List (Nat × Nat)} {line : List Nat} {s0 s8 : Option V} {Qs : Fl → Loc → Led → Prop}
    (hwd : (wd, O.idict (ld W) ep) ∈ Γ) (hla : (la, O.list (ns line)) ∈ Γ) (hw : width ≤ 4) (hWl : W.length ≤ 64) (hll : line.length = width) (oW : OctD W) (ol : oct line)
    (q : ∀ wi ep', Qs .next [s0, some (.int width), some (.ref wi), none, some (.ref la), some (.ref wi), none, none, s8] ((wi, O.idict (ld (wstep width W line)) ep') :: Γ)) :
    wpSs X (n + 2) m_fndd [s0, some (.int width), some (.ref wd), none, some (.ref la), none, none, none, s8] Γ Qs := by
  simp only [m_fndd, wpSs, wpS, wpE]
  intro wi ep0
  simp only [m_fndd1, wpSs, wpS, wpE, wpI]
  refine ⟨_, rfl, wd, rfl, .inr (.inr ⟨_, ep, .tail _ hwd, ?_⟩)⟩
  rw [ld_len]
  refine ⟨W.length, fun k loc Γ' => k ≤ W.length ∧ loc = [s0, some (.int width), some (.ref wd), none, some (.ref la), some (.ref wi), none, none, s8] ∧ ∃ e, Γ' = (wi, O.idict (ld (outr width W line k)) e) :: Γ, ⟨Nat.zero_le _, rfl, ep0, rfl⟩, ?_⟩
  rintro k loc Γ' ⟨hk, rfl, e, rfl⟩
  refine ⟨hk, _, .tail _ hwd, ld_len, fun p hp => ?_, fun hge => ?_⟩
  · unfold ld at hp
    rw [List.getElem?_map] at hp
    obtain ⟨r, hr, rfl⟩ := Option.map_eq_some_iff.mp hp
    have hlt : k < W.length := (List.getElem?_eq_some_iff.mp hr).1
    have hkw : k * width ≤ 63 * 4 := Nat.mul_le_mul (by omega) hw
    have hol := outr_len (width := width) (W := W) (line := line) k
    have hwv := getN_lt (k := r.1) oW
    have hval := val_is (getO_mem (List.mem_of_getElem? hr))
    simp only [tgW, m_fnddb, wpSs, wpS, wpE, wpI]
    refine ⟨_, rfl, _, rfl, by omega, by omega, ?_⟩
    refine ⟨width, fun j loc Γ' => j ≤ width ∧ loc = [s0, some (.int width), some (.ref wd), none, some (.ref la), some (.ref wi), some (.int (r.1 : Nat)), none, s8] ∧ ∃ e, Γ' = (wi, O.idict (ld (inn r.1 (getN W r.1) line (outr width W line k) j)) e) :: Γ, ⟨Nat.zero_le _, rfl, e, rfl⟩, ?_⟩
    rintro j loc Γ' ⟨hj, rfl, e, rfl⟩
    refine ⟨hj, fun hlt2 => ?_, fun hge => ?_⟩
    · have hlt2 : j < width := by omega
      rw [Int.zero_add]
      have ho := inn_oct (mark := r.1) (wv := getN W r.1) (line := line) (j := j) (outr_oct (width := width) (W := W) (line := line) k)
      have hl2 := inn_len (mark := r.1) (wv := getN W r.1) (line := line) (acc := outr width W line k) j
      have hsc := inn_succ (mark := r.1) (wv := getN W r.1) (line := line) (acc := outr width W line k) (j := j)
      generalize inn r.1 (getN W r.1) line (outr width W line k) j = acc at *
      simp only [tgW, m_fnddba, wpSs, wpS, wpE, wpT]
      refine ⟨_, rfl, _, rfl, bw_shr ?_⟩
      refine bw_and (b := 1) ?_
      simp only [truthW]
      refine ⟨fun hc => ?_, fun hc => ?_⟩
      · have hc0 : (r.1 / 2 ^ j) &&& 1 = 0 := not_nz hc
        simp only [m_fnddbaaT, wpSs, wpS, wpE]
        refine ⟨_, rfl, _, rfl, bw_shl (by omega) (bw_or ?_)⟩
        have hlj := get_getD (l := line) (i := j) (by omega)
        simp only [m_fnddbaaT1, wpSs, wpS, wpE, wpEs]
        refine ⟨.ref wi, rfl, .builtin "dict.get", true, methR_dict mem1 Pget PySem.F.type_dict_get, _, rfl, keeps_builtin, callW_get mem1 val_get ?_⟩
        refine ⟨.ref wd, rfl, .int (r.1 : Nat), rfl, ?_⟩
        refine subW_idict (.tail _ hwd) hval ?_
        refine ⟨.ref la, rfl, .int j, rfl, ?_⟩
        refine subW_list isRef (LI.led (.tail _ hla)) (getW_list isRef (LI.led (.tail _ hla)) (by omega) (by omega) (x := .int (line.getD j 0 : Nat)) (by rw [Int.toNat_natCast]; exact ns_get hlj) ?_)
        refine times_spec P ht hwv (getD_oct ol j) (bw_xor ?_)
        refine ⟨.ref wi, rfl, .int (r.1 ||| 2 ^ j : Nat), rfl, ?_⟩
        refine setW_idict .here (by rw [ld_len]; omega) fun e' => ?_
        rw [put_ld]
        refine ⟨_, _, ?_, .refl, hlt2, rfl, e', ?_⟩
        · exact .s (.s (.s (.o (.s (.s (.s (.o (.s .z))))))))
        · rw [hsc]
          unfold stp
          rw [if_pos hc0]
      · have hc0 : ¬ (r.1 / 2 ^ j) &&& 1 = 0 := is_nz hc
        refine ⟨_, _, ?_, .refl, hlt2, rfl, e, ?_⟩
        · exact .s (.s (.s (.o (.s (.s (.s (.o (.s .z))))))))
        · rw [hsc]
          unfold stp
          rw [if_neg hc0]
    · have hje : j = width := by omega
      subst hje
      refine ⟨_, _, ?_, .refl, hlt, rfl, e, ?_⟩
      · exact .s (.s (.s (.o (.s (.s (.o (.o (.s .z))))))))
      · rw [outr_succ hr]
  · have hke : k = W.length := by omega
    subst hke
    simp only [m_fndd2, wpSs, wpS, wpE]
    have eo : outr width W line W.length = wstep width W line := by unfold outr wstep; rw [List.take_of_length_le (Nat.le_refl _)]
    rw [eo]
    exact ⟨_, rfl, q wi e⟩
end Mine


open PySem PySem.W PyProof.Rows PySem.Calls PySem.SeqAt
set_option Elab.async false
set_option maxRecDepth 100000
set_option linter.unusedVariables false
set_option linter.unusedSimpArgs false
namespace Mine
variable {X : Cx} {n : Nat} {Γ : Led} {Q : V → Led → Prop}

def wz (row : List Nat) (k : Nat) : List (Nat × Nat) := (List.range k).foldl (fun acc s => putN (2 ^ s) (row.getD s 0) acc) []
theorem wz_succ {row : List Nat} {k : Nat} : wz row (k + 1) = putN (2 ^ k) (row.getD k 0) (wz row k) := range_fold
theorem wz_len {row : List Nat} : ∀ k, (wz row k).length ≤ k
  | 0 => by simp [wz]
  | k + 1 => by
    rw [wz_succ]
    have := wz_len (row := row) k
    have := put_len (es := wz row k) (k := 2 ^ k) (v := row.getD k 0)
    omega
theorem wz_oct {row : List Nat} (h : oct row) : ∀ k, OctD (wz row k)
  | 0 => fun p hp => by simp [wz] at hp
  | k + 1 => by rw [wz_succ]; exact put_oct (wz_oct h k) (getD_oct h k)
theorem wstep_oct {width : Nat} {W : List (Nat × Nat)} {line : List Nat} : OctD (wstep width W line) := by
  have := outr_oct (width := width) (W := W) (line := line) W.length
  unfold outr at this
  rwa [List.take_of_length_le (Nat.le_refl _)] at this
theorem wstep_len {width : Nat} {W : List (Nat × Nat)} {line : List Nat} : (wstep width W line).length ≤ W.length * width := by
  have := outr_len (width := width) (W := W) (line := line) W.length
  unfold outr at this
  rwa [List.take_of_length_le (Nat.le_refl _)] at this
def wk (width : Nat) (rows : List (List Nat)) (k : Nat) : List (Nat × Nat) := ((rows.drop 1).take k).foldl (wstep width) (wz (rows.headD []) width)
theorem wk_succ {width k : Nat} {rows : List (List Nat)} {line : List Nat} (h : (rows.drop 1)[k]? = some line) : wk width rows (k + 1) = wstep width (wk width rows k) line := by
  unfold wk
  rw [List.take_add_one, h, List.foldl_append]; rfl
theorem wk_oct {width : Nat} {rows : List (List Nat)} (h : ∀ r ∈ rows, oct r) : ∀ k, OctD (wk width rows k) := by
  intro k
  induction k with
  | zero =>
    refine wz_oct ?_ _
    cases rows with
    | nil => exact fun v hv => by simp at hv
    | cons r rs => exact h r (.head _)
  | succ k ih =>
    cases e : (rows.drop 1)[k]? with
    | none =>
      have : (rows.drop 1).length ≤ k := List.getElem?_eq_none_iff.mp e
      have e2 : wk width rows (k + 1) = wk width rows k := by unfold wk; rw [List.take_of_length_le (by omega), List.take_of_length_le (by omega)]
      rw [e2]; exact ih
    | some line => rw [wk_succ e]; exact wstep_oct
theorem wk_len {width : Nat} {rows : List (List Nat)} (hw : width ≤ 4) : ∀ k, k ≤ 2 → (wk width rows k).length ≤ 4 ^ (k + 1) := by
  intro k
  induction k with
  | zero => intro _; exact Nat.le_trans (wz_len _) hw
  | succ k ih =>
    intro hk
    have i := ih (by omega)
    cases e : (rows.drop 1)[k]? with
    | none =>
      have : (rows.drop 1).length ≤ k := List.getElem?_eq_none_iff.mp e
      have e2 : wk width rows (k + 1) = wk width rows k := by unfold wk; rw [List.take_of_length_le (by omega), List.take_of_length_le (by omega)]
      rw [e2]
      exact Nat.le_trans i (Nat.pow_le_pow_right (by decide) (by omega))
    | some line =>
      rw [wk_succ e, Nat.pow_succ]
      exact Nat.le_trans wstep_len (Nat.mul_le_mul i hw)
theorem fnd_spec (P : PolyF X) (ht : FnIs X 320 2 [some 0, some 1] m_times) (Pget : ∀ x, X.at_[14]? = some x → Slot "dict" x "dict.get") {A : Addr} (h : FnIs X A 1 [some 0, none, none, none, none, none, none, none, none] m_fnd) {sa : Addr} {ads : List Addr} {rows : List (List Nat)} {width : Nat}
    (hs : (sa, O.list (ads.map .ref)) ∈ Γ) (hlen : ads.length = rows.length) (hr : ∀ (i : Nat) a r, ads[i]? = some a → rows[i]? = some r → (a, O.list (ns r)) ∈ Γ) (hrw : ∀ r ∈ rows, r.length = width ∧ oct r) (hw : width ≤ 4) (h1 : 1 ≤ rows.length) (h3 : rows.length ≤ 3)
    (hfin : ∀ s < width, ∃ v, getO (wall width rows) ((2 ^ width - 1) ^^^ 2 ^ s) = some v) (q : ∀ r, Q (.ref r) ((r, O.list (ns (fnd width rows))) :: Γ)) : keepsW X (.val (.ref A)) ∧ callW X (n + 3) (.val (.ref A)) [.ref sa] Γ Q := by
  refine h.w (n := n + 2) rfl ?_
  obtain ⟨r0, rs, rfl⟩ : ∃ r0 rs, rows = r0 :: rs := by
    cases rows with
    | nil => simp at h1
    | cons r rs => exact ⟨r, rs, rfl⟩
  obtain ⟨a0, as, rfl⟩ : ∃ a0 as, ads = a0 :: as := by
    cases ads with
    | nil => simp at hlen
    | cons r rs => exact ⟨r, rs, rfl⟩
  have hm0 := hr 0 a0 r0 rfl rfl
  obtain ⟨hl0, ho0⟩ := hrw r0 (.head _)
  simp only [List.length_cons] at hlen h3
  simp only [m_fnd, wpSs, wpS, wpE, wpEs]
  refine ⟨.ref sa, rfl, ?_⟩
  refine subW_list isRef (LI.led hs) (getW_list isRef (LI.led hs) (by decide) (by decide) (x := .ref a0) rfl ?_)
  refine ⟨keeps_builtin, callW_len_list isRef (LI.led hm0) (by rw [ns_length]; omega) ?_⟩
  rw [ns_length, hl0]
  simp only [m_fnd1, wpSs, wpS, wpE]
  intro wd0 ep0
  simp only [m_fnd2, wpSs, wpS, wpE, wpI]
  refine ⟨_, rfl, _, rfl, by omega, by omega, ?_⟩
  refine ⟨width, fun k loc Γ' => k ≤ width ∧ loc = [some (.ref sa), some (.int width), some (.ref wd0), none, none, none, none, none, none] ∧ ∃ e, Γ' = (wd0, O.idict (ld (wz r0 k)) e) :: Γ, ⟨Nat.zero_le _, rfl, ep0, rfl⟩, ?_⟩
  rintro k loc Γ' ⟨hk, rfl, e, rfl⟩
  refine ⟨hk, fun hlt => ?_, fun hge => ?_⟩
  · have hlt : k < width := by omega
    rw [Int.zero_add]
    have hg := get_getD (l := r0) (i := k) (by omega)
    have hwl := wz_len (row := r0) k
    simp only [tgW, m_fndc, wpSs, wpS, wpE]
    refine ⟨.ref sa, rfl, ?_⟩
    refine subW_list isRef (LI.led (.tail _ hs)) (getW_list isRef (LI.led (.tail _ hs)) (by decide) (by decide) (x := .ref a0) rfl ?_)
    refine ⟨.int k, rfl, ?_⟩
    refine subW_list isRef (LI.led (.tail _ hm0)) (getW_list isRef (LI.led (.tail _ hm0)) (by omega) (by omega) (x := .int (r0.getD k 0 : Nat)) (by rw [Int.toNat_natCast]; exact ns_get hg) ?_)
    refine ⟨.ref wd0, rfl, .int k, rfl, bw_shl (by omega) ?_⟩
    refine setW_idict .here (by rw [ld_len]; omega) fun e' => ?_
    rw [put_ld, ← wz_succ]
    exact ⟨_, _, .s (.s (.s (.o (fun _ _ h => h)))), .refl, hlt, rfl, e', rfl⟩
  · have hke : k = width := by omega
    subst hke
    simp only [m_fnd3, wpSs, wpS, wpE, wpI]
    refine ⟨.ref sa, rfl, ?_⟩
    refine slW_list (lo := some ((1 : Nat) : Int)) (hi := none) (sp := none) isRef (LI.led (.tail _ hs)) rfl rfl rfl (by simp) (by simp; omega) fun sl => ?_
    rw [sliceV_from (by simp), show ((a0 :: as).map V.ref).drop 1 = as.map V.ref from rfl]
    refine ⟨sl, rfl, .inl ⟨_, mem1, ?_⟩⟩
    refine ⟨as.length, fun j loc Γ' => j ≤ as.length ∧ ∃ wd ep Δ, loc = [some (.ref sa), some (.int k), some (.ref wd), none, none, none, none, none, none] ∧ Γ' = Δ ++ (sl, O.list (as.map .ref)) :: (wd0, O.idict (ld (wz r0 k)) e) :: Γ ∧ (wd, O.idict (ld (wk k (r0 :: rs) j)) ep) ∈ Γ', ⟨Nat.zero_le _, wd0, e, [], rfl, rfl, .tail _ mem1⟩, ?_⟩
    rintro j loc Γ' ⟨hj, wd, ep, Δ, rfl, rfl, hwd⟩
    refine ⟨hj, _, mem_app Δ mem1, fun v hv => ?_, fun hge => ?_⟩
    · rw [List.getElem?_map] at hv
      obtain ⟨ad, had, rfl⟩ := Option.map_eq_some_iff.mp hv
      have hlt : j < as.length := (List.getElem?_eq_some_iff.mp had).1
      obtain ⟨line, hline⟩ : ∃ r, rs[j]? = some r := ⟨_, List.getElem?_eq_getElem (by omega)⟩
      obtain ⟨hl, ho⟩ := hrw line (.tail _ (List.mem_of_getElem? hline))
      have hml := hr (j + 1) ad line (by simpa using had) (by simpa using hline)
      have hb := wk_len (rows := r0 :: rs) hw j (by omega)
      have hb2 : 4 ^ (j + 1) ≤ 64 := Nat.pow_le_pow_right (n := 4) (by decide) (by omega : j + 1 ≤ 3)
      simp only [tgW]
      refine fnd_line P ht Pget (n := n) (W := wk k (r0 :: rs) j) (line := line) hwd (mem_app Δ (.tail _ (.tail _ hml))) hw (Nat.le_trans hb hb2) hl (wk_oct (fun r hr' => (hrw r hr').2) j) ho fun wi ep' => ?_
      refine ⟨_, _, ?_, .refl, hlt, wi, ep', (wi, _) :: Δ, rfl, rfl, ?_⟩
      · exact .s (.s (.s (.o (.o (.o (.o (.o (.o .z))))))))
      · rw [wk_succ (line := line) (by simpa using hline)]
        exact mem1
    · have hje : j = as.length := by rw [List.length_map] at hge; omega
      subst hje
      have ew : wk k (r0 :: rs) as.length = wall k (r0 :: rs) := by
        unfold wk wall
        rw [List.take_of_length_le (by simp; omega)]
        rfl
      rw [ew] at hwd
      simp only [m_fnd4, wpSs, wpS, wpE]
      refine ⟨.int k, rfl, bw_shl (by omega) (bw_sub ?_)⟩
      have hp : 1 ≤ 2 ^ k := Nat.one_le_two_pow
      rw [show (((2 ^ k : Nat) : Int) - 1) = ((2 ^ k - 1 : Nat) : Int) by omega]
      simp only [m_fnd5, wpSs, wpS, wpE, wpI, wpT]
      refine ⟨.int k, rfl, _, rfl, by omega, by omega, fun acc => ?_⟩
      refine ⟨k, fun s ys Γ2 => s ≤ k ∧ ys = ns ((fnd k (r0 :: rs)).take s) ∧ Γ2 = Δ ++ (sl, O.list (as.map .ref)) :: (wd0, O.idict (ld (wz r0 k)) e) :: Γ, ⟨Nat.zero_le _, by simp [ns], rfl⟩, ?_⟩
      rintro s ys Γ2 ⟨hs', rfl, rfl⟩
      have lf : (fnd k (r0 :: rs)).length = k := by simp [fnd]
      refine ⟨hs', by rw [ns_length]; simp; omega, fun hlt => ?_, fun hge => ?_⟩
      · have hlt : s < k := by omega
        rw [Int.zero_add]
        obtain ⟨v, hv⟩ := hfin s hlt
        show _ ∧ _
        refine ⟨fun h => by simp at h, fun _ => ⟨.ref wd, rfl, .int (2 ^ k - 1 : Nat), rfl, .int s, rfl, bw_shl (by omega) (bw_xor ?_)⟩⟩
        refine subW_idict (.tail _ hwd) (val_is hv) ?_
        refine ⟨_, .refl, hlt, ?_, rfl⟩
        have e1 : (fnd k (r0 :: rs))[s]? = some v := by
          unfold fnd
          rw [List.getElem?_map, List.getElem?_range hlt, Option.map_some]
          unfold getN
          rw [hv]; rfl
        rw [List.take_add_one, e1]
        simp [ns]
      · have hse : s = k := by omega
        subst hse
        rw [List.take_of_length_le (by omega)]
        exact ⟨_, .cons .here (SubP.app (SubP.refl.tail.tail) Δ), q acc⟩
end Mine


open PySem PySem.W PyProof.Rows PySem.Calls PySem.SeqAt
set_option Elab.async false
set_option maxRecDepth 100000
set_option linter.unusedVariables false
set_option linter.unusedSimpArgs false
namespace Mine

/-! ## blocks with three or four checks -/
def gq : Nat → List Nat
  | 3 => [7, 14, 8]
  | 4 => [15, 54, 120, 64]
  | _ => []
theorem gq_gen : ∀ e ∈ [3, 4], genF e = 1 :: gq e := by decide +kernel
theorem gq_len {e : Nat} (h : e ∈ [3, 4]) : (gq e).length = e := by
  simp only [List.mem_cons, List.not_mem_nil, or_false] at h
  rcases h with rfl | rfl <;> rfl
theorem gq_pos {e : Nat} (h : e ∈ [3, 4]) : pos (gq e) := by
  simp only [List.mem_cons, List.not_mem_nil, or_false] at h
  intro v hv
  rcases h with rfl | rfl <;> simp [gq] at hv <;> omega
theorem gq_oct {e : Nat} (h : e ∈ [3, 4]) : oct (gq e) := fun v hv => (gq_pos h v hv).2
def dataG (g d : List Nat) : List Nat := d ++ lrem g d.length (d ++ List.replicate g.length 0)
theorem dataG_len {g d : List Nat} : (dataG g d).length = d.length + g.length := by
  unfold dataG
  rw [List.length_append, lrem_len _ _ (by simp; omega)]; simp
theorem dataG_oct {g d : List Nat} (h : oct d) : oct (dataG g d) := app_oct h (lrem_oct _ _ (app_oct h rep_oct))
theorem dataG_lc {g : List Nat} (og : oct g) {α : Nat} (hα : α < 256) {a b : List Nat} (h : a.length = b.length) (oa : oct a) (ob : oct b) : dataG g (lc α a b) = lc α (dataG g a) (dataG g b) := by
  unfold dataG
  rw [lc_len h, lc_app h]
  congr 1
  have e : lc α a b ++ List.replicate g.length 0 = lc α (a ++ List.replicate g.length 0) (b ++ List.replicate g.length 0) := by rw [lc_app h, lc_rep]
  rw [e, lrem_lc hα og _ _ _ (by simp [h]) (app_oct oa rep_oct) (app_oct ob rep_oct) (by simp; omega), h]
theorem dataG_cmb {g : List Nat} (og : oct g) {z : List Nat} : ∀ {l : List (Nat × List Nat)}, oct z → (∀ p ∈ l, p.2.length = z.length ∧ p.1 < 256 ∧ oct p.2) → dataG g (cmb z l) = cmb (dataG g z) (l.map fun p => (p.1, dataG g p.2)) := by
  intro l
  induction l generalizing z with
  | nil => intro _ _; rfl
  | cons p l ih =>
    intro oz h
    obtain ⟨h1, h2, h3⟩ := h p (.head _)
    have e := lc_len (α := p.1) h1.symm
    show dataG g (cmb (lc p.1 z p.2) l) = cmb (lc p.1 (dataG g z) (dataG g p.2)) _
    rw [ih (lc_oct oz) fun q hq => by rw [e]; exact h q (.tail _ hq), dataG_lc og h2 h1.symm oz h3]
/-- the shapes of law 01 -/
def Shp (own e : Nat) : Prop := (own, e) ∈ [(1, 3), (2, 3), (3, 3), (1, 4)]
theorem Shp.e {own e : Nat} (h : Shp own e) : e ∈ [3, 4] ∧ own ∈ [1, 2, 3] := by
  unfold Shp at h
  simp only [List.mem_cons, Prod.mk.injEq, List.not_mem_nil, or_false] at h ⊢
  omega
def unitV (own j : Nat) : List Nat := (List.range own).map fun i => if i = j then 1 else 0
theorem V1_ok : ∀ p ∈ [(1, 3), (2, 3), (3, 3), (1, 4)], ∀ j < p.1, ∀ r < p.2, xs (p.1 + p.2) (fun i => xtn ((p.1 + p.2 - 1 - i) * r) ((dataG (gq p.2) (unitV p.1 j)).getD i 0)) = 0 := by decide +kernel
theorem VZ_ok : ∀ p ∈ [(1, 3), (2, 3), (3, 3), (1, 4)], dataG (gq p.2) (List.replicate p.1 0) = List.replicate (p.1 + p.2) 0 := by decide +kernel
theorem unitV_len {own j : Nat} : (unitV own j).length = own := by simp [unitV]
theorem unitV_oct {own j : Nat} : oct (unitV own j) := by
  intro v hv
  obtain ⟨i, _, rfl⟩ := List.mem_map.mp hv
  split <;> decide
theorem cmb_v {own : Nat} (h : own ∈ [1, 2, 3]) {d : List Nat} (hd : d.length = own) (ho : oct d) : ∃ l : List (Nat × List Nat), cmb (List.replicate own 0) l = d ∧ ∀ p ∈ l, p.1 < 256 ∧ ∃ j < own, p.2 = unitV own j := by
  simp only [List.mem_cons, List.not_mem_nil, or_false] at h
  rcases h with rfl | rfl | rfl
  · match d, hd with
    | [x], _ =>
      have hx := ho x (by simp)
      refine ⟨[(x, unitV 1 0)], ?_, ?_⟩
      · rw [show unitV 1 0 = [1] by decide]
        simp [cmb, lc, mul_one hx]
      · intro p hp
        simp only [List.mem_cons, List.not_mem_nil, or_false] at hp
        subst hp
        exact ⟨hx, 0, by decide, rfl⟩
  · match d, hd with
    | [x, y], _ =>
      have hx := ho x (by simp)
      have hy := ho y (by simp)
      refine ⟨[(x, unitV 2 0), (y, unitV 2 1)], ?_, ?_⟩
      · rw [show unitV 2 0 = [1, 0] by decide, show unitV 2 1 = [0, 1] by decide]
        simp [cmb, lc, mul_one hx, mul_one hy, mul_zero]
      · intro p hp
        simp only [List.mem_cons, List.not_mem_nil, or_false] at hp
        rcases hp with rfl | rfl
        · exact ⟨hx, 0, by decide, rfl⟩
        · exact ⟨hy, 1, by decide, rfl⟩
  · match d, hd with
    | [x, y, z], _ =>
      have hx := ho x (by simp)
      have hy := ho y (by simp)
      have hz := ho z (by simp)
      refine ⟨[(x, unitV 3 0), (y, unitV 3 1), (z, unitV 3 2)], ?_, ?_⟩
      · rw [show unitV 3 0 = [1, 0, 0] by decide, show unitV 3 1 = [0, 1, 0] by decide, show unitV 3 2 = [0, 0, 1] by decide]
        simp [cmb, lc, mul_one hx, mul_one hy, mul_one hz, mul_zero]
      · intro p hp
        simp only [List.mem_cons, List.not_mem_nil, or_false] at hp
        rcases hp with rfl | rfl | rfl
        · exact ⟨hx, 0, by decide, rfl⟩
        · exact ⟨hy, 1, by decide, rfl⟩
        · exact ⟨hz, 2, by decide, rfl⟩
theorem S1_rep {n r k : Nat} : S1 n ((List.replicate k 0).getD · 0) r = 0 := S_zero.1
/-- the sums of a block -/
theorem blockG {own e : Nat} (h : Shp own e) {d : List Nat} (hd : d.length = own) (ho : oct d) : ∀ r < e, S1 (own + e) ((dataG (gq e) d).getD · 0) r = 0 := by
  intro r hr
  obtain ⟨h1, h2⟩ := h.e
  have og := gq_oct h1
  obtain ⟨l, rfl, hl⟩ := cmb_v h2 hd ho
  have ez : dataG (gq e) (List.replicate own 0) = List.replicate (own + e) 0 := VZ_ok (own, e) h
  have e1 : dataG (gq e) (cmb (List.replicate own 0) l) = cmb (List.replicate (own + e) 0) (l.map fun p => (p.1, dataG (gq e) p.2)) := by
    rw [dataG_cmb og rep_oct fun p hp => ?_, ez]
    obtain ⟨a, j, _, b⟩ := hl p hp
    rw [b]
    exact ⟨by rw [unitV_len, List.length_replicate], a, unitV_oct⟩
  rw [e1]
  refine (S_cmb (n := own + e) (r := r) rep_oct fun p hp => ?_).1 S1_rep fun p hp => ?_
  · obtain ⟨q, hq, rfl⟩ := List.mem_map.mp hp
    obtain ⟨a, j, _, b⟩ := hl q hq
    refine ⟨?_, a, ?_⟩
    · show (dataG (gq e) q.2).length = _
      rw [dataG_len, b, unitV_len, gq_len h1, List.length_replicate]
    · show oct (dataG (gq e) q.2)
      rw [b]; exact dataG_oct unitV_oct
  · obtain ⟨q, hq, rfl⟩ := List.mem_map.mp hp
    obtain ⟨a, j, hj, b⟩ := hl q hq
    show S1 (own + e) ((dataG (gq e) q.2).getD · 0) r = 0
    rw [b]
    refine Eq.trans (xs_congr fun i hi => ?_) (V1_ok (own, e) h j hj r hr)
    show mul ((dataG (gq e) (unitV own j)).getD i 0) _ = _
    rw [mul_comm, mul_E (getD_oct (dataG_oct unitV_oct) i)]
/-- Horner's way -/
theorem xtn_add {a b v : Nat} : xtn (a + b) v = xtn a (xtn b v) := by
  induction a with
  | zero => rw [Nat.zero_add]; rfl
  | succ a ih => rw [Nat.succ_add]; show xt (xtn (a + b) v) = xt (xtn a (xtn b v)); rw [ih]
theorem horn_fold {r : Nat} : ∀ (l : List Nat) (t : Nat), oct l → t < 256 → l.foldl (fun t o => xtn r t ^^^ o) t = xtn (r * l.length) t ^^^ xs l.length fun i => xtn ((l.length - 1 - i) * r) (l.getD i 0)
  | [], t, _, _ => by simp [xs]; rfl
  | o :: l, t, ho, ht => by
    have o1 := ho o (.head _)
    have ih := horn_fold (r := r) l (xtn r t ^^^ o) (fun v hv => ho v (.tail _ hv)) (xor_lt (xtn_lt ht r) o1)
    show l.foldl _ (xtn r t ^^^ o) = _
    rw [ih, List.length_cons, xs_front, xtn_xor (xtn_lt ht r) o1, ← xtn_add, Nat.xor_assoc]
    congr 1
    congr 1
    · show _ = xtn ((l.length + 1 - 1 - 0) * r) o
      rw [Nat.mul_comm]; congr 1
    · refine xs_congr fun i hi => ?_
      show xtn ((l.length - 1 - i) * r) (l.getD i 0) = xtn ((l.length + 1 - 1 - (i + 1)) * r) (l.getD i 0)
      congr 2
      omega
theorem horn_S1 {r : Nat} {l : List Nat} (ho : oct l) : horn r l = S1 l.length (l.getD · 0) r := by
  unfold horn
  rw [horn_fold l 0 ho (by decide)]
  have z : ∀ k, xtn k 0 = 0 := fun k => by
    induction k with
    | zero => rfl
    | succ k ih => show xt (xtn k 0) = 0; rw [ih]; rfl
  rw [z, Nat.zero_xor]
  refine xs_congr fun i hi => ?_
  rw [mul_comm, mul_E (getD_oct ho i)]
end Mine


open PySem PySem.W PyProof.Rows PySem.Calls PySem.SeqAt
set_option Elab.async false
set_option maxRecDepth 100000
set_option linter.unusedVariables false
set_option linter.unusedSimpArgs false
namespace Mine

/-! ## what the wedge tells -/
theorem wall2 (a0 a1 a2 b0 b1 b2 : Nat) : wall 3 [[a0,a1,a2],[b0,b1,b2]] = [(3, mul a0 b1 ^^^ mul a1 b0), (5, mul a0 b2 ^^^ mul a2 b0), (6, mul a1 b2 ^^^ mul a2 b1)] := by
  have e0 : wzero 3 [a0,a1,a2] = [(1,a0),(2,a1),(4,a2)] := by rfl
  simp only [wall, List.foldl, e0]
  simp [wstep, stpM, stp, putN, getN, getO, List.range_succ]
def mmN (x0 y0 z0 x1 y1 z1 x2 y2 z2 : Nat) : Nat := mul (mul x0 y1 ^^^ mul y0 x1) z2 ^^^ mul (mul x0 z1 ^^^ mul z0 x1) y2 ^^^ mul (mul y0 z1 ^^^ mul z0 y1) x2
theorem wall3 (a0 a1 a2 a3 b0 b1 b2 b3 c0 c1 c2 c3 : Nat) :
   wall 4 [[a0,a1,a2,a3],[b0,b1,b2,b3],[c0,c1,c2,c3]] = [(7, mmN a0 a1 a2 b0 b1 b2 c0 c1 c2), (11, mmN a0 a1 a3 b0 b1 b3 c0 c1 c3), (13, mmN a0 a2 a3 b0 b2 b3 c0 c2 c3), (14, mmN a1 a2 a3 b1 b2 b3 c1 c2 c3)] := by
  have e0 : wzero 4 [a0,a1,a2,a3] = [(1,a0),(2,a1),(4,a2),(8,a3)] := by rfl
  have e : wstep 4 [(1,a0),(2,a1),(4,a2),(8,a3)] [b0,b1,b2,b3] = [(3, mul a0 b1 ^^^ mul a1 b0), (5, mul a0 b2 ^^^ mul a2 b0), (9, mul a0 b3 ^^^ mul a3 b0), (6, mul a1 b2 ^^^ mul a2 b1), (10, mul a1 b3 ^^^ mul a3 b1), (12, mul a2 b3 ^^^ mul a3 b2)] := by
    simp [wstep, stpM, stp, putN, getN, getO, List.range_succ]
  simp only [wall, List.foldl, e0, e]
  unfold mmN
  generalize mul a0 b1 ^^^ mul a1 b0 = p01
  generalize mul a0 b2 ^^^ mul a2 b0 = p02
  generalize mul a0 b3 ^^^ mul a3 b0 = p03
  generalize mul a1 b2 ^^^ mul a2 b1 = p12
  generalize mul a1 b3 ^^^ mul a3 b1 = p13
  generalize mul a2 b3 ^^^ mul a3 b2 = p23
  simp [wstep, stpM, stp, putN, getN, getO, List.range_succ]
theorem fnd2_eq (a0 a1 a2 b0 b1 b2 : Nat) : (fnd 3 [[a0,a1,a2],[b0,b1,b2]]).reverse = [mul a0 b1 ^^^ mul a1 b0, mul a0 b2 ^^^ mul a2 b0, mul a1 b2 ^^^ mul a2 b1] ∧ ∀ s < 3, ∃ v, getO (wall 3 [[a0,a1,a2],[b0,b1,b2]]) ((2 ^ 3 - 1) ^^^ 2 ^ s) = some v := by
  unfold fnd
  rw [wall2]
  refine ⟨rfl, fun s hs => ?_⟩
  have : s = 0 ∨ s = 1 ∨ s = 2 := by omega
  rcases this with rfl | rfl | rfl <;> exact ⟨_, rfl⟩
theorem fnd3_eq (a0 a1 a2 a3 b0 b1 b2 b3 c0 c1 c2 c3 : Nat) : (fnd 4 [[a0,a1,a2,a3],[b0,b1,b2,b3],[c0,c1,c2,c3]]).reverse = [mmN a0 a1 a2 b0 b1 b2 c0 c1 c2, mmN a0 a1 a3 b0 b1 b3 c0 c1 c3, mmN a0 a2 a3 b0 b2 b3 c0 c2 c3, mmN a1 a2 a3 b1 b2 b3 c1 c2 c3] ∧
    ∀ s < 4, ∃ v, getO (wall 4 [[a0,a1,a2,a3],[b0,b1,b2,b3],[c0,c1,c2,c3]]) ((2 ^ 4 - 1) ^^^ 2 ^ s) = some v := by
  unfold fnd
  rw [wall3]
  refine ⟨rfl, fun s hs => ?_⟩
  have : s = 0 ∨ s = 1 ∨ s = 2 ∨ s = 3 := by omega
  rcases this with rfl | rfl | rfl | rfl <;> exact ⟨_, rfl⟩
/-! ## the ring -/
section
variable {F : Type} [Lean.Grind.CommRing F] [Lean.Grind.IsCharP F 2]
def sF (a b c X Y Z : F) (r : Nat) : F := match r with
  | 0 => a + b + c
  | 1 => a * X + b * Y + c * Z
  | 2 => a * (X * X) + b * (Y * Y) + c * (Z * Z)
  | _ => a * (X * X * X) + b * (Y * Y * Y) + c * (Z * Z * Z)
def dF (a0 b0 c0 a1 b1 c1 a2 b2 c2 : F) : F := a0 * (b1 * c2 + c1 * b2) + b0 * (a1 * c2 + c1 * a2) + c0 * (a1 * b2 + b1 * a2)
def mF (x0 y0 z0 x1 y1 z1 x2 y2 z2 : F) : F := (x0 * y1 + y0 * x1) * z2 + (x0 * z1 + z0 * x1) * y2 + (y0 * z1 + z0 * y1) * x2
theorem three_k (X Y Z a0 b0 c0 a1 b1 c1 a2 b2 c2 : F) :
   mF (sF a0 b0 c0 X Y Z 0) (sF a0 b0 c0 X Y Z 1) (sF a0 b0 c0 X Y Z 2) (sF a1 b1 c1 X Y Z 0) (sF a1 b1 c1 X Y Z 1) (sF a1 b1 c1 X Y Z 2) (sF a2 b2 c2 X Y Z 0) (sF a2 b2 c2 X Y Z 1) (sF a2 b2 c2 X Y Z 2)
     = dF a0 b0 c0 a1 b1 c1 a2 b2 c2 * ((X + Y) * (X + Z) * (Y + Z)) := by
  simp only [mF, sF, dF]; grind
theorem three_k0 (X Y Z a0 b0 c0 a1 b1 c1 a2 b2 c2 : F) :
   mF (sF a0 b0 c0 X Y Z 1) (sF a0 b0 c0 X Y Z 2) (sF a0 b0 c0 X Y Z 3) (sF a1 b1 c1 X Y Z 1) (sF a1 b1 c1 X Y Z 2) (sF a1 b1 c1 X Y Z 3) (sF a2 b2 c2 X Y Z 1) (sF a2 b2 c2 X Y Z 2) (sF a2 b2 c2 X Y Z 3)
     = dF a0 b0 c0 a1 b1 c1 a2 b2 c2 * ((X + Y) * (X + Z) * (Y + Z)) * (X * Y * Z) := by
  simp only [mF, sF, dF]; grind
theorem three_k1 (X Y Z a0 b0 c0 a1 b1 c1 a2 b2 c2 : F) :
   mF (sF a0 b0 c0 X Y Z 0) (sF a0 b0 c0 X Y Z 2) (sF a0 b0 c0 X Y Z 3) (sF a1 b1 c1 X Y Z 0) (sF a1 b1 c1 X Y Z 2) (sF a1 b1 c1 X Y Z 3) (sF a2 b2 c2 X Y Z 0) (sF a2 b2 c2 X Y Z 2) (sF a2 b2 c2 X Y Z 3)
     = dF a0 b0 c0 a1 b1 c1 a2 b2 c2 * ((X + Y) * (X + Z) * (Y + Z)) * (X * Y + X * Z + Y * Z) := by
  simp only [mF, sF, dF]; grind
theorem three_k2 (X Y Z a0 b0 c0 a1 b1 c1 a2 b2 c2 : F) :
   mF (sF a0 b0 c0 X Y Z 0) (sF a0 b0 c0 X Y Z 1) (sF a0 b0 c0 X Y Z 3) (sF a1 b1 c1 X Y Z 0) (sF a1 b1 c1 X Y Z 1) (sF a1 b1 c1 X Y Z 3) (sF a2 b2 c2 X Y Z 0) (sF a2 b2 c2 X Y Z 1) (sF a2 b2 c2 X Y Z 3)
     = dF a0 b0 c0 a1 b1 c1 a2 b2 c2 * ((X + Y) * (X + Z) * (Y + Z)) * (X + Y + Z) := by
  simp only [mF, sF, dF]; grind
/-- a polynomial of three roots: its worth, its quotient's, and what the quotient tells -/
theorem ev3 (K X Y Z w : F) : w * (w * (w * K + K * (X + Y + Z)) + K * (X * Y + X * Z + Y * Z)) + K * (X * Y * Z) = K * ((w + X) * ((w + Y) * (w + Z))) := by grind
theorem un3X (K X Y Z : F) : X * (X * K + (X * K + K * (X + Y + Z))) + (X * (X * K + K * (X + Y + Z)) + K * (X * Y + X * Z + Y * Z)) = K * ((X + Y) * (X + Z)) := by grind
theorem un3Y (K X Y Z : F) : Y * (Y * K + (Y * K + K * (X + Y + Z))) + (Y * (Y * K + K * (X + Y + Z)) + K * (X * Y + X * Z + Y * Z)) = K * ((X + Y) * (Y + Z)) := by grind
theorem un3Z (K X Y Z : F) : Z * (Z * K + (Z * K + K * (X + Y + Z))) + (Z * (Z * K + K * (X + Y + Z)) + K * (X * Y + X * Z + Y * Z)) = K * ((X + Z) * (Y + Z)) := by grind
theorem ov3X (K X Y Z a b c : F) : (X * (X * K + K * (X + Y + Z)) + K * (X * Y + X * Z + Y * Z)) * sF a b c X Y Z 0 + (X * K + K * (X + Y + Z)) * sF a b c X Y Z 1 + K * sF a b c X Y Z 2 = a * (K * ((X + Y) * (X + Z))) := by simp only [sF]; grind
theorem ov3Y (K X Y Z a b c : F) : (Y * (Y * K + K * (X + Y + Z)) + K * (X * Y + X * Z + Y * Z)) * sF a b c X Y Z 0 + (Y * K + K * (X + Y + Z)) * sF a b c X Y Z 1 + K * sF a b c X Y Z 2 = b * (K * ((X + Y) * (Y + Z))) := by simp only [sF]; grind
theorem ov3Z (K X Y Z a b c : F) : (Z * (Z * K + K * (X + Y + Z)) + K * (X * Y + X * Z + Y * Z)) * sF a b c X Y Z 0 + (Z * K + K * (X + Y + Z)) * sF a b c X Y Z 1 + K * sF a b c X Y Z 2 = c * (K * ((X + Z) * (Y + Z))) := by simp only [sF]; grind
def tF (a c X Y : F) (r : Nat) : F := match r with
  | 0 => a + c
  | 1 => a * X + c * Y
  | _ => a * (X * X) + c * (Y * Y)
theorem two_k (X Y a0 c0 a1 c1 : F) : tF a0 c0 X Y 0 * tF a1 c1 X Y 1 + tF a0 c0 X Y 1 * tF a1 c1 X Y 0 = (a0 * c1 + c0 * a1) * (X + Y) := by simp only [tF]; grind
theorem two_k1 (X Y a0 c0 a1 c1 : F) : tF a0 c0 X Y 0 * tF a1 c1 X Y 2 + tF a0 c0 X Y 2 * tF a1 c1 X Y 0 = (a0 * c1 + c0 * a1) * (X + Y) * (X + Y) := by simp only [tF]; grind
theorem two_k0 (X Y a0 c0 a1 c1 : F) : tF a0 c0 X Y 1 * tF a1 c1 X Y 2 + tF a0 c0 X Y 2 * tF a1 c1 X Y 1 = (a0 * c1 + c0 * a1) * (X + Y) * (X * Y) := by simp only [tF]; grind
theorem ev2 (K X Y w : F) : w * (w * K + K * (X + Y)) + K * (X * Y) = K * ((w + X) * (w + Y)) := by grind
theorem un2X (K X Y : F) : X * K + (X * K + K * (X + Y)) = K * (X + Y) := by grind
theorem un2Y (K X Y : F) : Y * K + (Y * K + K * (X + Y)) = K * (X + Y) := by grind
theorem ov2X (K X Y a c : F) : (X * K + K * (X + Y)) * tF a c X Y 0 + K * tF a c X Y 1 = a * (K * (X + Y)) := by simp only [tF]; grind
theorem ov2Y (K X Y a c : F) : (Y * K + K * (X + Y)) * tF a c X Y 0 + K * tF a c X Y 1 = c * (K * (X + Y)) := by simp only [tF]; grind
end
end Mine


open PySem PySem.W PyProof.Rows PySem.Calls PySem.SeqAt
set_option Elab.async false
set_option maxRecDepth 100000
set_option linter.unusedVariables false
set_option linter.unusedSimpArgs false
namespace Mine

def sN (a b c x y z : Nat) (r : Nat) : Nat := match r with
  | 0 => a ^^^ b ^^^ c
  | 1 => mul a x ^^^ mul b y ^^^ mul c z
  | 2 => mul a (mul x x) ^^^ mul b (mul y y) ^^^ mul c (mul z z)
  | _ => mul a (mul (mul x x) x) ^^^ mul b (mul (mul y y) y) ^^^ mul c (mul (mul z z) z)
def dN (a0 b0 c0 a1 b1 c1 a2 b2 c2 : Nat) : Nat := mul a0 (mul b1 c2 ^^^ mul c1 b2) ^^^ mul b0 (mul a1 c2 ^^^ mul c1 a2) ^^^ mul c0 (mul a1 b2 ^^^ mul b1 a2)
def tN (a c x y : Nat) (r : Nat) : Nat := match r with
  | 0 => a ^^^ c
  | 1 => mul a x ^^^ mul c y
  | _ => mul a (mul x x) ^^^ mul c (mul y y)
section
variable (A B C A0 B0 C0 A1 B1 C1 A2 B2 C2 X Y Z K W : G)
theorem sv (r : Nat) : (@sF G gField A B C X Y Z r).v = sN A.v B.v C.v X.v Y.v Z.v r := by
  match r with
  | 0 => rfl
  | 1 => rfl
  | 2 => rfl
  | r + 3 => rfl
theorem tv (r : Nat) : (@tF G gField A C X Y r).v = tN A.v C.v X.v Y.v r := by
  match r with
  | 0 => rfl
  | 1 => rfl
  | r + 2 => rfl
def k3 (a0 b0 c0 a1 b1 c1 a2 b2 c2 x y z : Nat) : Nat := mul (dN a0 b0 c0 a1 b1 c1 a2 b2 c2) (mul (mul (x ^^^ y) (x ^^^ z)) (y ^^^ z))
def k2 (a0 c0 a1 c1 x y : Nat) : Nat := mul (mul a0 c1 ^^^ mul c0 a1) (x ^^^ y)
theorem n3k (a0 b0 c0 a1 b1 c1 a2 b2 c2 x y z : Nat) (h : oct [a0, b0, c0, a1, b1, c1, a2, b2, c2, x, y, z]) :
    mmN (sN a0 b0 c0 x y z 0) (sN a0 b0 c0 x y z 1) (sN a0 b0 c0 x y z 2) (sN a1 b1 c1 x y z 0) (sN a1 b1 c1 x y z 1) (sN a1 b1 c1 x y z 2) (sN a2 b2 c2 x y z 0) (sN a2 b2 c2 x y z 1) (sN a2 b2 c2 x y z 2) = k3 a0 b0 c0 a1 b1 c1 a2 b2 c2 x y z ∧
    mmN (sN a0 b0 c0 x y z 0) (sN a0 b0 c0 x y z 1) (sN a0 b0 c0 x y z 3) (sN a1 b1 c1 x y z 0) (sN a1 b1 c1 x y z 1) (sN a1 b1 c1 x y z 3) (sN a2 b2 c2 x y z 0) (sN a2 b2 c2 x y z 1) (sN a2 b2 c2 x y z 3) = mul (k3 a0 b0 c0 a1 b1 c1 a2 b2 c2 x y z) (x ^^^ y ^^^ z) ∧
    mmN (sN a0 b0 c0 x y z 0) (sN a0 b0 c0 x y z 2) (sN a0 b0 c0 x y z 3) (sN a1 b1 c1 x y z 0) (sN a1 b1 c1 x y z 2) (sN a1 b1 c1 x y z 3) (sN a2 b2 c2 x y z 0) (sN a2 b2 c2 x y z 2) (sN a2 b2 c2 x y z 3) = mul (k3 a0 b0 c0 a1 b1 c1 a2 b2 c2 x y z) (mul x y ^^^ mul x z ^^^ mul y z) ∧
    mmN (sN a0 b0 c0 x y z 1) (sN a0 b0 c0 x y z 2) (sN a0 b0 c0 x y z 3) (sN a1 b1 c1 x y z 1) (sN a1 b1 c1 x y z 2) (sN a1 b1 c1 x y z 3) (sN a2 b2 c2 x y z 1) (sN a2 b2 c2 x y z 2) (sN a2 b2 c2 x y z 3) = mul (k3 a0 b0 c0 a1 b1 c1 a2 b2 c2 x y z) (mul (mul x y) z) := by
  obtain ⟨A0, rfl⟩ : ∃ g : G, g.v = a0 := ⟨⟨a0, h _ (by simp)⟩, rfl⟩
  obtain ⟨B0, rfl⟩ : ∃ g : G, g.v = b0 := ⟨⟨b0, h _ (by simp)⟩, rfl⟩
  obtain ⟨C0, rfl⟩ : ∃ g : G, g.v = c0 := ⟨⟨c0, h _ (by simp)⟩, rfl⟩
  obtain ⟨A1, rfl⟩ : ∃ g : G, g.v = a1 := ⟨⟨a1, h _ (by simp)⟩, rfl⟩
  obtain ⟨B1, rfl⟩ : ∃ g : G, g.v = b1 := ⟨⟨b1, h _ (by simp)⟩, rfl⟩
  obtain ⟨C1, rfl⟩ : ∃ g : G, g.v = c1 := ⟨⟨c1, h _ (by simp)⟩, rfl⟩
  obtain ⟨A2, rfl⟩ : ∃ g : G, g.v = a2 := ⟨⟨a2, h _ (by simp)⟩, rfl⟩
  obtain ⟨B2, rfl⟩ : ∃ g : G, g.v = b2 := ⟨⟨b2, h _ (by simp)⟩, rfl⟩
  obtain ⟨C2, rfl⟩ : ∃ g : G, g.v = c2 := ⟨⟨c2, h _ (by simp)⟩, rfl⟩
  obtain ⟨X, rfl⟩ : ∃ g : G, g.v = x := ⟨⟨x, h _ (by simp)⟩, rfl⟩
  obtain ⟨Y, rfl⟩ : ∃ g : G, g.v = y := ⟨⟨y, h _ (by simp)⟩, rfl⟩
  obtain ⟨Z, rfl⟩ : ∃ g : G, g.v = z := ⟨⟨z, h _ (by simp)⟩, rfl⟩
  simp only [← sv]
  exact ⟨congrArg G.v (@three_k G gField gChar X Y Z A0 B0 C0 A1 B1 C1 A2 B2 C2), congrArg G.v (@three_k2 G gField gChar X Y Z A0 B0 C0 A1 B1 C1 A2 B2 C2), congrArg G.v (@three_k1 G gField gChar X Y Z A0 B0 C0 A1 B1 C1 A2 B2 C2), congrArg G.v (@three_k0 G gField gChar X Y Z A0 B0 C0 A1 B1 C1 A2 B2 C2)⟩
theorem n2k (a0 c0 a1 c1 x y : Nat) (h : oct [a0, c0, a1, c1, x, y]) :
    mul (tN a0 c0 x y 0) (tN a1 c1 x y 1) ^^^ mul (tN a0 c0 x y 1) (tN a1 c1 x y 0) = k2 a0 c0 a1 c1 x y ∧
    mul (tN a0 c0 x y 0) (tN a1 c1 x y 2) ^^^ mul (tN a0 c0 x y 2) (tN a1 c1 x y 0) = mul (k2 a0 c0 a1 c1 x y) (x ^^^ y) ∧
    mul (tN a0 c0 x y 1) (tN a1 c1 x y 2) ^^^ mul (tN a0 c0 x y 2) (tN a1 c1 x y 1) = mul (k2 a0 c0 a1 c1 x y) (mul x y) := by
  obtain ⟨A0, rfl⟩ : ∃ g : G, g.v = a0 := ⟨⟨a0, h _ (by simp)⟩, rfl⟩
  obtain ⟨C0, rfl⟩ : ∃ g : G, g.v = c0 := ⟨⟨c0, h _ (by simp)⟩, rfl⟩
  obtain ⟨A1, rfl⟩ : ∃ g : G, g.v = a1 := ⟨⟨a1, h _ (by simp)⟩, rfl⟩
  obtain ⟨C1, rfl⟩ : ∃ g : G, g.v = c1 := ⟨⟨c1, h _ (by simp)⟩, rfl⟩
  obtain ⟨X, rfl⟩ : ∃ g : G, g.v = x := ⟨⟨x, h _ (by simp)⟩, rfl⟩
  obtain ⟨Y, rfl⟩ : ∃ g : G, g.v = y := ⟨⟨y, h _ (by simp)⟩, rfl⟩
  simp only [← tv]
  exact ⟨congrArg G.v (@two_k G gField gChar X Y A0 C0 A1 C1), congrArg G.v (@two_k1 G gField gChar X Y A0 C0 A1 C1), congrArg G.v (@two_k0 G gField gChar X Y A0 C0 A1 C1)⟩
/-- the worth of a finder, its quotient's at a root, and what the quotient tells -/
theorem n3e (k x y z w a b c : Nat) (h : oct [k, x, y, z, w, a, b, c]) :
    mul w (mul w (mul w k ^^^ mul k (x ^^^ y ^^^ z)) ^^^ mul k (mul x y ^^^ mul x z ^^^ mul y z)) ^^^ mul k (mul (mul x y) z) = mul k (mul (w ^^^ x) (mul (w ^^^ y) (w ^^^ z))) ∧
    (mul x (mul x k ^^^ (mul x k ^^^ mul k (x ^^^ y ^^^ z))) ^^^ (mul x (mul x k ^^^ mul k (x ^^^ y ^^^ z)) ^^^ mul k (mul x y ^^^ mul x z ^^^ mul y z)) = mul k (mul (x ^^^ y) (x ^^^ z)) ∧
     mul (mul x (mul x k ^^^ mul k (x ^^^ y ^^^ z)) ^^^ mul k (mul x y ^^^ mul x z ^^^ mul y z)) (sN a b c x y z 0) ^^^ mul (mul x k ^^^ mul k (x ^^^ y ^^^ z)) (sN a b c x y z 1) ^^^ mul k (sN a b c x y z 2) = mul a (mul k (mul (x ^^^ y) (x ^^^ z)))) ∧
    (mul y (mul y k ^^^ (mul y k ^^^ mul k (x ^^^ y ^^^ z))) ^^^ (mul y (mul y k ^^^ mul k (x ^^^ y ^^^ z)) ^^^ mul k (mul x y ^^^ mul x z ^^^ mul y z)) = mul k (mul (x ^^^ y) (y ^^^ z)) ∧
     mul (mul y (mul y k ^^^ mul k (x ^^^ y ^^^ z)) ^^^ mul k (mul x y ^^^ mul x z ^^^ mul y z)) (sN a b c x y z 0) ^^^ mul (mul y k ^^^ mul k (x ^^^ y ^^^ z)) (sN a b c x y z 1) ^^^ mul k (sN a b c x y z 2) = mul b (mul k (mul (x ^^^ y) (y ^^^ z)))) ∧
    (mul z (mul z k ^^^ (mul z k ^^^ mul k (x ^^^ y ^^^ z))) ^^^ (mul z (mul z k ^^^ mul k (x ^^^ y ^^^ z)) ^^^ mul k (mul x y ^^^ mul x z ^^^ mul y z)) = mul k (mul (x ^^^ z) (y ^^^ z)) ∧
     mul (mul z (mul z k ^^^ mul k (x ^^^ y ^^^ z)) ^^^ mul k (mul x y ^^^ mul x z ^^^ mul y z)) (sN a b c x y z 0) ^^^ mul (mul z k ^^^ mul k (x ^^^ y ^^^ z)) (sN a b c x y z 1) ^^^ mul k (sN a b c x y z 2) = mul c (mul k (mul (x ^^^ z) (y ^^^ z)))) := by
  obtain ⟨K, rfl⟩ : ∃ g : G, g.v = k := ⟨⟨k, h _ (by simp)⟩, rfl⟩
  obtain ⟨X, rfl⟩ : ∃ g : G, g.v = x := ⟨⟨x, h _ (by simp)⟩, rfl⟩
  obtain ⟨Y, rfl⟩ : ∃ g : G, g.v = y := ⟨⟨y, h _ (by simp)⟩, rfl⟩
  obtain ⟨Z, rfl⟩ : ∃ g : G, g.v = z := ⟨⟨z, h _ (by simp)⟩, rfl⟩
  obtain ⟨W, rfl⟩ : ∃ g : G, g.v = w := ⟨⟨w, h _ (by simp)⟩, rfl⟩
  obtain ⟨A, rfl⟩ : ∃ g : G, g.v = a := ⟨⟨a, h _ (by simp)⟩, rfl⟩
  obtain ⟨B, rfl⟩ : ∃ g : G, g.v = b := ⟨⟨b, h _ (by simp)⟩, rfl⟩
  obtain ⟨C, rfl⟩ : ∃ g : G, g.v = c := ⟨⟨c, h _ (by simp)⟩, rfl⟩
  simp only [← sv]
  exact ⟨congrArg G.v (@ev3 G gField gChar K X Y Z W), ⟨congrArg G.v (@un3X G gField gChar K X Y Z), congrArg G.v (@ov3X G gField gChar K X Y Z A B C)⟩, ⟨congrArg G.v (@un3Y G gField gChar K X Y Z), congrArg G.v (@ov3Y G gField gChar K X Y Z A B C)⟩,
    congrArg G.v (@un3Z G gField gChar K X Y Z), congrArg G.v (@ov3Z G gField gChar K X Y Z A B C)⟩
theorem n2e (k x y w a c : Nat) (h : oct [k, x, y, w, a, c]) :
    mul w (mul w k ^^^ mul k (x ^^^ y)) ^^^ mul k (mul x y) = mul k (mul (w ^^^ x) (w ^^^ y)) ∧
    (mul x k ^^^ (mul x k ^^^ mul k (x ^^^ y)) = mul k (x ^^^ y) ∧ mul (mul x k ^^^ mul k (x ^^^ y)) (tN a c x y 0) ^^^ mul k (tN a c x y 1) = mul a (mul k (x ^^^ y))) ∧
    (mul y k ^^^ (mul y k ^^^ mul k (x ^^^ y)) = mul k (x ^^^ y) ∧ mul (mul y k ^^^ mul k (x ^^^ y)) (tN a c x y 0) ^^^ mul k (tN a c x y 1) = mul c (mul k (x ^^^ y))) := by
  obtain ⟨K, rfl⟩ : ∃ g : G, g.v = k := ⟨⟨k, h _ (by simp)⟩, rfl⟩
  obtain ⟨X, rfl⟩ : ∃ g : G, g.v = x := ⟨⟨x, h _ (by simp)⟩, rfl⟩
  obtain ⟨Y, rfl⟩ : ∃ g : G, g.v = y := ⟨⟨y, h _ (by simp)⟩, rfl⟩
  obtain ⟨W, rfl⟩ : ∃ g : G, g.v = w := ⟨⟨w, h _ (by simp)⟩, rfl⟩
  obtain ⟨A, rfl⟩ : ∃ g : G, g.v = a := ⟨⟨a, h _ (by simp)⟩, rfl⟩
  obtain ⟨C, rfl⟩ : ∃ g : G, g.v = c := ⟨⟨c, h _ (by simp)⟩, rfl⟩
  simp only [← tv]
  exact ⟨congrArg G.v (@ev2 G gField gChar K X Y W), ⟨congrArg G.v (@un2X G gField gChar K X Y), congrArg G.v (@ov2X G gField gChar K X Y A C)⟩, congrArg G.v (@un2Y G gField gChar K X Y), congrArg G.v (@ov2Y G gField gChar K X Y A C)⟩
end
end Mine


open PySem PySem.W PyProof.Rows PySem.Calls PySem.SeqAt
set_option Elab.async false
set_option maxRecDepth 100000
set_option linter.unusedVariables false
set_option linter.unusedSimpArgs false
namespace Mine

/-! ## what the finder is, and what it tells -/
/-- the sum of a block's errors -/
def sb (c N : Nat) (P : Nat → Nat) (e : Nat → Nat → Nat) (b r : Nat) : Nat := xs c fun u => mul (e b u) (E ((N - 1 - P u) * r))
def rowsS (c N : Nat) (P : Nat → Nat) (e : Nat → Nat → Nat) : List (List Nat) := (List.range c).map fun b => (List.range (c + 1)).map (sb c N P e b)
def partL (p : Nat) (l : List Nat) (c : Nat) : List Nat := (List.range c).map fun k => hornK p l (k + 1)
def frL (c N : Nat) (P : Nat → Nat) (e : Nat → Nat → Nat) : List Nat := (fnd (c + 1) (rowsS c N P e)).reverse
/-- the determinant -/
def detN (c : Nat) (e : Nat → Nat → Nat) : Nat := match c with
  | 2 => mul (e 0 0) (e 1 1) ^^^ mul (e 0 1) (e 1 0)
  | _ => dN (e 0 0) (e 0 1) (e 0 2) (e 1 0) (e 1 1) (e 1 2) (e 2 0) (e 2 1) (e 2 2)
structure CoreOk (c N : Nat) (P : Nat → Nat) (e : Nat → Nat → Nat) : Prop where
  fin : ∀ s < c + 1, ∃ v, getO (wall (c + 1) (rowsS c N P e)) ((2 ^ (c + 1) - 1) ^^^ 2 ^ s) = some v
  len : (frL c N P e).length = c + 1
  oc : oct (frL c N P e)
  root : ∀ i < N, horn (N - 1 - i) (frL c N P e) = 0 ↔ ∃ u < c, i = P u
  und : ∀ u < c, horn (N - 1 - P u) (partL (N - 1 - P u) (frL c N P e) c) ≠ 0
  ovr : ∀ u < c, ∀ b < c, (xs c fun s => mul ((partL (N - 1 - P u) (frL c N P e) c).getD (c - 1 - s) 0) (sb c N P e b s)) = mul (e b u) (horn (N - 1 - P u) (partL (N - 1 - P u) (frL c N P e) c))
theorem w0 {v k : Nat} (h : v < 256) : mul v (E (k * 0)) = v := by rw [Nat.mul_zero, show E 0 = 1 by decide +kernel, mul_one h]
theorem w1 {v k : Nat} : mul v (E (k * 1)) = mul v (E k) := by rw [Nat.mul_one]
theorem w2 {v k : Nat} : mul v (E (k * 2)) = mul v (mul (E k) (E k)) := by rw [E_add, Nat.mul_two]
theorem w3 {v k : Nat} : mul v (E (k * 3)) = mul v (mul (mul (E k) (E k)) (E k)) := by rw [E_add, E_add]; congr 2; omega
theorem sb3 {N : Nat} {P : Nat → Nat} {e : Nat → Nat → Nat} {b : Nat} (h : ∀ u < 3, e b u < 256) :
    ∀ r < 4, sb 3 N P e b r = sN (e b 0) (e b 1) (e b 2) (E (N - 1 - P 0)) (E (N - 1 - P 1)) (E (N - 1 - P 2)) r := by
  intro r hr
  have h0 := h 0 (by decide)
  have h1 := h 1 (by decide)
  have h2 := h 2 (by decide)
  simp only [sb, xs, Nat.zero_xor]
  match r, hr with
  | 0, _ => rw [w0 h0, w0 h1, w0 h2]; rfl
  | 1, _ => rw [w1, w1, w1]; rfl
  | 2, _ => rw [w2, w2, w2]; rfl
  | 3, _ => rw [w3, w3, w3]; rfl
theorem sb2 {N : Nat} {P : Nat → Nat} {e : Nat → Nat → Nat} {b : Nat} (h : ∀ u < 2, e b u < 256) :
    ∀ r < 3, sb 2 N P e b r = tN (e b 0) (e b 1) (E (N - 1 - P 0)) (E (N - 1 - P 1)) r := by
  intro r hr
  have h0 := h 0 (by decide)
  have h1 := h 1 (by decide)
  simp only [sb, xs, Nat.zero_xor]
  match r, hr with
  | 0, _ => rw [w0 h0, w0 h1]; rfl
  | 1, _ => rw [w1, w1]; rfl
  | 2, _ => rw [w2, w2]; rfl
theorem E_inj {N i j : Nat} (hN : N ≤ 200) (hi : i < N) (hj : j < N) (h : E (N - 1 - i) = E (N - 1 - j)) : i = j := by
  have := congrArg L h
  rw [L_E, L_E] at this
  omega
theorem xor_ne {a b : Nat} (h : a ≠ b) : a ^^^ b ≠ 0 := fun z => h (xor_self_cancel z)
theorem mul_eq0 {a b : Nat} : mul a b = 0 ↔ a = 0 ∨ b = 0 := by
  constructor
  · intro h
    by_cases h0 : a = 0
    · exact .inl h0
    · by_cases h1 : b = 0
      · exact .inr h1
      · exact absurd h (mul_ne h0 h1)
  · rintro (rfl | rfl)
    · exact zero_mul _
    · exact mul_zero _
theorem xor_eq0 {a b : Nat} : a ^^^ b = 0 ↔ a = b := ⟨xor_self_cancel, fun h => by rw [h, Nat.xor_self]⟩
theorem horn_step {p : Nat} {l : List Nat} {t : Nat} (ht : t < 256) {o : Nat} : (o :: l).foldl (fun t o => xtn p t ^^^ o) t = l.foldl (fun t o => xtn p t ^^^ o) (mul (E p) t ^^^ o) := by
  rw [List.foldl_cons, mul_E ht]
theorem xtn0 {k : Nat} : xtn k 0 = 0 := by
  induction k with
  | zero => rfl
  | succ k ih => show xt (xtn k 0) = 0; rw [ih]; rfl
theorem horn2 {p a b : Nat} (ha : a < 256) : horn p [a, b] = mul (E p) a ^^^ b := by
  unfold horn
  simp only [List.foldl]
  rw [xtn0, Nat.zero_xor, mul_E ha]
theorem horn1 {p a : Nat} : horn p [a] = a := by
  unfold horn
  simp only [List.foldl]
  rw [xtn0, Nat.zero_xor]
theorem horn3' {p a b c : Nat} (ha : a < 256) (hb : b < 256) : horn p [a, b, c] = mul (E p) (mul (E p) a ^^^ b) ^^^ c := by
  unfold horn
  simp only [List.foldl]
  rw [xtn0, Nat.zero_xor, ← mul_E ha, ← mul_E (xor_lt (mul_lt _ _) hb)]
theorem horn4' {p a b c d : Nat} (ha : a < 256) (hb : b < 256) (hc : c < 256) : horn p [a, b, c, d] = mul (E p) (mul (E p) (mul (E p) a ^^^ b) ^^^ c) ^^^ d := by
  unfold horn
  simp only [List.foldl]
  rw [xtn0, Nat.zero_xor, ← mul_E ha, ← mul_E (xor_lt (mul_lt _ _) hb), ← mul_E (xor_lt (mul_lt _ _) hc)]
theorem core3 {N : Nat} {P : Nat → Nat} {e : Nat → Nat → Nat} (hN : N ≤ 200) (hP : ∀ u < 3, P u < N) (h01 : P 0 ≠ P 1) (h02 : P 0 ≠ P 2) (h12 : P 1 ≠ P 2) (he : ∀ b < 3, ∀ u < 3, e b u < 256) (hd : detN 3 e ≠ 0) : CoreOk 3 N P e := by
  have er : rowsS 3 N P e = [[sb 3 N P e 0 0, sb 3 N P e 0 1, sb 3 N P e 0 2, sb 3 N P e 0 3], [sb 3 N P e 1 0, sb 3 N P e 1 1, sb 3 N P e 1 2, sb 3 N P e 1 3], [sb 3 N P e 2 0, sb 3 N P e 2 1, sb 3 N P e 2 2, sb 3 N P e 2 3]] := by rfl
  have f3 := fnd3_eq (sb 3 N P e 0 0) (sb 3 N P e 0 1) (sb 3 N P e 0 2) (sb 3 N P e 0 3) (sb 3 N P e 1 0) (sb 3 N P e 1 1) (sb 3 N P e 1 2) (sb 3 N P e 1 3) (sb 3 N P e 2 0) (sb 3 N P e 2 1) (sb 3 N P e 2 2) (sb 3 N P e 2 3)
  rw [← er] at f3
  obtain ⟨f1, f2⟩ := f3
  have hx := E_lt (N - 1 - P 0)
  have hy := E_lt (N - 1 - P 1)
  have hz := E_lt (N - 1 - P 2)
  have nxy : E (N - 1 - P 0) ≠ E (N - 1 - P 1) := fun z => h01 (E_inj hN (hP 0 (by decide)) (hP 1 (by decide)) z)
  have nxz : E (N - 1 - P 0) ≠ E (N - 1 - P 2) := fun z => h02 (E_inj hN (hP 0 (by decide)) (hP 2 (by decide)) z)
  have nyz : E (N - 1 - P 1) ≠ E (N - 1 - P 2) := fun z => h12 (E_inj hN (hP 1 (by decide)) (hP 2 (by decide)) z)
  have s0 := sb3 (N := N) (P := P) (he 0 (by decide))
  have s1 := sb3 (N := N) (P := P) (he 1 (by decide))
  have s2 := sb3 (N := N) (P := P) (he 2 (by decide))
  have hh : oct [e 0 0, e 0 1, e 0 2, e 1 0, e 1 1, e 1 2, e 2 0, e 2 1, e 2 2, E (N - 1 - P 0), E (N - 1 - P 1), E (N - 1 - P 2)] := by
    intro v hv
    simp only [List.mem_cons, List.not_mem_nil, or_false] at hv
    rcases hv with rfl | rfl | rfl | rfl | rfl | rfl | rfl | rfl | rfl | rfl | rfl | rfl
    all_goals first | exact hx | exact hy | exact hz | exact he _ (by decide) _ (by decide)
  obtain ⟨k1, k2, k3', k4⟩ := n3k _ _ _ _ _ _ _ _ _ _ _ _ hh
  rw [s0 0 (by decide), s0 1 (by decide), s0 2 (by decide), s0 3 (by decide), s1 0 (by decide), s1 1 (by decide), s1 2 (by decide), s1 3 (by decide), s2 0 (by decide), s2 1 (by decide), s2 2 (by decide), s2 3 (by decide), k1, k2, k3', k4] at f1
  have hK : k3 (e 0 0) (e 0 1) (e 0 2) (e 1 0) (e 1 1) (e 1 2) (e 2 0) (e 2 1) (e 2 2) (E (N - 1 - P 0)) (E (N - 1 - P 1)) (E (N - 1 - P 2)) ≠ 0 :=
    mul_ne hd (mul_ne (mul_ne (xor_ne nxy) (xor_ne nxz)) (xor_ne nyz))
  have hKl : k3 (e 0 0) (e 0 1) (e 0 2) (e 1 0) (e 1 1) (e 1 2) (e 2 0) (e 2 1) (e 2 2) (E (N - 1 - P 0)) (E (N - 1 - P 1)) (E (N - 1 - P 2)) < 256 := mul_lt _ _
  generalize k3 (e 0 0) (e 0 1) (e 0 2) (e 1 0) (e 1 1) (e 1 2) (e 2 0) (e 2 1) (e 2 2) (E (N - 1 - P 0)) (E (N - 1 - P 1)) (E (N - 1 - P 2)) = K at *
  have f1 : frL 3 N P e = _ := f1
  have pl : ∀ p, partL p (frL 3 N P e) 3 = [K, mul (E p) K ^^^ mul K (E (N - 1 - P 0) ^^^ E (N - 1 - P 1) ^^^ E (N - 1 - P 2)), mul (E p) (mul (E p) K ^^^ mul K (E (N - 1 - P 0) ^^^ E (N - 1 - P 1) ^^^ E (N - 1 - P 2))) ^^^ mul K (mul (E (N - 1 - P 0)) (E (N - 1 - P 1)) ^^^ mul (E (N - 1 - P 0)) (E (N - 1 - P 2)) ^^^ mul (E (N - 1 - P 1)) (E (N - 1 - P 2)))] := by
    intro p
    rw [f1]
    show [horn p [_], horn p [_, _], horn p [_, _, _]] = _
    rw [horn1, horn2 hKl, horn3' hKl (mul_lt _ _)]
  have both : (∀ u < 3, horn (N - 1 - P u) (partL (N - 1 - P u) (frL 3 N P e) 3) ≠ 0) ∧ ∀ u < 3, ∀ b < 3, (xs 3 fun s => mul ((partL (N - 1 - P u) (frL 3 N P e) 3).getD (3 - 1 - s) 0) (sb 3 N P e b s)) = mul (e b u) (horn (N - 1 - P u) (partL (N - 1 - P u) (frL 3 N P e) 3)) := by
    have hn := fun b (hb : b < 3) => (n3e K (E (N - 1 - P 0)) (E (N - 1 - P 1)) (E (N - 1 - P 2)) 0 (e b 0) (e b 1) (e b 2) (by
      intro v hv
      simp only [List.mem_cons, List.not_mem_nil, or_false] at hv
      rcases hv with rfl | rfl | rfl | rfl | rfl | rfl | rfl | rfl
      · exact hKl
      · exact hx
      · exact hy
      · exact hz
      · decide
      all_goals exact he b hb _ (by decide))).2
    have pu : ∀ u, horn (N - 1 - P u) (partL (N - 1 - P u) (frL 3 N P e) 3) = _ := fun u => by
      rw [pl, horn3' hKl (xor_lt (mul_lt _ _) (mul_lt _ _))]
    refine ⟨fun u hu => ?_, fun u hu b hb => ?_⟩
    · rw [pu u]
      match u, hu with
      | 0, _ => rw [(hn 0 (by decide)).1.1]; exact mul_ne hK (mul_ne (xor_ne nxy) (xor_ne nxz))
      | 1, _ => rw [(hn 0 (by decide)).2.1.1]; exact mul_ne hK (mul_ne (xor_ne nxy) (xor_ne nyz))
      | 2, _ => rw [(hn 0 (by decide)).2.2.1]; exact mul_ne hK (mul_ne (xor_ne nxz) (xor_ne nyz))
    · rw [pu u, pl]
      have sbe := sb3 (N := N) (P := P) (he b hb)
      simp only [xs, Nat.zero_xor]
      rw [sbe 0 (by decide), sbe 1 (by decide), sbe 2 (by decide)]
      match u, hu with
      | 0, _ => exact (hn b hb).1.2.trans (congrArg (mul (e b 0)) (hn b hb).1.1.symm)
      | 1, _ => exact (hn b hb).2.1.2.trans (congrArg (mul (e b 1)) (hn b hb).2.1.1.symm)
      | 2, _ => exact (hn b hb).2.2.2.trans (congrArg (mul (e b 2)) (hn b hb).2.2.1.symm)
  refine ⟨f2, by rw [f1]; rfl, ?_, fun i hi => ?_, both.1, both.2⟩
  · rw [f1]
    intro v hv
    simp only [List.mem_cons, List.not_mem_nil, or_false] at hv
    rcases hv with rfl | rfl | rfl | rfl
    · exact hKl
    all_goals exact mul_lt _ _
  · obtain ⟨n1, _⟩ := n3e K (E (N - 1 - P 0)) (E (N - 1 - P 1)) (E (N - 1 - P 2)) (E (N - 1 - i)) 0 0 0 (by
      intro v hv
      simp only [List.mem_cons, List.not_mem_nil, or_false] at hv
      rcases hv with rfl | rfl | rfl | rfl | rfl | rfl | rfl | rfl
      · exact hKl
      · exact hx
      · exact hy
      · exact hz
      · exact E_lt _
      all_goals decide)
    rw [f1, horn4' hKl (mul_lt _ _) (mul_lt _ _), n1, mul_eq0, mul_eq0, mul_eq0, xor_eq0, xor_eq0, xor_eq0]
    constructor
    · rintro (h | h | h | h)
      · exact absurd h hK
      · exact ⟨0, by decide, E_inj hN hi (hP 0 (by decide)) h⟩
      · exact ⟨1, by decide, E_inj hN hi (hP 1 (by decide)) h⟩
      · exact ⟨2, by decide, E_inj hN hi (hP 2 (by decide)) h⟩
    · rintro ⟨u, hu, rfl⟩
      match u, hu with
      | 0, _ => exact .inr (.inl rfl)
      | 1, _ => exact .inr (.inr (.inl rfl))
      | 2, _ => exact .inr (.inr (.inr rfl))
theorem core2 {N : Nat} {P : Nat → Nat} {e : Nat → Nat → Nat} (hN : N ≤ 200) (hP : ∀ u < 2, P u < N) (h01 : P 0 ≠ P 1) (he : ∀ b < 2, ∀ u < 2, e b u < 256) (hd : detN 2 e ≠ 0) : CoreOk 2 N P e := by
  have er : rowsS 2 N P e = [[sb 2 N P e 0 0, sb 2 N P e 0 1, sb 2 N P e 0 2], [sb 2 N P e 1 0, sb 2 N P e 1 1, sb 2 N P e 1 2]] := by rfl
  have f3 := fnd2_eq (sb 2 N P e 0 0) (sb 2 N P e 0 1) (sb 2 N P e 0 2) (sb 2 N P e 1 0) (sb 2 N P e 1 1) (sb 2 N P e 1 2)
  rw [← er] at f3
  obtain ⟨f1, f2⟩ := f3
  have hx := E_lt (N - 1 - P 0)
  have hy := E_lt (N - 1 - P 1)
  have nxy : E (N - 1 - P 0) ≠ E (N - 1 - P 1) := fun z => h01 (E_inj hN (hP 0 (by decide)) (hP 1 (by decide)) z)
  have s0 := sb2 (N := N) (P := P) (he 0 (by decide))
  have s1 := sb2 (N := N) (P := P) (he 1 (by decide))
  have hh : oct [e 0 0, e 0 1, e 1 0, e 1 1, E (N - 1 - P 0), E (N - 1 - P 1)] := by
    intro v hv
    simp only [List.mem_cons, List.not_mem_nil, or_false] at hv
    rcases hv with rfl | rfl | rfl | rfl | rfl | rfl
    all_goals first | exact hx | exact hy | exact he _ (by decide) _ (by decide)
  obtain ⟨k1, k2', k4⟩ := n2k _ _ _ _ _ _ hh
  rw [s0 0 (by decide), s0 1 (by decide), s0 2 (by decide), s1 0 (by decide), s1 1 (by decide), s1 2 (by decide), k1, k2', k4] at f1
  have hK : k2 (e 0 0) (e 0 1) (e 1 0) (e 1 1) (E (N - 1 - P 0)) (E (N - 1 - P 1)) ≠ 0 := mul_ne hd (xor_ne nxy)
  have hKl : k2 (e 0 0) (e 0 1) (e 1 0) (e 1 1) (E (N - 1 - P 0)) (E (N - 1 - P 1)) < 256 := mul_lt _ _
  generalize k2 (e 0 0) (e 0 1) (e 1 0) (e 1 1) (E (N - 1 - P 0)) (E (N - 1 - P 1)) = K at *
  have f1 : frL 2 N P e = _ := f1
  have pl : ∀ p, partL p (frL 2 N P e) 2 = [K, mul (E p) K ^^^ mul K (E (N - 1 - P 0) ^^^ E (N - 1 - P 1))] := by
    intro p
    rw [f1]
    show [horn p [_], horn p [_, _]] = _
    rw [horn1, horn2 hKl]
  have both : (∀ u < 2, horn (N - 1 - P u) (partL (N - 1 - P u) (frL 2 N P e) 2) ≠ 0) ∧ ∀ u < 2, ∀ b < 2, (xs 2 fun s => mul ((partL (N - 1 - P u) (frL 2 N P e) 2).getD (2 - 1 - s) 0) (sb 2 N P e b s)) = mul (e b u) (horn (N - 1 - P u) (partL (N - 1 - P u) (frL 2 N P e) 2)) := by
    have hn := fun b (hb : b < 2) => (n2e K (E (N - 1 - P 0)) (E (N - 1 - P 1)) 0 (e b 0) (e b 1) (by
      intro v hv
      simp only [List.mem_cons, List.not_mem_nil, or_false] at hv
      rcases hv with rfl | rfl | rfl | rfl | rfl | rfl
      · exact hKl
      · exact hx
      · exact hy
      · decide
      all_goals exact he b hb _ (by decide))).2
    have pu : ∀ u, horn (N - 1 - P u) (partL (N - 1 - P u) (frL 2 N P e) 2) = _ := fun u => by
      rw [pl, horn2 hKl]
    refine ⟨fun u hu => ?_, fun u hu b hb => ?_⟩
    · rw [pu u]
      match u, hu with
      | 0, _ => rw [(hn 0 (by decide)).1.1]; exact mul_ne hK (xor_ne nxy)
      | 1, _ => rw [(hn 0 (by decide)).2.1]; exact mul_ne hK (xor_ne nxy)
    · rw [pu u, pl]
      have sbe := sb2 (N := N) (P := P) (he b hb)
      simp only [xs, Nat.zero_xor]
      rw [sbe 0 (by decide), sbe 1 (by decide)]
      match u, hu with
      | 0, _ => exact (hn b hb).1.2.trans (congrArg (mul (e b 0)) (hn b hb).1.1.symm)
      | 1, _ => exact (hn b hb).2.2.trans (congrArg (mul (e b 1)) (hn b hb).2.1.symm)
  refine ⟨f2, by rw [f1]; rfl, ?_, fun i hi => ?_, both.1, both.2⟩
  · rw [f1]
    intro v hv
    simp only [List.mem_cons, List.not_mem_nil, or_false] at hv
    rcases hv with rfl | rfl | rfl
    · exact hKl
    all_goals exact mul_lt _ _
  · obtain ⟨n1, _⟩ := n2e K (E (N - 1 - P 0)) (E (N - 1 - P 1)) (E (N - 1 - i)) 0 0 (by
      intro v hv
      simp only [List.mem_cons, List.not_mem_nil, or_false] at hv
      rcases hv with rfl | rfl | rfl | rfl | rfl | rfl
      · exact hKl
      · exact hx
      · exact hy
      · exact E_lt _
      all_goals decide)
    rw [f1, horn3' hKl (mul_lt _ _), n1, mul_eq0, mul_eq0, xor_eq0, xor_eq0]
    constructor
    · rintro (h | h | h)
      · exact absurd h hK
      · exact ⟨0, by decide, E_inj hN hi (hP 0 (by decide)) h⟩
      · exact ⟨1, by decide, E_inj hN hi (hP 1 (by decide)) h⟩
    · rintro ⟨u, hu, rfl⟩
      match u, hu with
      | 0, _ => exact .inr (.inl rfl)
      | 1, _ => exact .inr (.inr rfl)
theorem core_ok {c N : Nat} {P : Nat → Nat} {e : Nat → Nat → Nat} (hc : c = 2 ∨ c = 3) (hN : N ≤ 200) (hP : ∀ u < c, P u < N) (hi : ∀ u < c, ∀ v < u, P u ≠ P v) (he : ∀ b < c, ∀ u < c, e b u < 256) (hd : detN c e ≠ 0) : CoreOk c N P e := by
  rcases hc with rfl | rfl
  · exact core2 hN hP (hi 1 (by decide) 0 (by decide)).symm he hd
  · exact core3 hN hP (hi 1 (by decide) 0 (by decide)).symm (hi 2 (by decide) 0 (by decide)).symm (hi 2 (by decide) 1 (by decide)).symm he hd
end Mine


open PySem PySem.W PyProof.Rows PySem.Calls PySem.SeqAt
set_option Elab.async false
set_option maxRecDepth 100000
set_option linter.unusedVariables false
set_option linter.unusedSimpArgs false
namespace Mine

/-! ## the blocks -/
structure DRows (own c : Nat) (dB : Nat → List Nat) : Prop where
  len : ∀ b < c, (dB b).length = own
  oc : ∀ b < c, oct (dB b)
  nz : ∀ b < c, ∃ v ∈ dB b, v ≠ 0
def bytesN (c : Nat) (dB : Nat → List Nat) : List Nat := (List.range c).flatMap dB
def Tn (c : Nat) (dB : Nat → List Nat) (i b : Nat) : Nat := (dataG (gq (c + 1)) (dB b)).getD i 0
theorem list_range {l : List Nat} {n : Nat} (h : l.length = n) : (List.range n).map (fun i => l.getD i 0) = l := by
  subst h
  refine List.ext_getElem (by simp) fun i g1 g2 => ?_
  simp only [List.getElem_map, List.getElem_range]
  exact Option.some.inj ((get_getD g2).symm.trans (List.getElem?_eq_getElem g2))
theorem bytes_tab {own c : Nat} {dB : Nat → List Nat} (h : DRows own c dB) : bytesN c dB = tab c own fun b j => (dB b).getD j 0 :=
  fm_congr fun b hb => (list_range (h.len b (List.mem_range.mp hb))).symm
theorem bytes_len {own c : Nat} {dB : Nat → List Nat} (h : DRows own c dB) : (bytesN c dB).length = c * own := by rw [bytes_tab h, tab_length]
theorem bytes_oct {own c : Nat} {dB : Nat → List Nat} (h : DRows own c dB) : oct (bytesN c dB) := by
  rw [bytes_tab h]
  exact tab_oct fun b hb j hj => getD_oct (h.oc b hb) j
theorem Tn_lt {own c : Nat} {dB : Nat → List Nat} (h : DRows own c dB) {i b : Nat} (hb : b < c) : Tn c dB i b < 256 := getD_oct (dataG_oct (h.oc b hb)) i
theorem getD_app {a b : List Nat} {i : Nat} : (a ++ b).getD i 0 = if i < a.length then a.getD i 0 else b.getD (i - a.length) 0 := by
  split
  · rw [List.getD_eq_getElem?_getD, List.getElem?_append_left (by omega), ← List.getD_eq_getElem?_getD]
  · rw [List.getD_eq_getElem?_getD, List.getElem?_append_right (by omega), ← List.getD_eq_getElem?_getD]
theorem outG {own c f : Nat} {dB : Nat → List Nat} (h : Shp own (c + 1)) (hr : DRows own c dB) (hf : own + (c + 1) ≤ f) : outOf (bytesN c dB) (1 :: gq (c + 1)) c own (c + 1) f = tab (own + (c + 1)) c (Tn c dB) ∧
    ∀ t < c, Good f (strip (chunk (bytesN c dB) own t) ++ List.replicate ((1 :: gq (c + 1)).length - 1) 0) (1 :: gq (c + 1)) ∧ (pmodF f (strip (chunk (bytesN c dB) own t) ++ List.replicate ((1 :: gq (c + 1)).length - 1) 0) (1 :: gq (c + 1))).length ≤ 1000 := by
  obtain ⟨h1, h2⟩ := h.e
  have l7 := gq_len h1
  have hc : ∀ t < c, chunk (bytesN c dB) own t = dB t := fun t ht => by rw [bytes_tab hr, tab_chunk ht, list_range (hr.len t ht)]
  have hb : 1 ≤ own ∧ own ≤ 3 ∧ c + 1 ≤ 4 := by
    simp only [List.mem_cons, List.not_mem_nil, or_false] at h1 h2; omega
  have blk := fun t (ht : t < c) => block (g' := gq (c + 1)) (data := dB t) (f := f) (gq_pos h1) (by omega) (hr.oc t ht) (hr.nz t ht) (by rw [hr.len t ht, l7]; exact hf)
  refine ⟨?_, fun t ht => ?_⟩
  · unfold outOf
    rw [interl_tab, interl_tab, tab_append]
    refine tab_congr fun i hi t ht => ?_
    have b3 := (blk t ht).2.2
    rw [l7] at b3
    unfold Tn dataG
    rw [getD_app, hr.len t ht]
    split
    · rw [hc t ht]
    · unfold chk
      rw [hc t ht, b3, l7, hr.len t ht]
  · rw [hc t ht]
    obtain ⟨b1, b2, _⟩ := blk t ht
    have := hr.len t ht
    exact ⟨b1, by omega⟩
/-! ## the sums of the struck columns -/
def erN (c : Nat) (P : Nat → Nat) (e : Nat → Nat → Nat) (i b : Nat) : Nat := xs c fun u => if i = P u then e b u else 0
theorem xs_zero {n : Nat} : xs n (fun _ => 0) = 0 := by
  induction n with
  | zero => rfl
  | succ n ih => unfold xs; rw [ih]; rfl
theorem xs_swap {n m : Nat} {f : Nat → Nat → Nat} : xs n (fun i => xs m fun j => f i j) = xs m fun j => xs n fun i => f i j := by
  induction n with
  | zero => exact xs_zero.symm
  | succ n ih =>
    rw [xs, ih, ← xs_xor]; rfl
theorem xs_one {n p : Nat} {f : Nat → Nat} (hp : p < n) (h : ∀ i < n, i ≠ p → f i = 0) : xs n f = f p := by
  induction n with
  | zero => omega
  | succ n ih =>
    unfold xs
    by_cases e : p = n
    · subst e
      rw [show xs p f = xs p fun _ => 0 from xs_congr fun i hi => h i (by omega) (by omega), xs_zero, Nat.zero_xor]
    · rw [ih (by omega) fun i hi hne => h i (by omega) hne, h n (by omega) (fun z => e z.symm), Nat.xor_zero]
theorem erN_lt {c : Nat} {P : Nat → Nat} {e : Nat → Nat → Nat} {i b : Nat} (he : ∀ u < c, e b u < 256) : erN c P e i b < 256 := xs_lt fun u hu => by
  split
  · exact he u hu
  · decide
theorem erN_at {c : Nat} {P : Nat → Nat} {e : Nat → Nat → Nat} {u b : Nat} (hu : u < c) (hi : ∀ u < c, ∀ v < c, P u = P v → u = v) : erN c P e (P u) b = e b u := by
  unfold erN
  rw [xs_one hu fun v hv hne => if_neg fun z => hne (hi u hu v hv z).symm, if_pos rfl]
theorem erN_off {c : Nat} {P : Nat → Nat} {e : Nat → Nat → Nat} {i b : Nat} (h : ∀ u < c, i ≠ P u) : erN c P e i b = 0 := by
  unfold erN
  exact Eq.trans (xs_congr (g := fun _ => 0) fun u hu => if_neg (h u hu)) xs_zero
def colL (N c : Nat) (dB : Nat → List Nat) (P : Nat → Nat) (e : Nat → Nat → Nat) (b : Nat) : List Nat := (List.range N).map fun i => Tn c dB i b ^^^ erN c P e i b
theorem col_oct {own N c : Nat} {dB : Nat → List Nat} {P : Nat → Nat} {e : Nat → Nat → Nat} {b : Nat} (hr : DRows own c dB) (hb : b < c) (he : ∀ u < c, e b u < 256) : oct (colL N c dB P e b) := by
  intro v hv
  obtain ⟨i, _, rfl⟩ := List.mem_map.mp hv
  exact xor_lt (Tn_lt hr hb) (erN_lt he)
theorem range_getD {N i : Nat} {f : Nat → Nat} (h : i < N) : ((List.range N).map f).getD i 0 = f i := by
  rw [List.getD_eq_getElem?_getD, List.getElem?_map, List.getElem?_range h]; rfl
theorem col_sum {own c r : Nat} {dB : Nat → List Nat} {P : Nat → Nat} {e : Nat → Nat → Nat} {b : Nat} (h : Shp own (c + 1)) (hr : DRows own c dB) (hb : b < c) (he : ∀ u < c, e b u < 256) (hP : ∀ u < c, P u < own + (c + 1)) (hrr : r < c + 1) :
    horn r (colL (own + (c + 1)) c dB P e b) = sb c (own + (c + 1)) P e b r := by
  rw [horn_S1 (col_oct hr hb he)]
  have hl : (colL (own + (c + 1)) c dB P e b).length = own + (c + 1) := by simp [colL]
  rw [hl]
  have e1 : S1 (own + (c + 1)) ((colL (own + (c + 1)) c dB P e b).getD · 0) r = S1 (own + (c + 1)) ((dataG (gq (c + 1)) (dB b)).getD · 0) r ^^^ xs (own + (c + 1)) fun i => mul (erN c P e i b) (E ((own + (c + 1) - 1 - i) * r)) := by
    unfold S1
    rw [← xs_xor]
    refine xs_congr fun i hi => ?_
    show mul ((colL (own + (c + 1)) c dB P e b).getD i 0) _ = mul ((dataG (gq (c + 1)) (dB b)).getD i 0) _ ^^^ _
    rw [← xor_mul (getD_oct (dataG_oct (hr.oc b hb)) i) (erN_lt he) (E_lt _)]
    congr 1
    exact range_getD hi
  rw [e1, blockG h (hr.len b hb) (hr.oc b hb) r hrr, Nat.zero_xor]
  have e2 : ∀ i, mul (erN c P e i b) (E ((own + (c + 1) - 1 - i) * r)) = xs c fun u => mul (if i = P u then e b u else 0) (E ((own + (c + 1) - 1 - i) * r)) := fun i => by
    rw [mul_comm]
    unfold erN
    rw [← xs_mul (E_lt _) fun u hu => by
      split
      · exact he u hu
      · decide]
    exact xs_congr fun u _ => mul_comm _ _
  rw [xs_congr (g := fun i => xs c fun u => mul (if i = P u then e b u else 0) (E ((own + (c + 1) - 1 - i) * r))) fun i _ => e2 i, xs_swap]
  unfold sb
  refine xs_congr fun u hu => ?_
  rw [xs_one (hP u hu) fun i _ hne => by rw [if_neg hne, zero_mul], if_pos rfl]
/-! ## the errors are independent -/
section
variable {F : Type} [Lean.Grind.CommRing F] [Lean.Grind.IsCharP F 2]
theorem det3F (a b c d f g k l : F) : dF a (k * a) (l * (k * a)) b (d + k * b) (l * (d + k * b)) c (f + k * c) (g + l * (f + k * c)) = a * d * g := by
  simp only [dF]; grind
theorem rot3F (a0 b0 c0 a1 b1 c1 a2 b2 c2 : F) : dF a0 b0 c0 a1 b1 c1 a2 b2 c2 = dF a1 b1 c1 a2 b2 c2 a0 b0 c0 := by
  simp only [dF]; grind
theorem det2F (a b d k : F) : a * (d + k * b) + (k * a) * b = a * d := by grind
end
theorem det3N (a b c d f g k l : Nat) (h : oct [a, b, c, d, f, g, k, l]) : dN a (mul k a) (mul l (mul k a)) b (d ^^^ mul k b) (mul l (d ^^^ mul k b)) c (f ^^^ mul k c) (g ^^^ mul l (f ^^^ mul k c)) = mul (mul a d) g := by
  obtain ⟨A, rfl⟩ : ∃ x : G, x.v = a := ⟨⟨a, h _ (by simp)⟩, rfl⟩
  obtain ⟨B, rfl⟩ : ∃ x : G, x.v = b := ⟨⟨b, h _ (by simp)⟩, rfl⟩
  obtain ⟨C, rfl⟩ : ∃ x : G, x.v = c := ⟨⟨c, h _ (by simp)⟩, rfl⟩
  obtain ⟨D, rfl⟩ : ∃ x : G, x.v = d := ⟨⟨d, h _ (by simp)⟩, rfl⟩
  obtain ⟨F, rfl⟩ : ∃ x : G, x.v = f := ⟨⟨f, h _ (by simp)⟩, rfl⟩
  obtain ⟨H, rfl⟩ : ∃ x : G, x.v = g := ⟨⟨g, h _ (by simp)⟩, rfl⟩
  obtain ⟨K, rfl⟩ : ∃ x : G, x.v = k := ⟨⟨k, h _ (by simp)⟩, rfl⟩
  obtain ⟨M, rfl⟩ : ∃ x : G, x.v = l := ⟨⟨l, h _ (by simp)⟩, rfl⟩
  exact congrArg G.v (@det3F G gField gChar A B C D F H K M)
theorem rot3N (a0 b0 c0 a1 b1 c1 a2 b2 c2 : Nat) (h : oct [a0, b0, c0, a1, b1, c1, a2, b2, c2]) : dN a0 b0 c0 a1 b1 c1 a2 b2 c2 = dN a1 b1 c1 a2 b2 c2 a0 b0 c0 := by
  obtain ⟨A0, rfl⟩ : ∃ g : G, g.v = a0 := ⟨⟨a0, h _ (by simp)⟩, rfl⟩
  obtain ⟨B0, rfl⟩ : ∃ g : G, g.v = b0 := ⟨⟨b0, h _ (by simp)⟩, rfl⟩
  obtain ⟨C0, rfl⟩ : ∃ g : G, g.v = c0 := ⟨⟨c0, h _ (by simp)⟩, rfl⟩
  obtain ⟨A1, rfl⟩ : ∃ g : G, g.v = a1 := ⟨⟨a1, h _ (by simp)⟩, rfl⟩
  obtain ⟨B1, rfl⟩ : ∃ g : G, g.v = b1 := ⟨⟨b1, h _ (by simp)⟩, rfl⟩
  obtain ⟨C1, rfl⟩ : ∃ g : G, g.v = c1 := ⟨⟨c1, h _ (by simp)⟩, rfl⟩
  obtain ⟨A2, rfl⟩ : ∃ g : G, g.v = a2 := ⟨⟨a2, h _ (by simp)⟩, rfl⟩
  obtain ⟨B2, rfl⟩ : ∃ g : G, g.v = b2 := ⟨⟨b2, h _ (by simp)⟩, rfl⟩
  obtain ⟨C2, rfl⟩ : ∃ g : G, g.v = c2 := ⟨⟨c2, h _ (by simp)⟩, rfl⟩
  exact congrArg G.v (@rot3F G gField gChar A0 B0 C0 A1 B1 C1 A2 B2 C2)
theorem det2N (a b d k : Nat) (h : oct [a, b, d, k]) : mul a (d ^^^ mul k b) ^^^ mul (mul k a) b = mul a d := by
  obtain ⟨A, rfl⟩ : ∃ x : G, x.v = a := ⟨⟨a, h _ (by simp)⟩, rfl⟩
  obtain ⟨B, rfl⟩ : ∃ x : G, x.v = b := ⟨⟨b, h _ (by simp)⟩, rfl⟩
  obtain ⟨D, rfl⟩ : ∃ x : G, x.v = d := ⟨⟨d, h _ (by simp)⟩, rfl⟩
  obtain ⟨K, rfl⟩ : ∃ x : G, x.v = k := ⟨⟨k, h _ (by simp)⟩, rfl⟩
  exact congrArg G.v (@det2F G gField gChar A B D K)
/-- a row of errors is a row of a triangle, and perhaps the row before -/
def RowOk (c : Nat) (R : Nat → Nat → Nat) (u : Nat) : Prop := ∃ (U : Nat → Nat) (k : Nat), k < 256 ∧ (∀ o < c, U o < 256) ∧ (∀ o < u, U o = 0) ∧ U u ≠ 0 ∧ ∀ o < c, R u o = U o ^^^ mul k (if u = 0 then 0 else R (u - 1) o)
theorem det_ne {c s : Nat} {R : Nat → Nat → Nat} (hc : c = 2 ∨ c = 3) (hs : s < c) (h : ∀ u < c, RowOk c R u) : detN c (fun b u => R u ((b + c - s) % c)) ≠ 0 := by
  rcases hc with rfl | rfl
  · obtain ⟨U, k, _, u1, _, u3, u4⟩ := h 0 (by decide)
    obtain ⟨W, l, l1, w1, w2, w3, w4⟩ := h 1 (by decide)
    have r00 := u4 0 (by decide)
    have r01 := u4 1 (by decide)
    have r10 := w4 0 (by decide)
    have r11 := w4 1 (by decide)
    simp only [if_pos, mul_zero, Nat.xor_zero] at r00 r01
    rw [if_neg (by decide), w2 0 (by decide), Nat.zero_xor, Nat.sub_self, r00] at r10
    rw [if_neg (by decide), Nat.sub_self, r01] at r11
    have d := det2N (U 0) (U 1) (W 1) l (by
      intro v hv
      simp only [List.mem_cons, List.not_mem_nil, or_false] at hv
      rcases hv with rfl | rfl | rfl | rfl
      · exact u1 _ (by decide)
      · exact u1 _ (by decide)
      · exact w1 _ (by decide)
      · exact l1)
    rw [← r10, ← r11, ← r00, ← r01] at d
    have ne : mul (R 0 0) (W 1) ≠ 0 := mul_ne (by rw [r00]; exact u3) w3
    rw [← d] at ne
    have hs' : s = 0 ∨ s = 1 := by omega
    rcases hs' with rfl | rfl
    · exact ne
    · show mul (R 0 1) (R 1 0) ^^^ mul (R 1 1) (R 0 0) ≠ 0
      rw [Nat.xor_comm, mul_comm (R 1 1), mul_comm (R 0 1)]; exact ne
  · obtain ⟨U, k, _, u1, _, u3, u4⟩ := h 0 (by decide)
    obtain ⟨W, l, l1, w1, w2, w3, w4⟩ := h 1 (by decide)
    obtain ⟨Z, m, m1, z1, z2, z3, z4⟩ := h 2 (by decide)
    have r00 := u4 0 (by decide)
    have r01 := u4 1 (by decide)
    have r02 := u4 2 (by decide)
    have r10 := w4 0 (by decide)
    have r11 := w4 1 (by decide)
    have r12 := w4 2 (by decide)
    have r20 := z4 0 (by decide)
    have r21 := z4 1 (by decide)
    have r22 := z4 2 (by decide)
    simp only [if_pos, mul_zero, Nat.xor_zero] at r00 r01 r02
    rw [if_neg (by decide), w2 0 (by decide), Nat.zero_xor, Nat.sub_self, r00] at r10
    rw [if_neg (by decide), Nat.sub_self, r01] at r11
    rw [if_neg (by decide), Nat.sub_self, r02] at r12
    rw [if_neg (by decide), z2 0 (by decide), Nat.zero_xor, show 2 - 1 = 1 from rfl, r10] at r20
    rw [if_neg (by decide), z2 1 (by decide), Nat.zero_xor, show 2 - 1 = 1 from rfl, r11] at r21
    rw [if_neg (by decide), show 2 - 1 = 1 from rfl, r12] at r22
    have d := det3N (U 0) (U 1) (U 2) (W 1) (W 2) (Z 2) l m (by
      intro v hv
      simp only [List.mem_cons, List.not_mem_nil, or_false] at hv
      rcases hv with rfl | rfl | rfl | rfl | rfl | rfl | rfl | rfl
      · exact u1 _ (by decide)
      · exact u1 _ (by decide)
      · exact u1 _ (by decide)
      · exact w1 _ (by decide)
      · exact w1 _ (by decide)
      · exact z1 _ (by decide)
      · exact l1
      · exact m1)
    have ne : mul (mul (U 0) (W 1)) (Z 2) ≠ 0 := mul_ne (mul_ne u3 w3) z3
    rw [← d] at ne
    rw [← r20, ← r21, ← r22, ← r10, ← r11, ← r12, ← r00, ← r01, ← r02] at ne
    have hx := xor_lt (w1 2 (by decide)) (mul_lt l (U 2))
    have o0 : R 0 0 < 256 := by rw [r00]; exact u1 _ (by decide)
    have o1 : R 0 1 < 256 := by rw [r01]; exact u1 _ (by decide)
    have o2 : R 0 2 < 256 := by rw [r02]; exact u1 _ (by decide)
    have o3 : R 1 0 < 256 := by rw [r10]; exact mul_lt _ _
    have o4 : R 1 1 < 256 := by rw [r11]; exact xor_lt (w1 _ (by decide)) (mul_lt _ _)
    have o5 : R 1 2 < 256 := by rw [r12]; exact xor_lt (w1 _ (by decide)) (mul_lt _ _)
    have o6 : R 2 0 < 256 := by rw [r20]; exact mul_lt _ _
    have o7 : R 2 1 < 256 := by rw [r21]; exact mul_lt _ _
    have o8 : R 2 2 < 256 := by rw [r22]; exact xor_lt (z1 _ (by decide)) (mul_lt _ _)
    have q1 := rot3N (R 0 0) (R 1 0) (R 2 0) (R 0 1) (R 1 1) (R 2 1) (R 0 2) (R 1 2) (R 2 2) (by
      intro v hv
      simp only [List.mem_cons, List.not_mem_nil, or_false] at hv
      rcases hv with rfl | rfl | rfl | rfl | rfl | rfl | rfl | rfl | rfl <;> assumption)
    have q2 := rot3N (R 0 1) (R 1 1) (R 2 1) (R 0 2) (R 1 2) (R 2 2) (R 0 0) (R 1 0) (R 2 0) (by
      intro v hv
      simp only [List.mem_cons, List.not_mem_nil, or_false] at hv
      rcases hv with rfl | rfl | rfl | rfl | rfl | rfl | rfl | rfl | rfl <;> assumption)
    have hs' : s = 0 ∨ s = 1 ∨ s = 2 := by omega
    rcases hs' with rfl | rfl | rfl
    · exact ne
    · show dN (R 0 2) (R 1 2) (R 2 2) (R 0 0) (R 1 0) (R 2 0) (R 0 1) (R 1 1) (R 2 1) ≠ 0
      rw [← q2, ← q1]; exact ne
    · show dN (R 0 1) (R 1 1) (R 2 1) (R 0 2) (R 1 2) (R 2 2) (R 0 0) (R 1 0) (R 2 0) ≠ 0
      rw [← q1]; exact ne
/-! ## what is found -/
theorem found_eq {N : Nat} {P : List Nat} {f : Nat → Nat} (hs : P.Pairwise (· ≤ ·)) (hn : P.Nodup) (hP : ∀ p ∈ P, p < N) (h : ∀ i < N, f i = 0 ↔ i ∈ P) : (List.range N).filter (fun i => f i = 0) = P := by
  refine List.Perm.eq_of_pairwise (le := (· ≤ ·)) (fun a b _ _ h1 h2 => Nat.le_antisymm h1 h2) ?_ hs ?_
  · exact List.Pairwise.filter _ (List.pairwise_le_range)
  · refine (List.perm_ext_iff_of_nodup (List.Pairwise.filter _ List.nodup_range) hn).mpr fun a => ?_
    rw [List.mem_filter, List.mem_range]
    constructor
    · rintro ⟨h1, h2⟩
      exact (h a h1).mp (by simpa using h2)
    · intro ha
      exact ⟨hP a ha, by simpa using (h a (hP a ha)).mpr ha⟩
theorem pg4 : ∀ j < 4, pos (genF j) ∧ pos (strip [1, E j]) ∧ genF j ≠ [] ∧ (genF j).length ≤ 100 := by
  have h : ∀ j < 4, (∀ v ∈ genF j, 1 ≤ v ∧ v < 256) ∧ (∀ v ∈ strip [1, E j], 1 ≤ v ∧ v < 256) ∧ genF j ≠ [] ∧ (genF j).length ≤ 100 := by decide +kernel
  exact h
variable {X : Cx} {n : Nat} {Γ : Led} {Q : V → Led → Prop}
theorem rs4 (P : CbF X) {e : Nat} (h : e ∈ [3, 4]) : RsOk X (n + 3) e (1 :: gq e) := by
  have r : 1 ≤ e ∧ e ≤ 4 := by simp only [List.mem_cons, List.not_mem_nil, or_false] at h; omega
  obtain ⟨f, hf, h4, _⟩ := P.lut
  intro Γ buf bl off mD mE dcd ecd rb m cur raw mo ec moff rs Qs q
  exact gen_loop P.poly (by omega) (fun j hj => pg4 j (by omega)) hf (h4 e r.1 r.2) fun r Δ hp => q r Δ (by rw [← gq_gen e h]; exact hp)
end Mine


open PySem PySem.W PyProof.Rows PySem.Calls PySem.SeqAt
set_option Elab.async false
set_option maxRecDepth 100000
set_option linter.unusedVariables false
set_option linter.unusedSimpArgs false
namespace Mine
variable {X : Cx} {n : Nat} {Γ : Led} {Q : V → Led → Prop}

/-! ## the body of law 01 -/
def ek_places : ME := (.comp [none, none, some 13, some 0, some 4] (.loc 1) (.rng (.loc 1)) .tt (.meth (.loc 2) 12 (.cons (.call (.val (.ref 313)) (.cons (.loc 3) (.cons (.bin .Add (.int 8) (.loc 1)) (.cons (.bin .Sub (.loc 4) (.loc 1)) .nil)))) .nil)))
def ek_blocks : ME := (.comp [none, none, some 2, some 4] (.loc 1) (.rng (.loc 1)) .tt (.call (.val (.ref 244)) (.cons (.loc 3) (.cons (.loc 2) .nil))))
def ek_turns : ME := (.comp2 [none, none, none, some 5] (.loc 1) (.rng (.loc 2)) (.loc 2) (.over (.loc 3)) (.sub (.loc 2) (.loc 1)))
def ek_flat : ME := (.comp2 [none, none, none] (.loc 1) (.over (.loc 5)) (.loc 2) (.over (.loc 1)) (.loc 2))
def ek_draw : ME := (.comp [none, none, some 2, some 0, some 6] (.loc 1) (.rng (.loc 2)) .tt (.call (.val (.ref 313)) (.cons (.loc 3) (.cons (.bin .Add (.bin .Add (.int 2) (.bin .Mult (.loc 4) (.loc 2))) (.loc 1)) (.cons (.int 256) .nil)))))
def ek_xor : ME := (.comp [none, none, none] (.two 1 2) (.zip (.loc 18) (.loc 17)) .tt (.bin .BitXor (.loc 1) (.loc 2)))
def k_lawfbT : MSs := (.cons (.asgSub (.loc 8) (.bin .Sub (.loc 2) (.int 1)) (.int 1)) .nil)
def k_lawf2 : MSs := (.cons (.expr (.meth (.loc 5) 6 (.cons (.loc 8) .nil))) .nil)
def k_lawf1 : MSs := (.cons (.ite (.cmp .Eq (.call (.val (.builtin "sum")) (.cons (.loc 8) .nil)) (.int 0)) k_lawfbT .nil) k_lawf2)
def k_lawf : MSs := (.cons (.asg 8 ek_draw) k_lawf1)
def k_lawha : MSs := (.cons (.expr (.meth (.loc 9) 8 (.cons (.loc 10) (.cons (.int 8) .nil)))) .nil)
def k_lawh : MSs := (.cons (.loop (.loc 10) (.over (.loc 8)) k_lawha) .nil)
def k_lawkT : MSs := (.cons (.ret (.bool false)) .nil)
def k_lawlT : MSs := (.cons (.ret (.bool false)) .nil)
def k_lawmT : MSs := (.cons (.ret (.bool false)) .nil)
def k_lawnT : MSs := (.cons (.ret (.bool false)) .nil)
def k_lawtc : MSs := (.cons (.asgSub (.loc 18) (.loc 19) (.call (.val (.ref 313)) (.cons (.loc 0) (.cons (.bin .Add (.bin .Add (.int 14) (.loc 6)) (.loc 19)) (.cons (.int 256) .nil))))) .nil)
def k_lawtdT : MSs := (.cons (.asg 18 ek_xor) .nil)
def k_lawtf : MSs := (.cons (.augSub (.loc 16) (.bin .Add (.bin .Mult (.sub (.loc 14) (.loc 6)) (.loc 1)) (.bin .Mod (.bin .Add (.loc 19) (.loc 15)) (.loc 1))) .BitXor (.sub (.loc 18) (.loc 19))) .nil)
def k_lawt5 : MSs := (.cons (.loop (.loc 19) (.rng (.loc 1)) k_lawtf) .nil)
def k_lawt4 : MSs := (.cons (.asg 17 (.loc 18)) k_lawt5)
def k_lawt3 : MSs := (.cons (.ite (.val (.call (.val (.ref 313)) (.cons (.loc 0) (.cons (.bin .Add (.int 18) (.loc 6)) (.cons (.int 2) .nil))))) k_lawtdT .nil) k_lawt4)
def k_lawt2 : MSs := (.cons (.loop (.loc 19) (.rng2 (.bin .Add (.loc 6) (.int 1)) (.loc 1)) k_lawtc) k_lawt3)
def k_lawt1 : MSs := (.cons (.asgSub (.loc 18) (.loc 6) (.bin .Add (.int 1) (.call (.val (.ref 313)) (.cons (.loc 0) (.cons (.bin .Add (.int 12) (.loc 6)) (.cons (.int 255) .nil)))))) k_lawt2)
def k_lawt : MSs := (.cons (.asg 18 (.bin .Mult (.list (.cons (.int 0) .nil)) (.loc 1))) k_lawt1)
def k_lawvbb : MSs := (.cons (.asg 23 (.bin .BitXor (.call (.val (.ref 327)) (.cons (.loc 23) (.cons (.loc 22) .nil))) (.loc 10))) .nil)
def k_lawvb2 : MSs := (.cons (.expr (.meth (.loc 21) 6 (.cons (.loc 23) .nil))) .nil)
def k_lawvb1 : MSs := (.cons (.loop (.loc 10) (.over (.slice (.loc 16) (.loc 6) .none (.loc 1))) k_lawvbb) k_lawvb2)
def k_lawvb : MSs := (.cons (.asg 23 (.int 0)) k_lawvb1)
def k_lawv2 : MSs := (.cons (.expr (.meth (.loc 20) 6 (.cons (.loc 21) .nil))) .nil)
def k_lawv1 : MSs := (.cons (.loop (.loc 22) (.rng (.loc 3)) k_lawvb) k_lawv2)
def k_lawv : MSs := (.cons (.asg 21 (.list .nil)) k_lawv1)
def k_lawzb : MSs := (.cons (.asg 23 (.bin .BitXor (.call (.val (.ref 327)) (.cons (.loc 23) (.cons (.bin .Sub (.bin .Sub (.loc 4) (.int 1)) (.loc 26)) .nil))) (.loc 10))) .nil)
def k_lawzcT : MSs := (.cons (.expr (.meth (.loc 25) 6 (.cons (.loc 26) .nil))) .nil)
def k_lawz2 : MSs := (.cons (.ite (.cmp .Eq (.loc 23) (.int 0)) k_lawzcT .nil) .nil)
def k_lawz1 : MSs := (.cons (.loop (.loc 10) (.over (.loc 24)) k_lawzb) k_lawz2)
def k_lawz : MSs := (.cons (.asg 23 (.int 0)) k_lawz1)
def k_lawzaT : MSs := (.cons (.ret (.bool false)) .nil)
def k_lawzdd2 : MSs := (.cons (.asg 30 (.bin .BitXor (.call (.val (.ref 327)) (.cons (.loc 30) (.cons (.bin .Sub (.bin .Sub (.loc 4) (.int 1)) (.loc 26)) .nil))) (.loc 23))) .nil)
def k_lawzdd1 : MSs := (.cons (.expr (.meth (.loc 29) 6 (.cons (.loc 23) .nil))) k_lawzdd2)
def k_lawzdd : MSs := (.cons (.asg 23 (.bin .BitXor (.call (.val (.ref 327)) (.cons (.loc 23) (.cons (.bin .Sub (.bin .Sub (.loc 4) (.int 1)) (.loc 26)) .nil))) (.loc 10))) k_lawzdd1)
def k_lawzdeT : MSs := (.cons (.ret (.bool false)) .nil)
def k_lawzdg : MSs := (.cons (.aug 31 .BitXor (.call (.val (.ref 320)) (.cons (.sub (.loc 29) (.bin .Sub (.bin .Sub (.loc 1) (.int 1)) (.loc 7))) (.cons (.sub (.sub (.loc 20) (.loc 27)) (.loc 7)) .nil)))) .nil)
def k_lawzdhT : MSs := (.cons (.augSub (.loc 28) (.loc 26) .BitXor (.call (.val (.ref 122)) (.cons (.bin .Sub (.call (.val (.ref 115)) (.cons (.loc 31) .nil)) (.call (.val (.ref 115)) (.cons (.loc 30) .nil))) .nil))) .nil)
def k_lawzd7 : MSs := (.cons (.ite (.val (.loc 31)) k_lawzdhT .nil) .nil)
def k_lawzd6 : MSs := (.cons (.loop (.loc 7) (.rng (.loc 1)) k_lawzdg) k_lawzd7)
def k_lawzd5 : MSs := (.cons (.asg 31 (.int 0)) k_lawzd6)
def k_lawzd4 : MSs := (.cons (.ite (.cmp .Eq (.loc 30) (.int 0)) k_lawzdeT .nil) k_lawzd5)
def k_lawzd3 : MSs := (.cons (.loop (.loc 10) (.over (.slice (.loc 24) .none (.loc 1) .none)) k_lawzdd) k_lawzd4)
def k_lawzd2 : MSs := (.cons (.asg 30 (.int 0)) k_lawzd3)
def k_lawzd1 : MSs := (.cons (.asg 23 (.int 0)) k_lawzd2)
def k_lawzd : MSs := (.cons (.asg 29 (.list .nil)) k_lawzd1)
def k_law30 : MSs := (.cons (.ret (.cmp .Eq (.loc 28) (.slice (.loc 12) (.loc 27) .none (.loc 1)))) .nil)
def k_law29 : MSs := (.cons (.loop (.loc 26) (.over (.loc 25)) k_lawzd) k_law30)
def k_law28 : MSs := (.cons (.asg 28 (.slice (.loc 16) (.loc 27) .none (.loc 1))) k_law29)
def k_law27 : MSs := (.cons (.asg 27 (.call (.val (.ref 313)) (.cons (.loc 0) (.cons (.int 21) (.cons (.loc 1) .nil))))) k_law28)
def k_law26 : MSs := (.cons (.ite (.cmp .NotEq (.loc 25) (.loc 14)) k_lawzaT .nil) k_law27)
def k_law25 : MSs := (.cons (.loop (.loc 26) (.rng (.loc 4)) k_lawz) k_law26)
def k_law24 : MSs := (.cons (.asg 25 (.list .nil)) k_law25)
def k_law23 : MSs := (.cons (.expr (.meth (.loc 24) 13 .nil)) k_law24)
def k_law22 : MSs := (.cons (.asg 24 (.call (.val (.ref 339)) (.cons (.loc 20) .nil))) k_law23)
def k_law21 : MSs := (.cons (.loop (.loc 6) (.rng (.loc 1)) k_lawv) k_law22)
def k_law20 : MSs := (.cons (.asg 20 (.list .nil)) k_law21)
def k_law19 : MSs := (.cons (.loop (.loc 6) (.rng (.loc 1)) k_lawt) k_law20)
def k_law18 : MSs := (.cons (.asg 17 (.bin .Mult (.list (.cons (.int 0) .nil)) (.loc 1))) k_law19)
def k_law17 : MSs := (.cons (.asg 16 (.call (.val (.type "list")) (.cons (.loc 12) .nil))) k_law18)
def k_law16 : MSs := (.cons (.asg 15 (.call (.val (.ref 313)) (.cons (.loc 0) (.cons (.int 11) (.cons (.loc 1) .nil))))) k_law17)
def k_law15 : MSs := (.cons (.asg 14 (.call (.val (.builtin "sorted")) (.cons ek_places .nil))) k_law16)
def k_law14 : MSs := (.cons (.asg 13 (.call (.val (.type "list")) (.cons (.call (.val (.type "range")) (.cons (.loc 4) .nil)) .nil))) k_law15)
def k_law13 : MSs := (.cons (.ite (.cmp .NotEq (.loc 11) ek_blocks) k_lawnT .nil) k_law14)
def k_law12 : MSs := (.cons (.ite (.or (.cmp .NotEq (.attr (.loc 9) 1) ek_flat) (.or (.cmp .NotEq (.call (.val (.builtin "len")) (.cons (.loc 9) .nil)) (.bin .Mult (.bin .Mult (.int 8) (.loc 1)) (.loc 2))) .ff)) k_lawmT .nil) k_law13)
def k_law11 : MSs := (.cons (.ite (.cmp .NotEq (.slice (.loc 12) .none (.bin .Mult (.loc 1) (.loc 2)) .none) ek_turns) k_lawlT .nil) k_law12)
def k_law10 : MSs := (.cons (.ite (.not (.val (.call (.val (.ref 334)) (.cons (.loc 12) (.cons (.bin .Mult (.loc 1) (.loc 4)) .nil))))) k_lawkT .nil) k_law11)
def k_law9 : MSs := (.cons (.asg 12 (.call (.val (.ref 306)) (.cons (.loc 9) (.cons (.loc 11) .nil)))) k_law10)
def k_law8 : MSs := (.cons (.asg 11 ek_blocks) k_law9)
def k_law7 : MSs := (.cons (.loop (.loc 8) (.over (.loc 5)) k_lawh) k_law8)
def k_law6 : MSs := (.cons (.asg 9 (.call (.val (.ref 297)) .nil)) k_law7)
def k_law5 : MSs := (.cons (.loop (.loc 6) (.rng (.loc 1)) k_lawf) k_law6)
def k_law4 : MSs := (.cons (.asg 5 (.list .nil)) k_law5)
def k_law3 : MSs := (.cons (.asg 4 (.bin .Add (.loc 2) (.loc 3))) k_law4)
def k_law2 : MSs := (.cons (.asg 3 (.bin .Add (.loc 1) (.int 1))) k_law3)
def k_law1 : MSs := (.cons (.asg 2 (.bin .Add (.int 1) (.call (.val (.ref 313)) (.cons (.loc 0) (.cons (.int 1) (.cons (.bin .Sub (.int 7) (.bin .Mult (.int 2) (.loc 1))) .nil)))))) k_law2)
def k_law : MSs := (.cons (.asg 1 (.bin .Add (.int 2) (.call (.val (.ref 313)) (.cons (.loc 0) (.cons (.int 0) (.cons (.int 2) .nil)))))) k_law1)
structure LawF1 (X : Cx) : Prop where
  cb : CbF X
  draw : FnIs X 313 3 [some 0, some 1, some 2, none] m_draw
  times : FnIs X 320 2 [some 0, some 1] m_times
  lift : FnIs X 327 2 [some 0, some 1, none] m_lift
  octs : FnIs X 334 2 [some 0, some 1, none] m_oct
  find : FnIs X 339 1 [some 0, none, none, none, none, none, none, none, none] m_fnd
  pop : ∀ x, X.at_[12]? = some x → Slot "list" x "list.pop"
  rev : ∀ x, X.at_[13]? = some x → Slot "list" x "list.reverse"
  get : ∀ x, X.at_[14]? = some x → Slot "dict" x "dict.get"
  sub : subIn X.K (.ref 244) (.type "tuple") = some true
  eq : findIn X.K (.ref 244) (cmpInfo .Eq).2.1 = some (some (.builtin "tuple.__eq__"))
def PT1 : V → Led → Prop := fun v _ => v = .bool true
/-- the script's list, of the start heap -/
def Scr (X : Cx) (sa : Addr) (sc : List Int) : Prop := X.Ok → ∃ vs, X.hB.IsList sa vs.toArray ∧ VRs (intsV sc) vs
theorem EI_lt (i : Int) : EI i < 256 := E_lt _
theorem div_E {a u o : Nat} (ha : a < 256) (hu : u < 256) (h0 : u ≠ 0) (ho : o ≠ 0) (e : o = mul a u) : EI ((L o : Int) - (L u : Int)) = a := by
  have a0 : a ≠ 0 := fun z => ho (by rw [e, z, zero_mul])
  have hl := L_lt ha a0
  have hl2 := L_lt hu h0
  have hL : L o = (L a + L u) % 255 := by rw [e, mul_nz a0 h0, L_E]
  unfold EI
  have h1 := (fmod_range ((L o : Int) - (L u : Int)))
  have hd : ((L o : Int) - (L u : Int)).fmod 255 = ((L o : Int) - (L u : Int)) % 255 := Int.fmod_eq_emod_of_nonneg _ (by decide)
  have : (((L o : Int) - (L u : Int)).fmod 255).toNat = L a := by omega
  rw [this, E_L a0 ha]
theorem gset {a : List Nat} {s v i : Nat} (hs : s < a.length) : (a.set s v).getD i 0 = if i = s then v else a.getD i 0 := by
  rw [List.getD_eq_getElem?_getD, List.getD_eq_getElem?_getD, List.getElem?_set]
  by_cases e : s = i
  · subst e; rw [if_pos rfl, if_pos hs, if_pos rfl]; rfl
  · rw [if_neg e, if_neg fun z => e z.symm]
theorem set_oct {l : List Nat} {i v : Nat} (h : oct l) (hv : v < 256) : oct (l.set i v) := by
  intro x hx
  rcases List.mem_or_eq_of_mem_set hx with h1 | h1
  · exact h x h1
  · rw [h1]; exact hv
theorem colS {h w p : Nat} {T : Nat → Nat → Nat} (hp : p < w) (hh : 1 ≤ h) : sliceV (ns (tab h w T)) (some p) none (some w) = ns ((List.range h).map fun i => T i p) := by
  have hl := tab_length (w := w) (T := T) h
  have hin : ∀ k < h, p + w * k < (tab h w T).length := fun k hk => by
    rw [hl]
    have h1 : (k + 1) * w ≤ h * w := Nat.mul_le_mul_right w hk
    rw [Nat.succ_mul, Nat.mul_comm k w] at h1; omega
  have h0 := hin 0 (by omega)
  rw [sliceV_step (l := tab h w T) (a := p) (s := w) (cnt := h) (by omega) (by omega) ?_ hin (by omega)]
  · congr 1
    refine List.map_congr_left fun i hi => ?_
    have := tab_get (T := T) (List.mem_range.mp hi) hp
    rw [Nat.mul_comm w i, Nat.add_comm p, getD_get this]
  · rw [hl]
    have e : (((h * w : Nat) : Int) - p + w - 1) = ((h * w + (w - 1 - p) : Nat) : Int) := by omega
    rw [e]
    have : (h * w + (w - 1 - p)) / w = h := by
      rw [Nat.mul_comm, Nat.mul_add_div (by omega), Nat.div_eq_of_lt (by omega), Nat.add_zero]
    exact_mod_cast this
theorem rsnoc {α : Type} {k : Nat} {f : Nat → α} : (List.range (k + 1)).map f = (List.range k).map f ++ [f k] := by rw [List.range_succ, List.map_append]; rfl
/-- what is known of the blocks, the places and the errors -/
structure Known (c own N : Nat) (dB : Nat → List Nat) (P : List Nat) (e : Nat → Nat → Nat) : Prop where
  hN : N = own + (c + 1)
  hc : c = 2 ∨ c = 3
  shp : Shp own (c + 1)
  rows : DRows own c dB
  len : P.length = c
  lt : ∀ p ∈ P, p < N
  nd : P.Nodup
  srt : P.Pairwise (· ≤ ·)
  he : ∀ b < c, ∀ u < c, e b u < 256
  det : detN c e ≠ 0
def plc (P : List Nat) (u : Nat) : Nat := P.getD u 0
section
variable {c own N : Nat} {dB : Nat → List Nat} {P : List Nat} {e : Nat → Nat → Nat}
theorem Known.le (K : Known c own N dB P e) : 1 ≤ own ∧ own ≤ 3 ∧ 2 ≤ c ∧ c ≤ 3 ∧ N ≤ 6 ∧ N = own + (c + 1) := by
  obtain ⟨h1, h2⟩ := K.shp.e
  have h3 := K.shp
  have := K.hc
  have := K.hN
  unfold Shp at h3
  simp only [List.mem_cons, Prod.mk.injEq, List.not_mem_nil, or_false] at h1 h2 h3
  omega
theorem Known.plt (K : Known c own N dB P e) : ∀ u < c, plc P u < N := fun u hu => K.lt _ (List.mem_of_getElem? (get_getD (by rw [K.len]; exact hu)))
theorem Known.inj (K : Known c own N dB P e) : ∀ u < c, ∀ v < c, plc P u = plc P v → u = v := fun u hu v hv h => by
  have g1 := get_getD (l := P) (i := u) (by rw [K.len]; exact hu)
  have g2 := get_getD (l := P) (i := v) (by rw [K.len]; exact hv)
  obtain ⟨a1, a2⟩ := List.getElem?_eq_some_iff.mp g1
  obtain ⟨b1, b2⟩ := List.getElem?_eq_some_iff.mp g2
  have hh : P[u] = P[v] := by rw [a2, b2]; exact h
  rcases Nat.lt_trichotomy u v with h1 | h1 | h1
  · exact absurd hh ((List.pairwise_iff_getElem.mp K.nd) u v a1 b1 h1)
  · exact h1
  · exact absurd hh.symm ((List.pairwise_iff_getElem.mp K.nd) v u b1 a1 h1)
theorem Known.core (K : Known c own N dB P e) : CoreOk c N (plc P) e :=
  core_ok K.hc (by have := K.le; omega) K.plt (fun u hu v hv h => by have := K.inj u hu v (by omega) h; omega) K.he K.det
theorem Known.mem (K : Known c own N dB P e) {i : Nat} : i ∈ P ↔ ∃ u < c, i = plc P u := by
  constructor
  · intro h
    obtain ⟨u, hu⟩ := List.mem_iff_getElem?.mp h
    exact ⟨u, by have := (List.getElem?_eq_some_iff.mp hu).1; rw [K.len] at this; exact this, (getD_get hu).symm⟩
  · rintro ⟨u, hu, rfl⟩
    exact List.mem_of_getElem? (get_getD (by rw [K.len]; exact hu))
theorem Known.found (K : Known c own N dB P e) : (List.range N).filter (fun i => horn (N - 1 - i) (frL c N (plc P) e) = 0) = P :=
  found_eq (f := fun i => horn (N - 1 - i) (frL c N (plc P) e)) K.srt K.nd K.lt fun i hi => (K.core.root i hi).trans K.mem.symm
end
/-- the sums, line by line -/
def SumsAt (Γ : Led) (sm : Addr) (c N : Nat) (P : Nat → Nat) (e : Nat → Nat → Nat) : Prop :=
  ∃ as : List Addr, (sm, O.list (as.map .ref)) ∈ Γ ∧ as.length = c ∧ ∀ (j : Nat) a, as[j]? = some a → (a, O.list (ns ((List.range (c + 1)).map (sb c N P e j)))) ∈ Γ
theorem SumsAt.sub {Γ' : Led} {sm : Addr} {c N : Nat} {P : Nat → Nat} {e : Nat → Nat → Nat} (h : SumsAt Γ sm c N P e) (s : ∀ x ∈ Γ, x ∈ Γ') : SumsAt Γ' sm c N P e := by
  obtain ⟨as, h1, h2, h3⟩ := h
  exact ⟨as, s _ h1, h2, fun j a ha => s _ (h3 j a ha)⟩
theorem sb_lt {c N : Nat} {P : Nat → Nat} {e : Nat → Nat → Nat} {b r : Nat} : sb c N P e b r < 256 := xs_lt fun _ _ => mul_lt _ _
theorem partL_succ {p k : Nat} {l : List Nat} : partL p l (k + 1) = partL p l k ++ [hornK p l (k + 1)] := rsnoc
theorem horn_snoc {p v : Nat} {l : List Nat} : horn p (l ++ [v]) = xtn p (horn p l) ^^^ v := by unfold horn; rw [List.foldl_append]; rfl
theorem horn_lt {p : Nat} {l : List Nat} (h : oct l) : horn p l < 256 := by
  have := hornK_lt (root := p) h l.length
  unfold hornK at this
  rwa [List.take_of_length_le (Nat.le_refl _)] at this
theorem partL_oct {p k : Nat} {l : List Nat} (h : oct l) : oct (partL p l k) := by
  intro v hv
  obtain ⟨i, _, rfl⟩ := List.mem_map.mp hv
  exact hornK_lt h _
end Mine


open PySem PySem.W PyProof.Rows PySem.Calls PySem.SeqAt
set_option Elab.async false
set_option maxRecDepth 100000
set_option linter.unusedVariables false
set_option linter.unusedSimpArgs false
namespace Mine
variable {X : Cx} {n : Nat} {Γ : Led} {Q : V → Led → Prop}

theorem s30 (F : LawF1 X) {tl md sm fn fo : Addr} {c own N dr : Nat} {dB : Nat → List Nat} {P : List Nat} {e : Nat → Nat → Nat} {s0 s2 s3 s5 s9 s11 s13 s14 s15 s16 s17 : Option V} (K : Known c own N dB P e) (hdr : dr < c)
    (htl : (tl, O.list (ns (tab N c (Tn c dB)))) ∈ Γ) (hmd : (md, O.list (ns ((List.range N).map fun i => Tn c dB i dr))) ∈ Γ) :
    wpSs X 15 k_law30 [s0, some (.int (c : Nat)), s2, s3, some (.int (N : Nat)), s5, none, none, none, s9, none, s11, some (.ref tl), s13, s14, s15, s16, s17, none, none, some (.ref sm), none, none, none, some (.ref fn), some (.ref fo), none, some (.int (dr : Nat)), some (.ref md), none, none, none] Γ (FnPost PT1) := by
  obtain ⟨q1, q2, q3, q4, q5, q6⟩ := K.le
  have hl := tab_length (w := c) (T := Tn c dB) N
  have hb : N * c ≤ 6 * 3 := Nat.mul_le_mul q5 q4
  simp only [k_law30, wpSs, wpS, wpE]
  refine ⟨.ref md, rfl, .ref tl, rfl, .int dr, rfl, .int c, rfl, ?_⟩
  refine slW_list (lo := some (dr : Int)) (hi := none) (sp := some (c : Int)) isRef (LI.led htl) rfl rfl rfl (by simp; omega) (by rw [ns_length]; omega) fun sl => ?_
  rw [colS hdr (by omega)]
  show cmpS X _ .Eq _ _ _ _
  refine cmp_lists (.inl ⟨rfl, rfl⟩) isRef isRef (is := ((List.range N).map fun i => Tn c dB i dr).map fun a : Nat => (a : Int)) (js := ((List.range N).map fun i => Tn c dB i dr).map fun a : Nat => (a : Int)) (by rw [← ns_ints]; exact LI.led (.tail _ hmd)) (by rw [← ns_ints]; exact LI.led mem1) ?_
  refine ⟨_, .refl, ?_⟩
  show V.bool _ = V.bool true
  simp
/-- the mending -/
theorem s29 (F : LawF1 X) {tl md sm fn fo : Addr} {c own N dr : Nat} {dB : Nat → List Nat} {P : List Nat} {e : Nat → Nat → Nat} {s0 s2 s3 s5 s9 s11 s13 s14 s15 s16 s17 : Option V} (K : Known c own N dB P e) (hdr : dr < c)
    (htl : (tl, O.list (ns (tab N c (Tn c dB)))) ∈ Γ) (hfn : (fn, O.list (ns (frL c N (plc P) e))) ∈ Γ) (hfo : (fo, O.list (ns P)) ∈ Γ) (hsm : SumsAt Γ sm c N (plc P) e) :
    wpSs X 15 k_law29 [s0, some (.int (c : Nat)), s2, s3, some (.int (N : Nat)), s5, none, none, none, s9, none, s11, some (.ref tl), s13, s14, s15, s16, s17, none, none, some (.ref sm), none, none, none, some (.ref fn), some (.ref fo), none, some (.int (dr : Nat)), some (.ref md), none, none, none] ((md, O.list (ns (colL N c dB (plc P) e dr))) :: Γ) (FnPost PT1) := by
  obtain ⟨q1, q2, q3, q4, q5, q6⟩ := K.le
  have C := K.core
  have ofr := C.oc
  have lfr := C.len
  obtain ⟨as, as1, as2, as3⟩ := id hsm
  generalize hfr : frL c N (plc P) e = fr at *
  have hlP := K.len
  simp only [k_law29, wpSs, wpS, wpE, wpI]
  refine ⟨.ref fo, rfl, fo, rfl, .inl ⟨_, .tail _ hfo, ?_⟩⟩
  refine ⟨c, fun k loc Γ' => k ≤ c ∧ loc = [s0, some (.int (c : Nat)), s2, s3, some (.int (N : Nat)), s5, none, none, none, s9, none, s11, some (.ref tl), s13, s14, s15, s16, s17, none, none, some (.ref sm), none, none, none, some (.ref fn), some (.ref fo), none, some (.int (dr : Nat)), some (.ref md), none, none, none] ∧ ∃ M : List Nat, Γ' = (md, O.list (ns M)) :: Γ ∧ M.length = N ∧ oct M ∧ ∀ i < N, M.getD i 0 = Tn c dB i dr ^^^ (if i ∈ P.take k then 0 else erN c (plc P) e i dr),
    ⟨Nat.zero_le _, rfl, colL N c dB (plc P) e dr, rfl, by simp [colL], col_oct K.rows hdr (K.he dr hdr), fun i hi => by rw [if_neg (by simp)]; exact range_getD hi⟩, ?_⟩
  rintro k loc Γ' ⟨hk, rfl, M, rfl, lM, oM, hM⟩
  refine ⟨hk, _, .tail _ hfo, fun v hv => ?_, fun hge => ?_⟩
  · obtain ⟨p, hpk, rfl⟩ := ns_get' hv
    have hlt : k < c := by have := (List.getElem?_eq_some_iff.mp hpk).1; omega
    have hpe : p = plc P k := (getD_get hpk).symm
    have hpN : p < N := K.lt p (List.mem_of_getElem? hpk)
    have hnt : p ∉ P.take k := fun h => by
      obtain ⟨i, hi⟩ := List.mem_iff_getElem?.mp h
      have hil := (List.getElem?_eq_some_iff.mp hi).1
      simp only [List.length_take] at hil
      rw [List.getElem?_take_of_lt (by omega)] at hi
      have := K.inj i (by omega) k hlt (by rw [← hpe]; exact getD_get hi)
      omega
    have et : P.take (k + 1) = P.take k ++ [p] := by rw [List.take_add_one, hpk]; rfl
    have kN : ((N : Int) - 1 - (p : Int)) = ((N - 1 - p : Nat) : Int) := by omega
    have und := C.und k hlt
    have ovr := C.ovr k hlt dr hdr
    rw [← hpe, hfr] at und ovr
    simp only [tgW, k_lawzd, wpSs, wpS, wpE, wpEs]
    refine ⟨by simp, fun pa => ?_⟩
    simp only [k_lawzd1, k_lawzd2, k_lawzd3, wpSs, wpS, wpE, wpI]
    refine ⟨.ref fn, rfl, .int c, rfl, ?_⟩
    refine slW_list (lo := none) (hi := some (c : Int)) (sp := none) isRef (LI.led (.tail _ (.tail _ hfn))) rfl rfl rfl (by simp) (by rw [ns_length]; omega) fun sl => ?_
    rw [sliceV_to (by rw [ns_length]; omega), ns_take]
    refine ⟨sl, rfl, .inl ⟨_, mem1, ?_⟩⟩
    refine ⟨c, fun j loc Γ' => j ≤ c ∧ loc = [s0, some (.int (c : Nat)), s2, s3, some (.int (N : Nat)), s5, none, none, none, s9, none, s11, some (.ref tl), s13, s14, s15, s16, s17, none, none, some (.ref sm), none, none, some (.int (hornK (N - 1 - p) fr j : Nat)), some (.ref fn), some (.ref fo), some (.int (p : Nat)), some (.int (dr : Nat)), some (.ref md), some (.ref pa), some (.int (horn (N - 1 - p) (partL (N - 1 - p) fr j) : Nat)), none] ∧
      Γ' = (sl, O.list (ns (fr.take c))) :: (pa, O.list (ns (partL (N - 1 - p) fr j))) :: (md, O.list (ns M)) :: Γ, ⟨Nat.zero_le _, rfl, rfl⟩, ?_⟩
    rintro j loc Γ' ⟨hj, rfl, rfl⟩
    refine ⟨hj, _, mem1, fun v hv => ?_, fun hge => ?_⟩
    · obtain ⟨o, hoj, rfl⟩ := ns_get' hv
      have hlj : j < c := by have := (List.getElem?_eq_some_iff.mp hoj).1; simp only [List.length_take] at this; omega
      rw [List.getElem?_take_of_lt hlj] at hoj
      have eh := hornK_succ (root := N - 1 - p) hoj
      have ep : partL (N - 1 - p) fr (j + 1) = _ := partL_succ
      have lp : (partL (N - 1 - p) fr j).length = j := by simp [partL]
      simp only [tgW, k_lawzdd, wpSs, wpS, wpE, wpEs]
      refine ⟨_, rfl, .int (N : Nat), rfl, bw_sub ⟨.int p, rfl, bw_sub ?_⟩⟩
      rw [kN]
      refine lift_spec F.lift (hornK_lt ofr j) (by omega) ⟨.int o, rfl, bw_xor ?_⟩
      rw [← eh]
      simp only [k_lawzdd1, wpSs, wpS, wpE, wpEs]
      refine ⟨.ref pa, rfl, .builtin "list.append", true, methR_list (LAt.led mem2) F.cb.poly.app type_list_append, _, rfl, keeps_builtin, callW_append (.there .here) (by rw [ns_length]; omega) ⟨rfl, ?_⟩⟩
      simp only [k_lawzdd2, wpSs, wpS, wpE, wpEs]
      refine ⟨_, rfl, .int (N : Nat), rfl, bw_sub ⟨.int p, rfl, bw_sub ?_⟩⟩
      rw [kN]
      refine lift_spec F.lift (horn_lt (partL_oct ofr)) (by omega) ⟨_, rfl, bw_xor ?_⟩
      refine ⟨_, _, ?_, .cons (.there .here) .refl, hlj, rfl, ?_⟩
      · rw [ep, horn_snoc]
        exact .s (.s (.s (.s (.s (.s (.s (.s (.s (.s (.o (.s (.s (.s (.s (.s (.s (.s (.s (.s (.s (.s (.s (.s (.s (.s (.s (.s (.s (.s (.s (.s .z)))))))))))))))))))))))))))))))
      · rw [ep]; simp [ns]
    · have hje : j = c := by rw [ns_length, List.length_take] at hge; omega
      subst hje
      generalize hpt : partL (N - 1 - p) fr j = pt at *
      have opt : oct pt := by rw [← hpt]; exact partL_oct ofr
      have lpt : pt.length = j := by rw [← hpt]; simp [partL]
      have hun := horn_lt (p := N - 1 - p) opt
      have hGs : SumsAt ((sl, O.list (ns (fr.take j))) :: (pa, O.list (ns pt)) :: (md, O.list (ns M)) :: Γ) sm j N (plc P) e := hsm.sub fun x hx => .tail _ (.tail _ (.tail _ hx))
      simp only [k_lawzd4, wpSs, wpS, wpE, wpT]
      refine ⟨_, rfl, ?_⟩
      simp only [cmpW, truthW]
      refine ⟨fun h => ?_, fun _ => ?_⟩
      · simp at h; omega
      simp only [k_lawzd5, k_lawzd6, wpSs, wpS, wpE, wpI]
      refine ⟨.int (j : Nat), rfl, _, rfl, by omega, by omega, ?_⟩
      let f := fun s => mul (pt.getD (j - 1 - s) 0) (sb j N (plc P) e dr s)
      refine ⟨j, fun s loc Γ' => s ≤ j ∧ loc = [s0, some (.int (j : Nat)), s2, s3, some (.int (N : Nat)), s5, none, none, none, s9, none, s11, some (.ref tl), s13, s14, s15, s16, s17, none, none, some (.ref sm), none, none, some (.int (hornK (N - 1 - p) fr j : Nat)), some (.ref fn), some (.ref fo), some (.int (p : Nat)), some (.int (dr : Nat)), some (.ref md), some (.ref pa), some (.int (horn (N - 1 - p) pt : Nat)), some (.int (xs s f : Nat))] ∧ Γ' = (sl, O.list (ns (fr.take j))) :: (pa, O.list (ns pt)) :: (md, O.list (ns M)) :: Γ, ⟨Nat.zero_le _, rfl, rfl⟩, ?_⟩
      rintro s loc Γ' ⟨hs, rfl, rfl⟩
      refine ⟨hs, fun hlt' => ?_, fun hge => ?_⟩
      · have hlt' : s < j := by omega
        rw [Int.zero_add]
        have hg := get_getD (l := pt) (i := j - 1 - s) (by omega)
        obtain ⟨ad, had⟩ : ∃ ad, as[dr]? = some ad := ⟨_, List.getElem?_eq_getElem (by omega)⟩
        have hln := as3 dr ad had
        have hgs : ((List.range (j + 1)).map (sb j N (plc P) e dr))[s]? = some (sb j N (plc P) e dr s) := by rw [List.getElem?_map, List.getElem?_range (by omega)]; rfl
        simp only [tgW, k_lawzdg, wpSs, wpS, wpE, wpEs]
        refine ⟨_, rfl, .ref pa, rfl, .int (j : Nat), rfl, bw_sub ⟨.int s, rfl, bw_sub ?_⟩⟩
        rw [show ((j : Int) - 1 - (s : Int)) = ((j - 1 - s : Nat) : Int) by omega]
        refine subW_list isRef (LI.led mem2) (getW_list isRef (LI.led mem2) (by omega) (by omega) (x := .int (pt.getD (j - 1 - s) 0 : Nat)) (by rw [Int.toNat_natCast]; exact ns_get hg) ?_)
        refine ⟨.ref sm, rfl, .int dr, rfl, ?_⟩
        refine subW_list isRef (LI.led (.tail _ (.tail _ (.tail _ as1)))) (getW_list isRef (LI.led (.tail _ (.tail _ (.tail _ as1)))) (by omega) (by omega) (x := .ref ad) (by rw [Int.toNat_natCast, List.getElem?_map, had]; rfl) ?_)
        refine ⟨.int s, rfl, ?_⟩
        refine subW_list isRef (LI.led (.tail _ (.tail _ (.tail _ hln)))) (getW_list isRef (LI.led (.tail _ (.tail _ (.tail _ hln)))) (by omega) (by omega) (x := .int (sb j N (plc P) e dr s : Nat)) (by rw [Int.toNat_natCast]; exact ns_get hgs) ?_)
        refine times_spec F.cb.poly F.times (getD_oct opt _) sb_lt ?_
        simp only [inW, bitXor_nat]
        exact ⟨_, _, .s (.s (.s (.s (.s (.s (.s (.o (.s (.s (.s (.s (.s (.s (.s (.s (.s (.s (.s (.s (.s (.s (.s (.s (.s (.s (.s (.s (.s (.s (.s (.s .z))))))))))))))))))))))))))))))), .refl, hlt', rfl, rfl⟩
      · have hse : s = j := by omega
        subst hse
        simp only [k_lawzd7, wpSs, wpS, wpE, wpT]
        refine ⟨_, rfl, ?_⟩
        simp only [truthW]
        have eov : xs s f = mul (e dr k) (horn (N - 1 - p) pt) := ovr
        have her : erN s (plc P) e p dr = e dr k := by rw [hpe]; exact erN_at hlt K.inj
        have hpM := hM p hpN
        rw [if_neg hnt, her] at hpM
        refine ⟨fun h => ?_, fun h => ?_⟩
        · have h0 : xs s f ≠ 0 := by simpa using h
          have hg := get_getD (l := M) (i := p) (by omega)
          have hov : xs s f < 256 := by rw [eov]; exact mul_lt _ _
          simp only [k_lawzdhT, wpSs, wpS, wpE, wpEs]
          refine ⟨.ref md, rfl, .int p, rfl, ?_⟩
          refine getW_list isRef (LI.led mem3) (by omega) (by omega) (x := .int (M.getD p 0 : Nat)) (by rw [Int.toNat_natCast]; exact ns_get hg) ?_
          refine ⟨_, rfl, glog_spec F.cb.poly.glog F.cb.poly.lt (by omega) hov ⟨_, rfl, glog_spec F.cb.poly.glog F.cb.poly.lt (by omega) hun (bw_sub ?_)⟩⟩
          refine gexp_spec F.cb.poly.gexp F.cb.poly.et ?_
          rw [div_E (K.he dr hdr k hlt) hun und h0 eov]
          simp only [inW, bitXor_nat]
          refine setW_list (.there (.there .here)) (by rw [ns_length]; omega) (by rw [ns_length]; omega) ?_
          rw [ns_set]
          refine ⟨_, _, .s (.s (.s (.s (.s (.s (.s (.o (.s (.s (.s (.s (.s (.s (.s (.s (.s (.s (.s (.s (.s (.s (.s (.o (.s (.s (.o (.s (.s (.o (.o (.o .z))))))))))))))))))))))))))))))), .cons .here (.tail (.tail .refl)), hlt, rfl, _, rfl, by simpa using lM, set_oct oM (xor_lt (getD_oct oM p) (K.he dr hdr k hlt)), fun i hi => ?_⟩
          rw [gset (by omega), et]
          by_cases hip : i = p
          · subst hip
            rw [if_pos rfl, if_pos (by simp), hpM, Nat.xor_assoc, Nat.xor_self]
          · rw [if_neg hip, hM i hi]
            have : (i ∈ P.take k ++ [p]) ↔ i ∈ P.take k := by simp [hip]
            by_cases hm : i ∈ P.take k
            · rw [if_pos hm, if_pos (this.mpr hm)]
            · rw [if_neg hm, if_neg fun z => hm (this.mp z)]
        · have h0 : xs s f = 0 := by simpa using h
          have e0 : e dr k = 0 := by
            rw [eov] at h0
            rcases mul_eq0.mp h0 with z | z
            · exact z
            · exact absurd z und
          refine ⟨_, _, .s (.s (.s (.s (.s (.s (.s (.o (.s (.s (.s (.s (.s (.s (.s (.s (.s (.s (.s (.s (.s (.s (.s (.o (.s (.s (.o (.s (.s (.o (.o (.o .z))))))))))))))))))))))))))))))), .tail (.tail .refl), hlt, rfl, M, rfl, lM, oM, fun i hi => ?_⟩
          rw [hM i hi, et]
          by_cases hip : i = p
          · subst hip
            rw [if_neg hnt, if_pos (by simp), her, e0]
          · have : (i ∈ P.take k ++ [p]) ↔ i ∈ P.take k := by simp [hip]
            by_cases hm : i ∈ P.take k
            · rw [if_pos hm, if_pos (this.mpr hm)]
            · rw [if_neg hm, if_neg fun z => hm (this.mp z)]
  · have hke : k = c := by rw [ns_length] at hge; omega
    subst hke
    have eM : M = (List.range N).map fun i => Tn k dB i dr := by
      rw [← list_range lM]
      refine List.map_congr_left fun i hi => ?_
      have hi := List.mem_range.mp hi
      show M.getD i 0 = _
      rw [hM i hi, List.take_of_length_le (by omega)]
      by_cases hm : i ∈ P
      · rw [if_pos hm, Nat.xor_zero]
      · rw [if_neg hm, erN_off (fun u hu z => hm (K.mem.mpr ⟨u, hu, z⟩)), Nat.xor_zero]
    rw [eM]
    exact s30 F K hdr (.tail _ htl) mem1
end Mine


open PySem PySem.W PyProof.Rows PySem.Calls PySem.SeqAt
set_option Elab.async false
set_option maxRecDepth 100000
set_option linter.unusedVariables false
set_option linter.unusedSimpArgs false
namespace Mine
variable {X : Cx} {n : Nat} {Γ : Led} {Q : V → Led → Prop}

/-- the struck stream, and what else stands -/
structure Has (Γ : Led) (tl pl st : Addr) (c N : Nat) (dB : Nat → List Nat) (P : List Nat) (e : Nat → Nat → Nat) : Prop where
  htl : (tl, O.list (ns (tab N c (Tn c dB)))) ∈ Γ
  hpl : (pl, O.list (ns P)) ∈ Γ
  hst : (st, O.list (ns (tab N c fun i b => Tn c dB i b ^^^ erN c (plc P) e i b))) ∈ Γ
theorem Has.sub {Γ' : Led} {tl pl st : Addr} {c N : Nat} {dB : Nat → List Nat} {P : List Nat} {e : Nat → Nat → Nat} (h : Has Γ tl pl st c N dB P e) (s : ∀ x ∈ Γ, x ∈ Γ') : Has Γ' tl pl st c N dB P e :=
  ⟨s _ h.htl, s _ h.hpl, s _ h.hst⟩
/-- the drawn block -/
theorem s27 (F : LawF1 X) {sa tl pl st sm fn fo : Addr} {sc : List Int} {c own N : Nat} {dB : Nat → List Nat} {P : List Nat} {e : Nat → Nat → Nat} {s2 s5 s9 s11 s13 s15 s17 : Option V} (hs : Scr X sa sc) (hsl : sc.length ≤ 63) (K : Known c own N dB P e)
    (H : Has Γ tl pl st c N dB P e) (hfn : (fn, O.list (ns (frL c N (plc P) e))) ∈ Γ) (hfo : (fo, O.list (ns P)) ∈ Γ) (hsm : SumsAt Γ sm c N (plc P) e) :
    wpSs X 15 k_law27 [some (.ref sa), some (.int (c : Nat)), s2, some (.int (c + 1 : Nat)), some (.int (N : Nat)), s5, none, none, none, s9, none, s11, some (.ref tl), s13, some (.ref pl), s15, some (.ref st), s17, none, none, some (.ref sm), none, none, none, some (.ref fn), some (.ref fo), none, none, none, none, none, none] Γ (FnPost PT1) := by
  obtain ⟨q1, q2, q3, q4, q5, q6⟩ := K.le
  have hl := tab_length (w := c) (T := fun i b => Tn c dB i b ^^^ erN c (plc P) e i b) N
  have hb : N * c ≤ 6 * 3 := Nat.mul_le_mul q5 q4
  simp only [k_law27, wpSs, wpS, wpE, wpEs]
  refine ⟨.ref sa, rfl, .int (c : Nat), rfl, ?_⟩
  rw [show (21 : Int) = ((21 : Nat) : Int) from rfl]
  refine draw_spec F.draw (LI.base hs) hsl (by decide) (by omega) fun dr hdr => ?_
  simp only [k_law28, wpSs, wpS, wpE, wpEs]
  refine ⟨.ref st, rfl, .int dr, rfl, .int c, rfl, ?_⟩
  refine slW_list (lo := some (dr : Int)) (hi := none) (sp := some (c : Int)) isRef (LI.led H.hst) rfl rfl rfl (by simp; omega) (by rw [ns_length]; omega) fun md => ?_
  rw [colS hdr (by omega)]
  exact s29 F K hdr H.htl hfn hfo hsm
/-- what is found -/
theorem s24 (F : LawF1 X) {sa tl pl st sm fn : Addr} {sc : List Int} {c own N : Nat} {dB : Nat → List Nat} {P : List Nat} {e : Nat → Nat → Nat} {s2 s5 s9 s11 s13 s15 s17 : Option V} (hs : Scr X sa sc) (hsl : sc.length ≤ 63) (K : Known c own N dB P e)
    (H : Has Γ tl pl st c N dB P e) (hfn : (fn, O.list (ns (frL c N (plc P) e))) ∈ Γ) (hsm : SumsAt Γ sm c N (plc P) e) :
    wpSs X 15 k_law24 [some (.ref sa), some (.int (c : Nat)), s2, some (.int (c + 1 : Nat)), some (.int (N : Nat)), s5, none, none, none, s9, none, s11, some (.ref tl), s13, some (.ref pl), s15, some (.ref st), s17, none, none, some (.ref sm), none, none, none, some (.ref fn), none, none, none, none, none, none, none] Γ (FnPost PT1) := by
  obtain ⟨q1, q2, q3, q4, q5, q6⟩ := K.le
  have C := K.core
  have ofr := C.oc
  have lfr := C.len
  have hfd := K.found
  simp only [k_law24, wpSs, wpS, wpE, wpEs]
  refine ⟨by simp, fun fo => ?_⟩
  simp only [k_law25, wpSs, wpS, wpE, wpI]
  refine ⟨.int (N : Nat), rfl, _, rfl, by omega, by omega, ?_⟩
  let g := fun k => (List.range k).filter (fun i => horn (N - 1 - i) (frL c N (plc P) e) = 0)
  refine ⟨N, fun k loc Γ' => k ≤ N ∧ loc = [some (.ref sa), some (.int (c : Nat)), s2, some (.int (c + 1 : Nat)), some (.int (N : Nat)), s5, none, none, none, s9, none, s11, some (.ref tl), s13, some (.ref pl), s15, some (.ref st), s17, none, none, some (.ref sm), none, none, none, some (.ref fn), some (.ref fo), none, none, none, none, none, none] ∧ Γ' = (fo, O.list (ns (g k))) :: Γ, ⟨Nat.zero_le _, rfl, rfl⟩, ?_⟩
  rintro k loc Γ' ⟨hk, rfl, rfl⟩
  refine ⟨hk, fun hlt => ?_, fun hge => ?_⟩
  · have hlt : k < N := by omega
    rw [Int.zero_add]
    have kN : ((N : Int) - 1 - (k : Int)) = ((N - 1 - k : Nat) : Int) := by omega
    have lg : (g k).length ≤ k := Nat.le_trans (List.length_filter_le _ _) (by simp)
    simp only [tgW, k_lawz, k_lawz1, wpSs, wpS, wpE, wpI]
    refine ⟨.ref fn, rfl, fn, rfl, .inl ⟨_, .tail _ hfn, ?_⟩⟩
    refine ⟨c + 1, fun j loc Γ' => j ≤ c + 1 ∧ loc = [some (.ref sa), some (.int (c : Nat)), s2, some (.int (c + 1 : Nat)), some (.int (N : Nat)), s5, none, none, none, s9, none, s11, some (.ref tl), s13, some (.ref pl), s15, some (.ref st), s17, none, none, some (.ref sm), none, none, some (.int (hornK (N - 1 - k) (frL c N (plc P) e) j : Nat)), some (.ref fn), some (.ref fo), some (.int (k : Nat)), none, none, none, none, none] ∧ Γ' = (fo, O.list (ns (g k))) :: Γ, ⟨Nat.zero_le _, rfl, rfl⟩, ?_⟩
    rintro j loc Γ' ⟨hj, rfl, rfl⟩
    refine ⟨hj, _, .tail _ hfn, fun v hv => ?_, fun hge => ?_⟩
    · obtain ⟨o, hoj, rfl⟩ := ns_get' hv
      have hlj : j < c + 1 := by have := (List.getElem?_eq_some_iff.mp hoj).1; omega
      have eh := hornK_succ (root := N - 1 - k) hoj
      simp only [tgW, k_lawzb, wpSs, wpS, wpE, wpEs]
      refine ⟨_, rfl, .int (N : Nat), rfl, bw_sub ⟨.int k, rfl, bw_sub ?_⟩⟩
      rw [kN]
      refine lift_spec F.lift (hornK_lt ofr j) (by omega) ⟨.int o, rfl, bw_xor ?_⟩
      rw [← eh]
      exact ⟨_, _, .s (.s (.s (.s (.s (.s (.s (.s (.s (.s (.o (.s (.s (.s (.s (.s (.s (.s (.s (.s (.s (.s (.s (.s (.s (.s (.s (.s (.s (.s (.s (.s .z))))))))))))))))))))))))))))))), .refl, hlj, rfl, rfl⟩
    · have hje : j = c + 1 := by rw [ns_length] at hge; omega
      subst hje
      have eh : hornK (N - 1 - k) (frL c N (plc P) e) (c + 1) = horn (N - 1 - k) (frL c N (plc P) e) := by unfold hornK; rw [List.take_of_length_le (by omega)]
      rw [eh]
      simp only [k_lawz2, wpSs, wpS, wpE, wpT]
      refine ⟨_, rfl, ?_⟩
      simp only [cmpW, truthW]
      refine ⟨fun h => ?_, fun h => ?_⟩
      · have h0 : horn (N - 1 - k) (frL c N (plc P) e) = 0 := by simpa using h
        have eg : g (k + 1) = g k ++ [k] := by
          show (List.range (k + 1)).filter _ = _
          rw [List.range_succ, List.filter_append]
          congr 1
          simp [h0]
        simp only [k_lawzcT, wpSs, wpS, wpE, wpEs]
        refine ⟨.ref fo, rfl, .builtin "list.append", true, methR_list (LAt.led mem1) F.cb.poly.app type_list_append, .int k, rfl, keeps_builtin, callW_append .here (by rw [ns_length]; omega) ⟨rfl, ?_⟩⟩
        refine ⟨_, _, .s (.s (.s (.s (.s (.s (.s (.s (.s (.s (.s (.s (.s (.s (.s (.s (.s (.s (.s (.s (.s (.s (.s (.o (.s (.s (.o (.s (.s (.s (.s (.s .z))))))))))))))))))))))))))))))), .refl, hlt, rfl, ?_⟩
        rw [eg]; simp [ns]
      · have h0 : horn (N - 1 - k) (frL c N (plc P) e) ≠ 0 := by simpa using h
        have eg : g (k + 1) = g k := by
          show (List.range (k + 1)).filter _ = _
          rw [List.range_succ, List.filter_append]
          simp [h0, g]
        refine ⟨_, _, .s (.s (.s (.s (.s (.s (.s (.s (.s (.s (.s (.s (.s (.s (.s (.s (.s (.s (.s (.s (.s (.s (.s (.o (.s (.s (.o (.s (.s (.s (.s (.s .z))))))))))))))))))))))))))))))), .refl, hlt, rfl, ?_⟩
        rw [eg]
  · have hke : k = N := by omega
    subst hke
    have eg : g k = P := hfd
    rw [eg]
    have hlP := K.len
    simp only [k_law26, wpSs, wpS, wpE, wpT]
    refine ⟨.ref fo, rfl, .ref pl, rfl, ?_⟩
    show cmpS X _ .NotEq _ _ _ _
    refine cmp_lists (.inr ⟨rfl, rfl⟩) isRef isRef (is := P.map fun a : Nat => (a : Int)) (js := P.map fun a : Nat => (a : Int)) (by rw [← ns_ints]; exact LI.led mem1) (by rw [← ns_ints]; exact LI.led (.tail _ H.hpl)) ?_
    simp only [truthW]
    refine ⟨fun h => by simp at h, fun _ => ?_⟩
    exact s27 F hs hsl K (H.sub fun x hx => .tail _ hx) (.tail _ hfn) mem1 (hsm.sub fun x hx => .tail _ hx)
/-- the finder -/
theorem s22 (F : LawF1 X) {sa tl pl st sm : Addr} {sc : List Int} {c own N : Nat} {dB : Nat → List Nat} {P : List Nat} {e : Nat → Nat → Nat} {s2 s5 s9 s11 s13 s15 s17 : Option V} (hs : Scr X sa sc) (hsl : sc.length ≤ 63) (K : Known c own N dB P e)
    (H : Has Γ tl pl st c N dB P e) (hsm : SumsAt Γ sm c N (plc P) e) :
    wpSs X 15 k_law22 [some (.ref sa), some (.int (c : Nat)), s2, some (.int (c + 1 : Nat)), some (.int (N : Nat)), s5, none, none, none, s9, none, s11, some (.ref tl), s13, some (.ref pl), s15, some (.ref st), s17, none, none, some (.ref sm), none, none, none, none, none, none, none, none, none, none, none] Γ (FnPost PT1) := by
  obtain ⟨q1, q2, q3, q4, q5, q6⟩ := K.le
  have C := K.core
  obtain ⟨as, as1, as2, as3⟩ := id hsm
  have lfr := C.len
  have lr : (rowsS c N (plc P) e).length = c := by simp [rowsS]
  simp only [k_law22, wpSs, wpS, wpE, wpEs]
  refine ⟨.ref sm, rfl, fnd_spec F.cb.poly F.times F.get F.find (n := 12) (ads := as) (rows := rowsS c N (plc P) e) (width := c + 1) as1 (by rw [lr, as2]) (fun i a r ha hr => ?_) (fun r hr => ?_) (by omega) (by omega) (by omega) C.fin fun fn => ?_⟩
  · have hi : i < c := by have := (List.getElem?_eq_some_iff.mp ha).1; omega
    unfold rowsS at hr
    rw [List.getElem?_map, List.getElem?_range hi] at hr
    cases Option.some.inj hr
    exact as3 i a ha
  · obtain ⟨b, hb, rfl⟩ := List.mem_map.mp hr
    refine ⟨by simp, fun v hv => ?_⟩
    obtain ⟨i, _, rfl⟩ := List.mem_map.mp hv
    exact sb_lt
  simp only [k_law23, wpSs, wpS, wpE, wpEs]
  have lf : (fnd (c + 1) (rowsS c N (plc P) e)).length = c + 1 := by simp [fnd]
  refine ⟨.ref fn, rfl, .builtin "list.reverse", true, methR_list (LAt.led mem1) F.rev PySem.F.type_list_reverse, keeps_builtin, callW_reverse .here (by rw [ns_length]; omega) ⟨rfl, ?_⟩⟩
  have er : (ns (fnd (c + 1) (rowsS c N (plc P) e))).reverse = ns (frL c N (plc P) e) := by unfold ns frL; rw [List.map_reverse]
  rw [er]
  exact s24 F hs hsl K (H.sub fun x hx => .tail _ hx) mem1 (hsm.sub fun x hx => .tail _ hx)
/-- the sums -/
theorem s20 (F : LawF1 X) {sa tl pl st : Addr} {sc : List Int} {c own N : Nat} {dB : Nat → List Nat} {P : List Nat} {e : Nat → Nat → Nat} {s2 s5 s9 s11 s13 s15 s17 : Option V} (hs : Scr X sa sc) (hsl : sc.length ≤ 63) (K : Known c own N dB P e)
    (H : Has Γ tl pl st c N dB P e) :
    wpSs X 15 k_law20 [some (.ref sa), some (.int (c : Nat)), s2, some (.int (c + 1 : Nat)), some (.int (N : Nat)), s5, none, none, none, s9, none, s11, some (.ref tl), s13, some (.ref pl), s15, some (.ref st), s17, none, none, none, none, none, none, none, none, none, none, none, none, none, none] Γ (FnPost PT1) := by
  obtain ⟨q1, q2, q3, q4, q5, q6⟩ := K.le
  have hl := tab_length (w := c) (T := fun i b => Tn c dB i b ^^^ erN c (plc P) e i b) N
  have hb : N * c ≤ 6 * 3 := Nat.mul_le_mul q5 q4
  simp only [k_law20, wpSs, wpS, wpE, wpEs]
  refine ⟨by simp, fun sm => ?_⟩
  simp only [k_law21, wpSs, wpS, wpE, wpI]
  refine ⟨.int (c : Nat), rfl, _, rfl, by omega, by omega, ?_⟩
  refine ⟨c, fun k loc Γ' => k ≤ c ∧ loc = [some (.ref sa), some (.int (c : Nat)), s2, some (.int (c + 1 : Nat)), some (.int (N : Nat)), s5, none, none, none, s9, none, s11, some (.ref tl), s13, some (.ref pl), s15, some (.ref st), s17, none, none, some (.ref sm), none, none, none, none, none, none, none, none, none, none, none] ∧ ∃ (as : List Addr) (Δ : Led), Γ' = (sm, O.list (as.map .ref)) :: (Δ ++ Γ) ∧ as.length = k ∧ ∀ (j : Nat) a, as[j]? = some a → (a, O.list (ns ((List.range (c + 1)).map (sb c N (plc P) e j)))) ∈ Δ ++ Γ,
    ⟨Nat.zero_le _, rfl, [], [], rfl, rfl, fun j a h => by simp at h⟩, ?_⟩
  rintro k loc Γ' ⟨hk, rfl, as, Δ, rfl, las, has⟩
  refine ⟨hk, fun hlt => ?_, fun hge => ?_⟩
  · have hlt : k < c := by omega
    rw [Int.zero_add]
    have cs := fun r (hr : r < c + 1) => col_sum (r := r) (P := plc P) (e := e) K.shp K.rows hlt (K.he k hlt) (by rw [← q6]; exact K.plt) hr
    rw [← q6] at cs
    have ocl := col_oct (N := N) (P := plc P) (e := e) K.rows hlt (K.he k hlt)
    have lcl : (colL N c dB (plc P) e k).length = N := by simp [colL]
    simp only [tgW, k_lawv, wpSs, wpS, wpE, wpEs]
    refine ⟨by simp, fun ln => ?_⟩
    simp only [k_lawv1, wpSs, wpS, wpE, wpI]
    refine ⟨.int (c + 1 : Nat), rfl, _, rfl, by omega, by omega, ?_⟩
    refine ⟨c + 1, fun r loc Γ' => r ≤ c + 1 ∧ loc = [some (.ref sa), some (.int (c : Nat)), s2, some (.int (c + 1 : Nat)), some (.int (N : Nat)), s5, some (.int (k : Nat)), none, none, s9, none, s11, some (.ref tl), s13, some (.ref pl), s15, some (.ref st), s17, none, none, some (.ref sm), some (.ref ln), none, none, none, none, none, none, none, none, none, none] ∧ Γ' = (ln, O.list (ns ((List.range r).map (sb c N (plc P) e k)))) :: (sm, O.list (as.map .ref)) :: (Δ ++ Γ), ⟨Nat.zero_le _, rfl, rfl⟩, ?_⟩
    rintro r loc Γ' ⟨hr, rfl, rfl⟩
    refine ⟨hr, fun hlr => ?_, fun hgr => ?_⟩
    · have hlr : r < c + 1 := by omega
      rw [Int.zero_add]
      have hst2 : (st, O.list (ns (tab N c fun i b => Tn c dB i b ^^^ erN c (plc P) e i b))) ∈ (ln, O.list (ns ((List.range r).map (sb c N (plc P) e k)))) :: (sm, O.list (as.map V.ref)) :: (Δ ++ Γ) := .tail _ (.tail _ (mem_app Δ H.hst))
      simp only [tgW, k_lawvb, k_lawvb1, wpSs, wpS, wpE, wpI]
      refine ⟨.ref st, rfl, .int k, rfl, .int c, rfl, ?_⟩
      refine slW_list (lo := some (k : Int)) (hi := none) (sp := some (c : Int)) isRef (LI.led hst2) rfl rfl rfl (by simp; omega) (by rw [ns_length]; omega) fun sl => ?_
      rw [colS hlt (by omega)]
      refine ⟨sl, rfl, .inl ⟨_, mem1, ?_⟩⟩
      refine ⟨N, fun j loc Γ' => j ≤ N ∧ loc = [some (.ref sa), some (.int (c : Nat)), s2, some (.int (c + 1 : Nat)), some (.int (N : Nat)), s5, some (.int (k : Nat)), none, none, s9, none, s11, some (.ref tl), s13, some (.ref pl), s15, some (.ref st), s17, none, none, some (.ref sm), some (.ref ln), some (.int (r : Nat)), some (.int (hornK r (colL N c dB (plc P) e k) j : Nat)), none, none, none, none, none, none, none, none] ∧ Γ' = (sl, O.list (ns (colL N c dB (plc P) e k))) :: (ln, O.list (ns ((List.range r).map (sb c N (plc P) e k)))) :: (sm, O.list (as.map .ref)) :: (Δ ++ Γ), ⟨Nat.zero_le _, rfl, rfl⟩, ?_⟩
      rintro j loc Γ' ⟨hj, rfl, rfl⟩
      refine ⟨hj, _, mem1, fun v hv => ?_, fun hge => ?_⟩
      · obtain ⟨o, hoj, rfl⟩ := ns_get' hv
        have hlj : j < N := by have := (List.getElem?_eq_some_iff.mp hoj).1; omega
        have eh := hornK_succ (root := r) hoj
        simp only [tgW, k_lawvbb, wpSs, wpS, wpE, wpEs]
        refine ⟨_, rfl, .int (r : Nat), rfl, ?_⟩
        refine lift_spec F.lift (hornK_lt ocl j) (by omega) ⟨.int o, rfl, bw_xor ?_⟩
        rw [← eh]
        exact ⟨_, _, .s (.s (.s (.s (.s (.s (.s (.s (.s (.s (.o (.s (.s (.s (.s (.s (.s (.s (.s (.s (.s (.s (.s (.s (.s (.s (.s (.s (.s (.s (.s (.s .z))))))))))))))))))))))))))))))), .refl, hlj, rfl, rfl⟩
      · have hje : j = N := by rw [ns_length] at hge; omega
        have eh : hornK r (colL N c dB (plc P) e k) j = sb c N (plc P) e k r := by
          unfold hornK
          rw [List.take_of_length_le (by omega)]
          exact cs r hlr
        rw [eh]
        simp only [k_lawvb2, wpSs, wpS, wpE, wpEs]
        refine ⟨.ref ln, rfl, .builtin "list.append", true, methR_list (LAt.led mem2) F.cb.poly.app type_list_append, _, rfl, keeps_builtin, callW_append (.there .here) (by rw [ns_length]; simp; omega) ⟨rfl, ?_⟩⟩
        refine ⟨_, _, .s (.s (.s (.s (.s (.s (.s (.s (.s (.s (.s (.s (.s (.s (.s (.s (.s (.s (.s (.s (.s (.s (.o (.o (.s (.s (.s (.s (.s (.s (.s (.s .z))))))))))))))))))))))))))))))), .cons .here (.tail .refl), hlr, rfl, ?_⟩
        rw [rsnoc]; simp [ns]
    · have hre : r = c + 1 := by omega
      subst hre
      simp only [k_lawv2, wpSs, wpS, wpE, wpEs]
      refine ⟨.ref sm, rfl, .builtin "list.append", true, methR_list (LAt.led mem2) F.cb.poly.app type_list_append, .ref ln, rfl, keeps_builtin, callW_append (.there .here) (by simp; omega) ⟨rfl, ?_⟩⟩
      refine ⟨_, _, .s (.s (.s (.s (.s (.s (.o (.s (.s (.s (.s (.s (.s (.s (.s (.s (.s (.s (.s (.s (.s (.o (.s (.s (.s (.s (.s (.s (.s (.s (.s (.s .z))))))))))))))))))))))))))))))), .refl, hlt, rfl, as ++ [ln], (ln, O.list (ns ((List.range (c + 1)).map (sb c N (plc P) e k)))) :: Δ, ?_, by simp [las], fun j a hj => ?_⟩
      · simp
      · by_cases h : j < as.length
        · rw [List.getElem?_append_left h] at hj
          exact .tail _ (has j a hj)
        · rw [List.getElem?_append_right (by omega)] at hj
          have hj0 : j - as.length = 0 := by
            cases hz : j - as.length with
            | zero => rfl
            | succ z => rw [hz] at hj; simp at hj
          rw [hj0] at hj
          cases Option.some.inj hj
          have : j = k := by omega
          subst this
          exact mem1
  · have hke : k = c := by omega
    subst hke
    exact s22 F hs hsl K (H.sub fun x hx => .tail _ (mem_app Δ hx)) ⟨as, mem1, las, fun j a ha => .tail _ (has j a ha)⟩
end Mine


open PySem PySem.W PyProof.Rows PySem.Calls PySem.SeqAt
set_option Elab.async false
set_option maxRecDepth 100000
set_option linter.unusedVariables false
set_option linter.unusedSimpArgs false
namespace Mine
variable {X : Cx} {n : Nat} {Γ : Led} {Q : V → Led → Prop}

theorem Pick.rest {e x : Addr × O} {Γ Γ₁ : Led} (h : Pick Γ e Γ₁) (hx : x ∈ Γ₁) : x ∈ Γ := by
  induction h with
  | here => exact .tail _ hx
  | there _ ih =>
    rcases List.mem_cons.mp hx with rfl | hx
    · exact .head _
    · exact .tail _ (ih hx)
/-- what is known before the errors are drawn -/
structure Pre (c own N : Nat) (dB : Nat → List Nat) (P : List Nat) : Prop where
  hN : N = own + (c + 1)
  hc : c = 2 ∨ c = 3
  shp : Shp own (c + 1)
  rows : DRows own c dB
  len : P.length = c
  lt : ∀ p ∈ P, p < N
  nd : P.Nodup
  srt : P.Pairwise (· ≤ ·)
theorem shp_le {c own N : Nat} (h3 : Shp own (c + 1)) (hN : N = own + (c + 1)) : 1 ≤ own ∧ own ≤ 3 ∧ 2 ≤ c ∧ c ≤ 3 ∧ N ≤ 6 ∧ N = own + (c + 1) := by
  obtain ⟨h1, h2⟩ := h3.e
  unfold Shp at h3
  simp only [List.mem_cons, Prod.mk.injEq, List.not_mem_nil, or_false] at h1 h2 h3
  omega
theorem modc {c b s o : Nat} (hc : c = 2 ∨ c = 3) (hb : b < c) (hs : s < c) (ho : o < c) : b = (o + s) % c ↔ (b + c - s) % c = o := by
  rcases hc with rfl | rfl <;> omega
theorem modlt {c b : Nat} (hc : c = 2 ∨ c = 3) : b % c < c := Nat.mod_lt _ (by omega)
theorem idx {c i p b b' : Nat} (hc : c = 2 ∨ c = 3) (hb : b < c) (hb' : b' < c) : i * c + b = p * c + b' ↔ i = p ∧ b = b' := by
  rcases hc with rfl | rfl <;> omega
theorem idx_lt {c N i b : Nat} (hc : c = 2 ∨ c = 3) (hb : b < c) (hi : i < N) : i * c + b < N * c := by
  rcases hc with rfl | rfl <;> omega
theorem tab_of {N c : Nat} {T : Nat → Nat → Nat} {Y : List Nat} (hc : c = 2 ∨ c = 3) (hl : Y.length = N * c) (h : ∀ i < N, ∀ b < c, Y.getD (i * c + b) 0 = T i b) : Y = tab N c T := by
  have lt := tab_length (w := c) (T := T) N
  refine List.ext_getElem? fun j => ?_
  by_cases hj : j < N * c
  · obtain ⟨i, b, hi, hb, rfl⟩ : ∃ i b, i < N ∧ b < c ∧ j = i * c + b := by
      refine ⟨j / c, j % c, ?_, modlt hc, ?_⟩
      · rcases hc with rfl | rfl <;> omega
      · rcases hc with rfl | rfl <;> omega
    rw [tab_get hi hb, get_getD (by omega), h i hi b hb]
  · rw [List.getElem?_eq_none (by omega), List.getElem?_eq_none (by omega)]
theorem rep_getD {k i : Nat} : (List.replicate k 0).getD i 0 = 0 := by
  rw [List.getD_eq_getElem?_getD, List.getElem?_replicate]
  split <;> rfl
/-- the octets of a place are struck -/
theorem t4 (F : LawF1 X) {sa tl pl st ea bf : Addr} {c own N s u p : Nat} {P Vl Y : List Nat} {s2 s5 s9 s11 s13 : Option V} {Γ₁ : Led} {Qs : Fl → Loc → Led → Prop} (hc : c = 2 ∨ c = 3) (hN : N ≤ 6) (hs : s < c) (hu : u < c) (hpN : p < N) (hP : P[u]? = some p)
    (hp : Pick Γ (st, O.list (ns Y)) Γ₁) (hpl : (pl, O.list (ns P)) ∈ Γ₁) (hea : (ea, O.list (ns Vl)) ∈ Γ₁) (lY : Y.length = N * c) (oY : oct Y) (lV : Vl.length = c) (oV : oct Vl)
    (q : ∀ Γ2 Y', Pick Γ2 (st, O.list (ns Y')) Γ₁ → Y'.length = N * c → oct Y' → (∀ i < N, ∀ b < c, Y'.getD (i * c + b) 0 = Y.getD (i * c + b) 0 ^^^ (if i = p then Vl.getD ((b + c - s) % c) 0 else 0)) → Qs .next [some (.ref sa), some (.int (c : Nat)), s2, some (.int (c + 1 : Nat)), some (.int (N : Nat)), s5, some (.int (u : Nat)), none, none, s9, none, s11, some (.ref tl), s13, some (.ref pl), some (.int (s : Nat)), some (.ref st), some (.ref ea), some (.ref ea), none, none, none, none, none, none, none, none, none, none, none, none, none] Γ2) :
    wpSs X 15 k_lawt4 [some (.ref sa), some (.int (c : Nat)), s2, some (.int (c + 1 : Nat)), some (.int (N : Nat)), s5, some (.int (u : Nat)), none, none, s9, none, s11, some (.ref tl), s13, some (.ref pl), some (.int (s : Nat)), some (.ref st), some (.ref bf), some (.ref ea), none, none, none, none, none, none, none, none, none, none, none, none, none] Γ Qs := by
  have hb : N * c ≤ 6 * 3 := Nat.mul_le_mul hN (by omega)
  simp only [k_lawt4, k_lawt5, wpSs, wpS, wpE, wpI]
  refine ⟨.ref ea, rfl, .int (c : Nat), rfl, _, rfl, by omega, by omega, ?_⟩
  refine ⟨c, fun o loc Γ' => o ≤ c ∧ loc = [some (.ref sa), some (.int (c : Nat)), s2, some (.int (c + 1 : Nat)), some (.int (N : Nat)), s5, some (.int (u : Nat)), none, none, s9, none, s11, some (.ref tl), s13, some (.ref pl), some (.int (s : Nat)), some (.ref st), some (.ref ea), some (.ref ea), none, none, none, none, none, none, none, none, none, none, none, none, none] ∧ ∃ Y' : List Nat, Pick Γ' (st, O.list (ns Y')) Γ₁ ∧ Y'.length = N * c ∧ oct Y' ∧ ∀ i < N, ∀ b < c, Y'.getD (i * c + b) 0 = Y.getD (i * c + b) 0 ^^^ (if i = p ∧ (b + c - s) % c < o then Vl.getD ((b + c - s) % c) 0 else 0),
    ⟨Nat.zero_le _, rfl, Y, hp, lY, oY, fun i hi b hb => by rw [if_neg (by omega), Nat.xor_zero]⟩, ?_⟩
  rintro o loc Γ' ⟨ho, rfl, Y', hp', lY', oY', hY'⟩
  refine ⟨ho, fun hlt => ?_, fun hge => ?_⟩
  · have hlt : o < c := by omega
    rw [Int.zero_add]
    have hm := modlt (b := o + s) hc
    have hix := idx_lt hc hm hpN
    have hg := get_getD (l := Y') (i := p * c + (o + s) % c) (by omega)
    have hgV := get_getD (l := Vl) (i := o) (by omega)
    have bpc : p * c ≤ 6 * 3 := Nat.mul_le_mul (by omega) (by omega)
    simp only [tgW, k_lawtf, wpSs, wpS, wpE, wpEs]
    refine ⟨.ref st, rfl, .ref pl, rfl, .int u, rfl, ?_⟩
    refine subW_list isRef (LI.led (hp'.rest hpl)) (getW_list isRef (LI.led (hp'.rest hpl)) (by omega) (by omega) (x := .int (p : Nat)) (by rw [Int.toNat_natCast]; exact ns_get hP) ?_)
    refine ⟨.int (c : Nat), rfl, bw_mul ⟨by omega, by omega⟩ ⟨.int (o : Nat), rfl, .int (s : Nat), rfl, bw_add ⟨.int (c : Nat), rfl, ?_⟩⟩⟩
    rw [show ((o : Int) + (s : Int)) = ((o + s : Nat) : Int) by push_cast; rfl]
    refine bw_mod (by omega) (bw_add ?_)
    rw [show (((p : Int) * (c : Int)) + (((o + s) % c : Nat) : Int)) = ((p * c + (o + s) % c : Nat) : Int) by push_cast; rfl]
    refine getW_list isRef (LI.led hp'.mem) (by omega) (by omega) (x := .int (Y'.getD (p * c + (o + s) % c) 0 : Nat)) (by rw [Int.toNat_natCast]; exact ns_get hg) ?_
    refine ⟨.ref ea, rfl, .int (o : Nat), rfl, ?_⟩
    refine subW_list isRef (LI.led (hp'.rest hea)) (getW_list isRef (LI.led (hp'.rest hea)) (by omega) (by omega) (x := .int (Vl.getD o 0 : Nat)) (by rw [Int.toNat_natCast]; exact ns_get hgV) ?_)
    simp only [inW, bitXor_nat]
    refine setW_list hp' (by rw [ns_length]; omega) (by rw [ns_length]; omega) ?_
    rw [ns_set]
    refine ⟨_, _, .s (.s (.s (.s (.s (.s (.s (.s (.s (.s (.s (.s (.s (.s (.s (.s (.s (.s (.s (.o (.s (.s (.s (.s (.s (.s (.s (.s (.s (.s (.s (.s .z))))))))))))))))))))))))))))))), .refl, hlt, rfl, _, .here, by simpa using lY', set_oct oY' (xor_lt (getD_oct oY' _) (getD_oct oV _)), fun i hi b hb => ?_⟩
    rw [gset (by omega)]
    have e1 := idx (i := i) (p := p) hc hb hm
    have e2 := modc hc hb hs hlt
    by_cases h : i * c + b = p * c + (o + s) % c
    · obtain ⟨rfl, h2⟩ := e1.mp h
      have h3 := e2.mp h2
      rw [if_pos h, ← h, hY' i hi b hb, if_neg (by omega), Nat.xor_zero, if_pos (by omega), h3]
    · rw [if_neg h, hY' i hi b hb]
      congr 1
      have : (i = p ∧ (b + c - s) % c < o) ↔ (i = p ∧ (b + c - s) % c < o + 1) := by
        constructor
        · rintro ⟨h1, h2⟩; exact ⟨h1, by omega⟩
        · rintro ⟨h1, h2⟩
          refine ⟨h1, ?_⟩
          by_cases hq : (b + c - s) % c = o
          · exact absurd (e1.mpr ⟨h1, e2.mpr hq⟩) h
          · omega
      by_cases hh : i = p ∧ (b + c - s) % c < o
      · rw [if_pos hh, if_pos (this.mp hh)]
      · rw [if_neg hh, if_neg fun z => hh (this.mpr z)]
  · have hoe : o = c := by omega
    subst hoe
    refine q _ Y' hp' lY' oY' fun i hi b hb => ?_
    rw [hY' i hi b hb]
    have := modlt (b := b + o - s) hc
    by_cases hh : i = p
    · rw [if_pos ⟨hh, this⟩, if_pos hh]
    · rw [if_neg (fun z => hh z.1), if_neg hh]
/-- a row of errors and the row before -/
theorem xor_comp {ea ba : Addr} {Vl B : List Nat} {w : Nat} {loc : Loc} (hr : (ea, O.list (ns Vl)) ∈ Γ) (hoo : (ba, O.list (ns B)) ∈ Γ) (lr : Vl.length = w) (lo : B.length = w) (hw : w ≤ 100)
    (h18 : loc[18]? = some (some (.ref ea))) (h17 : loc[17]? = some (some (.ref ba))) (q : ∀ r, Q (.ref r) ((r, O.list (ns ((List.range w).map fun o => Vl.getD o 0 ^^^ B.getD o 0))) :: Γ)) :
    wpE X (n + 1) ek_xor loc Γ Q := by
  simp only [ek_xor, wpE, wpI]
  refine ⟨_, h18, _, h17, n, ea, ba, _, _, rfl, iterL_list isRef (LI.led hr), iterL_list isRef (LI.led hoo), hr, hoo, fun acc => ?_⟩
  refine ⟨w, fun k ys Γ' => k ≤ w ∧ ys = ns ((List.range k).map fun o => Vl.getD o 0 ^^^ B.getD o 0) ∧ Γ' = Γ, ⟨Nat.zero_le _, rfl, rfl⟩, ?_⟩
  rintro k ys Γ' ⟨hk, rfl, rfl⟩
  have cap : capOf loc [none, none, none] = [none, none, none] := by unfold capOf; simp
  rw [cap]
  refine ⟨hk, by rw [ns_length]; simp; omega, _, _, hr, hoo, fun x y hx hy => ?_, fun hge => ?_⟩
  · obtain ⟨a, ha, rfl⟩ := ns_get' hx
    obtain ⟨b, hb, rfl⟩ := ns_get' hy
    have hlt : k < Vl.length := (List.getElem?_eq_some_iff.mp ha).1
    simp only [tgW, wpT, wpE, wpEs]
    refine ⟨fun h => by simp at h, fun _ => ⟨.int a, rfl, .int b, rfl, bw_xor ?_⟩⟩
    refine ⟨_, .refl, by omega, ?_, rfl⟩
    rw [rsnoc, getD_get ha, getD_get hb]
    simp [ns]
  · have hke : k = w := by rw [ns_length, ns_length] at hge; omega
    subst hke
    exact q acc
theorem Known.of {c own N s : Nat} {dB : Nat → List Nat} {P : List Nat} {R : Nat → Nat → Nat} (K : Pre c own N dB P) (hs : s < c) (h : ∀ u < c, RowOk c R u) : Known c own N dB P (fun b u => R u ((b + c - s) % c)) :=
  ⟨K.hN, K.hc, K.shp, K.rows, K.len, K.lt, K.nd, K.srt, fun b hb u hu => by
    obtain ⟨U, k, _, h2, _, _, h5⟩ := h u hu
    have hm := modlt (b := b + c - s) K.hc
    show R u ((b + c - s) % c) < 256
    rw [h5 _ hm]
    exact xor_lt (h2 _ hm) (mul_lt _ _), det_ne K.hc hs h⟩
theorem RowOk.congr {c u : Nat} {R R' : Nat → Nat → Nat} (h : RowOk c R u) (e : ∀ v ≤ u, ∀ o, R' v o = R v o) : RowOk c R' u := by
  obtain ⟨U, k, h1, h2, h3, h4, h5⟩ := h
  refine ⟨U, k, h1, h2, h3, h4, fun o ho => ?_⟩
  rw [e u (Nat.le_refl _), h5 o ho]
  by_cases hu : u = 0
  · rw [if_pos hu, if_pos hu]
  · rw [if_neg hu, if_neg hu, e (u - 1) (by omega)]
end Mine


open PySem PySem.W PyProof.Rows PySem.Calls PySem.SeqAt
set_option Elab.async false
set_option maxRecDepth 100000
set_option linter.unusedVariables false
set_option linter.unusedSimpArgs false
namespace Mine
variable {X : Cx} {n : Nat} {Γ : Led} {Q : V → Led → Prop}

/-- the errors of the first places -/
def ErrG (Γ : Led) (st : Addr) (c N s : Nat) (dB : Nat → List Nat) (P : List Nat) (u : Nat) (bf : Addr) (Γ' : Led) : Prop :=
  ∃ (R : Nat → Nat → Nat) (Y B : List Nat) (Γ₁ : Led), Pick Γ' (st, O.list (ns Y)) Γ₁ ∧ (bf, O.list (ns B)) ∈ Γ₁ ∧ (∀ x ∈ Γ, x ∈ Γ₁) ∧ B.length = c ∧ oct B ∧ (∀ o < c, B.getD o 0 = if u = 0 then 0 else R (u - 1) o) ∧ (∀ v < u, RowOk c R v) ∧
    Y.length = N * c ∧ oct Y ∧ ∀ i < N, ∀ b < c, Y.getD (i * c + b) 0 = Tn c dB i b ^^^ xs u fun v => if i = plc P v then R v ((b + c - s) % c) else 0
theorem err_step {st ea : Addr} {c N s u p k : Nat} {dB : Nat → List Nat} {P : List Nat} {R : Nat → Nat → Nat} {Y Y' B W Vl : List Nat} {Γ2 Γ3 : Led} (hc : c = 2 ∨ c = 3) (hu : u < c) (hP : P[u]? = some p)
    (hB : ∀ o < c, B.getD o 0 = if u = 0 then 0 else R (u - 1) o) (hR : ∀ v < u, RowOk c R v) (hY : ∀ i < N, ∀ b < c, Y.getD (i * c + b) 0 = Tn c dB i b ^^^ xs u fun v => if i = plc P v then R v ((b + c - s) % c) else 0)
    (oW : oct W) (w0 : ∀ o < u, W.getD o 0 = 0) (w1 : W.getD u 0 ≠ 0) (lV : Vl.length = c) (oV : oct Vl) (hk : k < 256) (hV : ∀ o < c, Vl.getD o 0 = W.getD o 0 ^^^ mul k (B.getD o 0))
    (hp : Pick Γ2 (st, O.list (ns Y')) Γ3) (hea : (ea, O.list (ns Vl)) ∈ Γ3) (hsub : ∀ x ∈ Γ, x ∈ Γ3) (lY : Y'.length = N * c) (oY : oct Y')
    (hY' : ∀ i < N, ∀ b < c, Y'.getD (i * c + b) 0 = Y.getD (i * c + b) 0 ^^^ (if i = p then Vl.getD ((b + c - s) % c) 0 else 0)) : ErrG Γ st c N s dB P (u + 1) ea Γ2 := by
  have hpe : plc P u = p := getD_get hP
  refine ⟨fun v o => if v = u then Vl.getD o 0 else R v o, Y', Vl, Γ3, hp, hea, hsub, lV, oV, fun o ho => ?_, fun v hv => ?_, lY, oY, fun i hi b hb => ?_⟩
  · rw [if_neg (by omega), Nat.add_sub_cancel]
    exact (if_pos rfl).symm
  · by_cases h : v = u
    · subst h
      refine ⟨fun o => W.getD o 0, k, hk, fun o ho => getD_oct oW o, w0, w1, fun o ho => ?_⟩
      show (if v = v then Vl.getD o 0 else R v o) = W.getD o 0 ^^^ mul k (if v = 0 then 0 else if v - 1 = v then Vl.getD o 0 else R (v - 1) o)
      rw [if_pos rfl, hV o ho, hB o ho]
      by_cases h0 : v = 0
      · rw [if_pos h0, if_pos h0]
      · rw [if_neg h0, if_neg h0, if_neg (by omega)]
    · exact (hR v (by omega)).congr fun w hw o => if_neg (by omega)
  · rw [hY' i hi b hb, hY i hi b hb, xs, Nat.xor_assoc]
    congr 1
    rw [hpe]
    congr 1
    · refine xs_congr fun v hv => ?_
      show _ = if i = plc P v then (if v = u then Vl.getD ((b + c - s) % c) 0 else R v ((b + c - s) % c)) else 0
      rw [if_neg (by omega : ¬ v = u)]
    · show _ = if i = p then (if u = u then Vl.getD ((b + c - s) % c) 0 else R u ((b + c - s) % c)) else 0
      rw [if_pos (rfl : u = u)]
/-- the errors -/
theorem s19 (F : LawF1 X) {sa tl pl st bf : Addr} {sc : List Int} {c own N s : Nat} {dB : Nat → List Nat} {P : List Nat} {s2 s5 s9 s11 s13 : Option V} (hs : Scr X sa sc) (hsl : sc.length ≤ 63) (K : Pre c own N dB P) (hsh : s < c)
    {G0 : Led} (hst : Pick G0 (st, O.list (ns (tab N c (Tn c dB)))) Γ) (hbf : (bf, O.list (ns (List.replicate c 0))) ∈ Γ) (htl : (tl, O.list (ns (tab N c (Tn c dB)))) ∈ Γ) (hpl : (pl, O.list (ns P)) ∈ Γ) :
    wpSs X 15 k_law19 [some (.ref sa), some (.int (c : Nat)), s2, some (.int (c + 1 : Nat)), some (.int (N : Nat)), s5, none, none, none, s9, none, s11, some (.ref tl), s13, some (.ref pl), some (.int (s : Nat)), some (.ref st), some (.ref bf), none, none, none, none, none, none, none, none, none, none, none, none, none, none] G0 (FnPost PT1) := by
  obtain ⟨q1, q2, q3, q4, q5, q6⟩ := shp_le K.shp K.hN
  have hc := K.hc
  have lT := tab_length (w := c) (T := Tn c dB) N
  have oT : oct (tab N c (Tn c dB)) := tab_oct fun i hi b hb => Tn_lt K.rows hb
  simp only [k_law19, wpSs, wpS, wpE, wpI]
  refine ⟨.int (c : Nat), rfl, _, rfl, by omega, by omega, ?_⟩
  refine ⟨c, fun u loc Γ' => u ≤ c ∧ ∃ bf, loc = [some (.ref sa), some (.int (c : Nat)), s2, some (.int (c + 1 : Nat)), some (.int (N : Nat)), s5, none, none, none, s9, none, s11, some (.ref tl), s13, some (.ref pl), some (.int (s : Nat)), some (.ref st), some (.ref bf), none, none, none, none, none, none, none, none, none, none, none, none, none, none] ∧ ErrG Γ st c N s dB P u bf Γ',
    ⟨Nat.zero_le _, bf, rfl, fun _ _ => 0, _, List.replicate c 0, Γ, hst, hbf, fun x hx => hx, by simp, rep_oct, fun o ho => by rw [if_pos rfl, rep_getD], fun v hv => by omega, lT, oT, fun i hi b hb => by rw [getD_get (tab_get hi hb)]; exact (Nat.xor_zero _).symm⟩, ?_⟩
  rintro u loc Γo ⟨hu, bf', rfl, R, Y, B, Γ₁, hp, hbf, hsub, lB, oB, hB, hR, lY, oY, hY⟩
  refine ⟨hu, fun hlt => ?_, fun hge => ?_⟩
  · have hlt : u < c := by omega
    rw [Int.zero_add]
    obtain ⟨p, hP⟩ : ∃ p, P[u]? = some p := ⟨_, List.getElem?_eq_getElem (by rw [K.len]; exact hlt)⟩
    have hpN := K.lt p (List.mem_of_getElem? hP)
    simp only [tgW, k_lawt, wpSs, wpS, wpE, wpEs]
    refine ⟨by simp, fun z0 => ⟨.int (c : Nat), rfl, ?_⟩⟩
    simp only [binW]
    refine binS_rep isRef (LAt.led mem1) (by omega) (by omega) fun er => ?_
    rw [Int.toNat_natCast, show V.int 0 = V.int ((0 : Nat) : Int) from rfl, ns_rep]
    simp only [k_lawt1, wpSs, wpS, wpE, wpEs]
    refine ⟨.ref sa, rfl, .int (u : Nat), rfl, bw_add ?_⟩
    rw [show ((12 : Int) + (u : Int)) = ((12 + u : Nat) : Int) by push_cast; rfl, show (255 : Int) = ((255 : Nat) : Int) from rfl]
    refine draw_spec F.draw (LI.base hs) hsl (by omega) (by decide) fun r hr => bw_add ?_
    rw [show ((1 : Int) + (r : Int)) = ((1 + r : Nat) : Int) by push_cast; rfl]
    refine ⟨.ref er, rfl, .int (u : Nat), rfl, setW_list .here (by rw [ns_length]; simp; omega) (by rw [ns_length]; simp; omega) ?_⟩
    rw [ns_set]
    simp only [k_lawt2, wpSs, wpS, wpE, wpI]
    refine ⟨.int (u : Nat), rfl, bw_add ⟨.int (c : Nat), rfl, _, _, rfl, rfl, by omega, by omega, by omega, by omega, ?_⟩⟩
    refine ⟨c, fun k loc Γ' => k ≤ c ∧ loc = [some (.ref sa), some (.int (c : Nat)), s2, some (.int (c + 1 : Nat)), some (.int (N : Nat)), s5, some (.int (u : Nat)), none, none, s9, none, s11, some (.ref tl), s13, some (.ref pl), some (.int (s : Nat)), some (.ref st), some (.ref bf'), some (.ref er), none, none, none, none, none, none, none, none, none, none, none, none, none] ∧ ∃ W : List Nat, Γ' = (er, O.list (ns W)) :: (z0, O.list (ns [0])) :: Γo ∧ W.length = c ∧ oct W ∧ (∀ o < u, W.getD o 0 = 0) ∧ W.getD u 0 ≠ 0,
      ⟨Nat.zero_le _, rfl, (List.replicate c 0).set u (1 + r), rfl, by simp, set_oct rep_oct (by omega), fun o ho => by rw [gset (by simp; omega), if_neg (by omega), rep_getD], by rw [gset (by simp; omega), if_pos rfl]; omega⟩, ?_⟩
    rintro k loc Γ'' ⟨hk, rfl, W, rfl, lW, oW, w0, w1⟩
    refine ⟨hk, fun hlk => ?_, fun hgk => ?_⟩
    · have e1 : ((u : Int) + 1 + (k : Int)) = ((u + 1 + k : Nat) : Int) := by push_cast; rfl
      rw [e1] at hlk ⊢
      have hlk' : u + 1 + k < c := by omega
      simp only [tgW, k_lawtc, wpSs, wpS, wpE, wpEs]
      refine ⟨.ref sa, rfl, .int (u : Nat), rfl, bw_add ⟨.int (u + 1 + k : Nat), rfl, bw_add ?_⟩⟩
      rw [show ((14 : Int) + (u : Int) + ((u + 1 + k : Nat) : Int)) = ((14 + u + (u + 1 + k) : Nat) : Int) by push_cast; rfl, show (256 : Int) = ((256 : Nat) : Int) from rfl]
      refine draw_spec F.draw (LI.base hs) hsl (by omega) (by decide) fun v hv => ?_
      refine ⟨.ref er, rfl, .int (u + 1 + k : Nat), rfl, setW_list .here (by rw [ns_length]; omega) (by rw [ns_length]; omega) ?_⟩
      rw [ns_set]
      refine ⟨_, _, .s (.s (.s (.s (.s (.s (.s (.s (.s (.s (.s (.s (.s (.s (.s (.s (.s (.s (.s (.o (.s (.s (.s (.s (.s (.s (.s (.s (.s (.s (.s (.s .z))))))))))))))))))))))))))))))), .refl, by omega, rfl, W.set (u + 1 + k) v, rfl, by simpa using lW, set_oct oW hv, fun o ho => ?_, ?_⟩
      · rw [gset (by omega), if_neg (by omega)]; exact w0 o ho
      · rw [gset (by omega), if_neg (by omega)]; exact w1
    · simp only [k_lawt3, wpSs, wpS, wpE, wpEs, wpT]
      refine ⟨.ref sa, rfl, .int (u : Nat), rfl, bw_add ?_⟩
      rw [show ((18 : Int) + (u : Int)) = ((18 + u : Nat) : Int) by push_cast; rfl, show (2 : Int) = ((2 : Nat) : Int) from rfl]
      refine draw_spec F.draw (LI.base hs) hsl (by omega) (by decide) fun t ht => ?_
      simp only [truthW]
      have hp2 := Pick.there (x := (er, O.list (ns W))) (Pick.there (x := (z0, O.list (ns [0]))) hp)
      refine ⟨fun _ => ?_, fun _ => ?_⟩
      · simp only [k_lawtdT, wpSs, wpS]
        refine xor_comp (n := 14) (w := c) mem1 (.tail _ (.tail _ (hp.rest hbf))) lW lB (by omega) rfl rfl fun ea => ?_
        have lV : ((List.range c).map fun o => W.getD o 0 ^^^ B.getD o 0).length = c := by simp
        have oV : oct ((List.range c).map fun o => W.getD o 0 ^^^ B.getD o 0) := by
          intro v hv
          obtain ⟨o, _, rfl⟩ := List.mem_map.mp hv
          exact xor_lt (getD_oct oW o) (getD_oct oB o)
        refine t4 F (own := own) hc q5 hsh hlt hpN hP (.there hp2) (.tail _ (.tail _ (.tail _ (hsub _ hpl)))) mem1 lY oY lV oV fun Γ2 Y' k1 k2 k3 k4 => ?_
        refine ⟨_, _, .s (.s (.s (.s (.s (.s (.o (.s (.s (.s (.s (.s (.s (.s (.s (.s (.s (.s (.o (.s (.s (.s (.s (.s (.s (.s (.s (.s (.s (.s (.s (.s .z))))))))))))))))))))))))))))))), .refl, hlt, ea, rfl, ?_⟩
        refine err_step (k := 1) (W := W) hc hlt hP hB hR hY oW w0 w1 lV oV (by decide) (fun o ho => ?_) k1 mem1 (fun x hx => .tail _ (.tail _ (.tail _ (hsub x hx)))) k2 k3 k4
        rw [range_getD ho, one_mul (getD_oct oB o)]
      · refine t4 F (own := own) hc q5 hsh hlt hpN hP hp2 (.tail _ (.tail _ (hsub _ hpl))) mem1 lY oY lW oW fun Γ2 Y' k1 k2 k3 k4 => ?_
        refine ⟨_, _, .s (.s (.s (.s (.s (.s (.o (.s (.s (.s (.s (.s (.s (.s (.s (.s (.s (.s (.o (.s (.s (.s (.s (.s (.s (.s (.s (.s (.s (.s (.s (.s .z))))))))))))))))))))))))))))))), .refl, hlt, er, rfl, ?_⟩
        refine err_step (k := 0) (W := W) hc hlt hP hB hR hY oW w0 w1 lW oW (by decide) (fun o ho => ?_) k1 mem1 (fun x hx => .tail _ (.tail _ (hsub x hx))) k2 k3 k4
        rw [zero_mul, Nat.xor_zero]
  · have hue : u = c := by omega
    subst hue
    have K' := Known.of K hsh hR
    have eY : Y = tab N u fun i b => Tn u dB i b ^^^ erN u (plc P) (fun b v => R v ((b + u - s) % u)) i b := tab_of hc lY hY
    rw [eY] at hp
    exact s20 F hs hsl K' ⟨hp.rest (hsub _ htl), hp.rest (hsub _ hpl), hp.mem⟩
end Mine


open PySem PySem.W PyProof.Rows PySem.Calls PySem.SeqAt
set_option Elab.async false
set_option maxRecDepth 100000
set_option linter.unusedVariables false
set_option linter.unusedSimpArgs false
namespace Mine
variable {X : Cx} {n : Nat} {Γ : Led} {Q : V → Led → Prop}

theorem erase_perm {α : Type} : ∀ {l : List α} {i : Nat} {x : α}, l[i]? = some x → l.Perm (x :: l.eraseIdx i)
  | [], i, x, h => by simp at h
  | a :: l, 0, x, h => by
    have : a = x := by simpa using h
    subst this
    exact .refl _
  | a :: l, i + 1, x, h => by
    have ih := erase_perm (l := l) (i := i) (x := x) (by simpa using h)
    exact (List.Perm.cons a ih).trans (.swap ..)
/-- a sorted list of naturals -/
theorem sorted_nat {is : List Int} {P : List Nat} (hp : is.Perm (P.map fun a : Nat => (a : Int))) (hs : is.Pairwise (· ≤ ·)) : ∃ P' : List Nat, is = P'.map (fun a : Nat => (a : Int)) ∧ P'.Perm P ∧ P'.Pairwise (· ≤ ·) := by
  have hm : ∀ v ∈ is, ((v.toNat : Nat) : Int) = v := fun v hv => by
    obtain ⟨a, _, rfl⟩ := List.mem_map.mp (hp.mem_iff.mp hv)
    simp
  refine ⟨is.map Int.toNat, ?_, ?_, ?_⟩
  · rw [List.map_map]
    refine Eq.trans (List.map_id is).symm (List.map_congr_left fun v hv => ?_)
    exact (hm v hv).symm
  · have := hp.map Int.toNat
    rw [List.map_map] at this
    have e : P.map (Int.toNat ∘ fun a : Nat => (a : Int)) = P := by
      refine Eq.trans (List.map_congr_left fun v _ => ?_) (List.map_id P)
      simp
    rwa [e] at this
  · rw [List.pairwise_map]
    exact hs.imp fun {a b} h => by omega
/-- places are drawn -/
theorem places1 (F : LawF1 X) {sa fr : Addr} {sc : List Int} {c N : Nat} {loc : Loc} (hs : Scr X sa sc) (hsl : sc.length ≤ 63) (hc : c ≤ 3) (hN : c < N) (hN2 : N ≤ 20) (h0 : loc[0]? = some (some (.ref sa))) (h1 : loc[1]? = some (some (.int (c : Nat)))) (h4 : loc[4]? = some (some (.int (N : Nat)))) (h13 : loc[13]? = some (some (.ref fr)))
    (q : ∀ (r : Addr) (P F : List Nat), P.length = c → P.Nodup → (∀ p ∈ P, p < N) → Q (.ref r) ((r, O.list (ns P)) :: (fr, O.list (ns F)) :: Γ)) : wpE X 15 ek_places loc ((fr, O.list (ns (List.range N))) :: Γ) Q := by
  simp only [ek_places, wpE, wpI]
  refine ⟨_, h1, _, rfl, by omega, by omega, fun acc => ?_⟩
  refine ⟨c, fun k ys Γ' => k ≤ c ∧ ∃ (P R : List Nat), P.length = k ∧ R.length + k = N ∧ ys = ns P ∧ Γ' = (fr, O.list (ns R)) :: Γ ∧ (P ++ R).Nodup ∧ ∀ v ∈ P ++ R, v < N,
    ⟨Nat.zero_le _, [], List.range N, rfl, by simp, rfl, rfl, List.nodup_range, fun v hv => by simpa using hv⟩, ?_⟩
  rintro k ys Γ' ⟨hk, P, R, hPl, hRl, rfl, rfl, hnd, hlt'⟩
  have cap : capOf loc [none, none, some 13, some 0, some 4] = [none, none, some (.ref fr), some (.ref sa), some (.int (N : Nat))] := by
    unfold capOf; simp [h0, h4, h13]
  rw [cap]
  refine ⟨hk, by rw [ns_length]; omega, fun hlt => ?_, fun hge => ?_⟩
  · have hlt : k < c := by omega
    rw [Int.zero_add]
    simp only [tgW, wpT, wpE, wpEs]
    refine ⟨fun h => by simp at h, fun _ => ⟨.ref fr, rfl, .builtin "list.pop", true, methR_list (LAt.led mem2) F.pop PySem.F.type_list_pop, .ref sa, rfl, .int k, rfl, bw_add ⟨.int (N : Nat), rfl, .int k, rfl, bw_sub ?_⟩⟩⟩
    rw [show ((8 : Int) + (k : Int)) = ((8 + k : Nat) : Int) by push_cast; rfl, show ((N : Int) - (k : Int)) = ((N - k : Nat) : Int) by omega]
    refine draw_spec F.draw (LI.base hs) hsl (by omega) (by omega) fun r hr => ⟨keeps_builtin, ?_⟩
    obtain ⟨x, hx⟩ : ∃ x, R[r]? = some x := ⟨_, List.getElem?_eq_getElem (by omega)⟩
    have pm := erase_perm hx
    refine callW_pop (.there .here) (by rw [ns_length]; omega) (ns_get hx) ?_
    have ee : (ns R).eraseIdx r = ns (R.eraseIdx r) := by
      refine List.ext_getElem? fun i => ?_
      unfold ns
      rw [List.getElem?_eraseIdx, List.getElem?_map, List.getElem?_map, List.getElem?_map, List.getElem?_eraseIdx]
      split <;> rfl
    rw [ee]
    have pp : (P ++ R).Perm ((P ++ [x]) ++ R.eraseIdx r) := by
      rw [List.append_assoc]
      exact List.Perm.append_left P pm
    refine ⟨_, .cons (.there .here) .refl, hlt, P ++ [x], R.eraseIdx r, by simp [hPl], ?_, by simp [ns], rfl, pp.nodup hnd, fun v hv => hlt' v (pp.mem_iff.mpr hv)⟩
    have := pm.length_eq
    simp only [List.length_cons] at this
    omega
  · have hke : k = c := by omega
    subst hke
    exact q acc P R hPl (List.nodup_append.mp hnd).1 fun p hp => hlt' p (List.mem_append_left _ hp)
/-- the places -/
theorem s14 (F : LawF1 X) {sa tl : Addr} {sc : List Int} {c own N : Nat} {dB : Nat → List Nat} {s2 s5 s9 s11 : Option V} (hs : Scr X sa sc) (hsl : sc.length ≤ 63) (hc : c = 2 ∨ c = 3) (h3 : Shp own (c + 1)) (hN : N = own + (c + 1)) (hr : DRows own c dB)
    (htl : (tl, O.list (ns (tab N c (Tn c dB)))) ∈ Γ) :
    wpSs X 15 k_law14 [some (.ref sa), some (.int (c : Nat)), s2, some (.int (c + 1 : Nat)), some (.int (N : Nat)), s5, none, none, none, s9, none, s11, some (.ref tl), none, none, none, none, none, none, none, none, none, none, none, none, none, none, none, none, none, none, none] Γ (FnPost PT1) := by
  obtain ⟨q1, q2, q3, q4, q5, q6⟩ := shp_le h3 hN
  have lT := tab_length (w := c) (T := Tn c dB) N
  have hb : N * c ≤ 6 * 3 := Nat.mul_le_mul q5 q4
  simp only [k_law14, wpSs, wpS, wpE, wpEs]
  refine ⟨.int (N : Nat), rfl, keeps_type, callW_range fun rg => ⟨keeps_type, callW_listRange mem1 (by omega) fun fr => ?_⟩⟩
  rw [show intsV ((List.range N).map fun k : Nat => (k : Int)) = ns (List.range N) from ns_ints.symm]
  simp only [k_law15, wpSs, wpS, wpE, wpEs]
  refine places1 F hs hsl (by omega) (by omega) (by omega) rfl rfl rfl rfl fun pr P0 F0 hP0 hnd0 hp0 => ⟨keeps_builtin, ?_⟩
  refine callW_sorted (is := P0.map fun a : Nat => (a : Int)) isRef (by rw [← ns_ints]; exact LI.led mem1) (by simp; omega) fun pl is' hpm hsr => ?_
  obtain ⟨P, rfl, hPm, hPs⟩ := sorted_nat hpm hsr
  rw [← ns_ints]
  have K : Pre c own N dB P := ⟨hN, hc, h3, hr, by rw [hPm.length_eq, hP0], fun p hp => hp0 p (hPm.mem_iff.mp hp), hPm.symm.nodup hnd0, hPs⟩
  simp only [k_law16, wpSs, wpS, wpE, wpEs]
  refine ⟨.ref sa, rfl, .int (c : Nat), rfl, ?_⟩
  rw [show (11 : Int) = ((11 : Nat) : Int) from rfl]
  refine draw_spec F.draw (LI.base hs) hsl (by decide) (by omega) fun s hsh => ?_
  simp only [k_law17, wpSs, wpS, wpE, wpEs]
  refine ⟨.ref tl, rfl, keeps_type, callW_list isRef (LAt.led (.tail _ (.tail _ (.tail _ (.tail _ htl))))) (by rw [ns_length]; omega) fun st => ?_⟩
  simp only [k_law18, wpSs, wpS, wpE, wpEs]
  refine ⟨by simp, fun z0 => ⟨.int (c : Nat), rfl, ?_⟩⟩
  simp only [binW]
  refine binS_rep isRef (LAt.led mem1) (by omega) (by omega) fun bf => ?_
  rw [Int.toNat_natCast, show V.int 0 = V.int ((0 : Nat) : Int) from rfl, ns_rep]
  exact s19 F hs hsl K hsh (.there (.there .here)) mem1 (.tail _ (.tail _ (.tail _ (.tail _ (.tail _ (.tail _ htl)))))) mem3
end Mine


open PySem PySem.W PyProof.Rows PySem.Calls PySem.SeqAt
set_option Elab.async false
set_option maxRecDepth 100000
set_option linter.unusedVariables false
set_option linter.unusedSimpArgs false
namespace Mine
variable {X : Cx} {n : Nat} {Γ : Led} {Q : V → Led → Prop}

/-- the rows that are laid -/
def Laid (Γ : Led) (ld : Addr) (c : Nat) (dB : Nat → List Nat) : Prop := ∃ as : List Addr, (ld, O.list (as.map .ref)) ∈ Γ ∧ as.length = c ∧ ∀ (j : Nat) a, as[j]? = some a → (a, O.list (ns (dB j))) ∈ Γ
theorem Laid.sub {Γ' : Led} {ld : Addr} {c : Nat} {dB : Nat → List Nat} (h : Laid Γ ld c dB) (s : ∀ x ∈ Γ, x ∈ Γ') : Laid Γ' ld c dB := by
  obtain ⟨as, h1, h2, h3⟩ := h
  exact ⟨as, s _ h1, h2, fun j a ha => s _ (h3 j a ha)⟩
theorem ref_get {as : List Addr} {k : Nat} {v : V} (h : (as.map V.ref)[k]? = some v) : ∃ a, as[k]? = some a ∧ v = .ref a := by
  rw [List.getElem?_map] at h
  obtain ⟨a, h1, h2⟩ := Option.map_eq_some_iff.mp h
  exact ⟨a, h1, h2.symm⟩
theorem tab_take {w : Nat} {T : Nat → Nat → Nat} {k : Nat} : ∀ {h : Nat}, k ≤ h → (tab h w T).take (k * w) = tab k w T
  | 0, hk => by
    have : k = 0 := by omega
    subst this; simp [tab]
  | h + 1, hk => by
    by_cases e : k = h + 1
    · subst e
      exact List.take_of_length_le (by rw [tab_length]; omega)
    · rw [tab_succ, List.take_append_of_le_length (by rw [tab_length]; exact Nat.mul_le_mul_right w (by omega))]
      exact tab_take (by omega)
theorem flat_succ {k : Nat} {dB : Nat → List Nat} : bytesN (k + 1) dB = bytesN k dB ++ dB k := by
  unfold bytesN; rw [List.range_succ, List.flatMap_append]; simp
theorem flat_len {own c : Nat} {dB : Nat → List Nat} (h : DRows own c dB) : ∀ k, k ≤ c → (bytesN k dB).length = k * own
  | 0, _ => by simp [bytesN]
  | k + 1, hk => by
    rw [flat_succ, List.length_append, flat_len h k (by omega), h.len k (by omega), Nat.succ_mul]
theorem ns_app {a b : List Nat} : ns (a ++ b) = ns a ++ ns b := by simp [ns]
/-- the blocks are made -/
theorem blocks1 (F : LawF1 X) {c own N : Nat} {loc : Loc} (hc : c ≤ 10) (h1 : loc[1]? = some (some (.int (c : Nat)))) (h2 : loc[2]? = some (some (.int (own : Nat)))) (h4 : loc[4]? = some (some (.int (N : Nat))))
    (q : ∀ (bk : Addr) (rbs : List Addr) (Δ : Led), rbs.length = c → (∀ r ∈ rbs, ∃ dr, (r, O.sub 244 dr [.int (N : Nat), .int (own : Nat)]) ∈ Δ) → Q (.ref bk) ((bk, O.list (rbs.map .ref)) :: (Δ ++ Γ))) : wpE X 15 ek_blocks loc Γ Q := by
  simp only [ek_blocks, wpE, wpI]
  refine ⟨_, h1, _, rfl, by omega, by omega, fun acc => ?_⟩
  refine ⟨c, fun k ys Γ' => k ≤ c ∧ ∃ (rbs : List Addr) (Δ : Led), rbs.length = k ∧ ys = rbs.map .ref ∧ Γ' = Δ ++ Γ ∧ ∀ r ∈ rbs, ∃ dr, (r, O.sub 244 dr [.int (N : Nat), .int (own : Nat)]) ∈ Δ,
    ⟨Nat.zero_le _, [], [], rfl, rfl, rfl, fun r h => by simp at h⟩, ?_⟩
  rintro k ys Γ' ⟨hk, rbs, Δ, lr, rfl, rfl, hr⟩
  have cap : capOf loc [none, none, some 2, some 4] = [none, none, some (.int (own : Nat)), some (.int (N : Nat))] := by
    unfold capOf; simp [h2, h4]
  rw [cap]
  refine ⟨hk, by simp; omega, fun hlt => ?_, fun hge => ?_⟩
  · have hlt : k < c := by omega
    rw [Int.zero_add]
    simp only [tgW, wpT, wpE, wpEs]
    refine ⟨fun h => by simp at h, fun _ => ⟨.int (N : Nat), rfl, .int (own : Nat), rfl, ?_⟩⟩
    refine rb_make F.cb.rs (n := 13) fun r dr => ?_
    refine ⟨_, .cons (.there .here) .refl, hlt, rbs ++ [r], (r, O.sub 244 dr [.int (N : Nat), .int (own : Nat)]) :: Δ, by simp [lr], by simp, rfl, fun r' h => ?_⟩
    rcases List.mem_append.mp h with h | h
    · obtain ⟨d, hd⟩ := hr r' h
      exact ⟨d, .tail _ hd⟩
    · cases List.mem_singleton.mp h
      exact ⟨dr, .head _⟩
  · have hke : k = c := by omega
    subst hke
    exact q acc rbs Δ lr hr
/-- the rows' octets -/
theorem flat1 {c own : Nat} {ld : Addr} {dB : Nat → List Nat} {loc : Loc} (hr : DRows own c dB) (hc : c ≤ 10) (ho : own ≤ 10) (hL : Laid Γ ld c dB) (h5 : loc[5]? = some (some (.ref ld)))
    (q : ∀ b, Q (.ref b) ((b, O.list (ns (bytesN c dB))) :: Γ)) : wpE X 15 ek_flat loc Γ Q := by
  obtain ⟨as, a1, a2, a3⟩ := hL
  have fl := flat_len hr
  simp only [ek_flat, wpE, wpI]
  refine ⟨_, h5, ld, rfl, .inl ⟨_, a1, fun acc => ?_⟩⟩
  refine ⟨c, fun k ys Γ' => k ≤ c ∧ ys = ns (bytesN k dB) ∧ Γ' = Γ, ⟨Nat.zero_le _, rfl, rfl⟩, ?_⟩
  rintro k ys Γ' ⟨hk, rfl, rfl⟩
  have cap : capOf loc [none, none, none] = [none, none, none] := by unfold capOf; simp
  rw [cap]
  refine ⟨hk, _, a1, fun v hv => ?_, fun hge => ?_⟩
  · obtain ⟨a, ha, rfl⟩ := ref_get hv
    have hlt : k < c := by have := (List.getElem?_eq_some_iff.mp ha).1; omega
    have hra := a3 k a ha
    have ll := hr.len k hlt
    have lk := fl k hk
    have bk : k * own ≤ 10 * 10 := Nat.mul_le_mul (by omega) ho
    simp only [tgW, wpI, wpE]
    refine ⟨.ref a, rfl, a, rfl, .inl ⟨_, .tail _ hra, ?_⟩⟩
    refine ⟨own, fun j zs Γ'' => j ≤ own ∧ zs = ns (bytesN k dB ++ (dB k).take j) ∧ Γ'' = Γ', ⟨_, .refl, Nat.zero_le _, by simp, rfl⟩, ?_⟩
    rintro j zs Γ'' ⟨hj, rfl, rfl⟩
    refine ⟨hj, by rw [ns_length, List.length_append, List.length_take]; omega, _, hra, fun v hv => ?_, fun hge => ?_⟩
    · obtain ⟨x, hx, rfl⟩ := ns_get' hv
      have hlj : j < own := by have := (List.getElem?_eq_some_iff.mp hx).1; omega
      simp only [tgW, wpE]
      refine ⟨.s (.s (.o .z)), .int x, rfl, _, .refl, hlj, ?_, rfl⟩
      rw [List.take_add_one, hx]
      simp [ns]
    · have hje : j = own := by rw [ns_length] at hge; omega
      subst hje
      refine ⟨hlt, ?_, rfl⟩
      rw [flat_succ, List.take_of_length_le (by omega)]
  · have hke : k = c := by rw [List.length_map] at hge; omega
    subst hke
    exact q acc
/-- the rows' octets, turn by turn -/
theorem turns1 {c own : Nat} {ld : Addr} {dB : Nat → List Nat} {loc : Loc} (hr : DRows own c dB) (hc : c ≤ 10) (ho : own ≤ 10) (hL : Laid Γ ld c dB) (h2 : loc[2]? = some (some (.int (own : Nat)))) (h5 : loc[5]? = some (some (.ref ld)))
    (q : ∀ b, Q (.ref b) ((b, O.list (ns (tab own c fun i t => (dB t).getD i 0))) :: Γ)) : wpE X 15 ek_turns loc Γ Q := by
  obtain ⟨as, a1, a2, a3⟩ := hL
  simp only [ek_turns, wpE, wpI]
  refine ⟨_, h2, _, rfl, by omega, by omega, fun acc => ?_⟩
  refine ⟨own, fun k ys Γ' => k ≤ own ∧ ys = ns (tab k c fun i t => (dB t).getD i 0) ∧ Γ' = Γ, ⟨Nat.zero_le _, rfl, rfl⟩, ?_⟩
  rintro k ys Γ' ⟨hk, rfl, rfl⟩
  have cap : capOf loc [none, none, none, some 5] = [none, none, none, some (.ref ld)] := by unfold capOf; simp [h5]
  rw [cap]
  refine ⟨hk, fun hlt => ?_, fun hge => ?_⟩
  · have hlt : k < own := by omega
    rw [Int.zero_add]
    have lk := tab_length (w := c) (T := fun i t => (dB t).getD i 0) k
    have bk : k * c ≤ 10 * 10 := Nat.mul_le_mul (by omega) hc
    simp only [tgW, wpI, wpE]
    refine ⟨.ref ld, rfl, ld, rfl, .inl ⟨_, .tail _ a1, ?_⟩⟩
    refine ⟨c, fun j zs Γ'' => j ≤ c ∧ zs = ns (tab k c (fun i t => (dB t).getD i 0) ++ (List.range j).map fun t => (dB t).getD k 0) ∧ Γ'' = Γ', ⟨_, .refl, Nat.zero_le _, by simp, rfl⟩, ?_⟩
    rintro j zs Γ'' ⟨hj, rfl, rfl⟩
    refine ⟨hj, by rw [ns_length, List.length_append, List.length_map, List.length_range]; omega, _, a1, fun v hv => ?_, fun hge => ?_⟩
    · obtain ⟨a, ha, rfl⟩ := ref_get hv
      have hlj : j < c := by have := (List.getElem?_eq_some_iff.mp ha).1; omega
      have hra := a3 j a ha
      have ll := hr.len j hlj
      have hg := get_getD (l := dB j) (i := k) (by omega)
      simp only [tgW, wpE]
      refine ⟨.s (.s (.o (.s .z))), .ref a, rfl, .int (k : Nat), rfl, ?_⟩
      refine subW_list isRef (LI.led (.tail _ hra)) (getW_list isRef (LI.led (.tail _ hra)) (by omega) (by omega) (x := .int ((dB j).getD k 0 : Nat)) (by rw [Int.toNat_natCast]; exact ns_get hg) ?_)
      refine ⟨_, .refl, hlj, ?_, rfl⟩
      rw [rsnoc, ← List.append_assoc, ns_app (b := [_])]
      rfl
    · have hje : j = c := by rw [List.length_map] at hge; omega
      subst hje
      refine ⟨hlt, ?_, rfl⟩
      rw [tab_succ]
  · have hke : k = own := by omega
    subst hke
    exact q acc
/-- a row is drawn -/
theorem draw1 (F : LawF1 X) {sa : Addr} {sc : List Int} {own k : Nat} {loc : Loc} (hs : Scr X sa sc) (hsl : sc.length ≤ 63) (ho : own ≤ 3) (hk : k ≤ 3) (h0 : loc[0]? = some (some (.ref sa))) (h2 : loc[2]? = some (some (.int (own : Nat)))) (h6 : loc[6]? = some (some (.int (k : Nat))))
    (q : ∀ (r : Addr) (d : List Nat), d.length = own → oct d → Q (.ref r) ((r, O.list (ns d)) :: Γ)) : wpE X 15 ek_draw loc Γ Q := by
  simp only [ek_draw, wpE, wpI]
  refine ⟨_, h2, _, rfl, by omega, by omega, fun acc => ?_⟩
  refine ⟨own, fun j ys Γ' => j ≤ own ∧ Γ' = Γ ∧ ∃ d, ys = ns d ∧ d.length = j ∧ oct d, ⟨Nat.zero_le _, rfl, [], rfl, rfl, fun v hv => by simp at hv⟩, ?_⟩
  rintro j ys Γ' ⟨hj, rfl, d, rfl, hd, od⟩
  have cap : capOf loc [none, none, some 2, some 0, some 6] = [none, none, some (.int (own : Nat)), some (.ref sa), some (.int (k : Nat))] := by unfold capOf; simp [h0, h2, h6]
  rw [cap]
  have bk : k * own ≤ 3 * 3 := Nat.mul_le_mul hk ho
  refine ⟨hj, by rw [ns_length]; omega, fun hlt => ?_, fun hge => ?_⟩
  · have hlt : j < own := by omega
    rw [Int.zero_add]
    simp only [tgW, wpT, wpE, wpEs]
    refine ⟨fun h => by simp at h, fun _ => ⟨.ref sa, rfl, .int (k : Nat), rfl, .int (own : Nat), rfl, bw_mul ⟨by omega, by omega⟩ (bw_add ⟨.int (j : Nat), rfl, bw_add ?_⟩)⟩⟩
    rw [show ((2 : Int) + (k : Int) * (own : Int) + (j : Int)) = ((2 + k * own + j : Nat) : Int) by push_cast; rfl, show (256 : Int) = ((256 : Nat) : Int) from rfl]
    refine draw_spec F.draw (LI.base hs) hsl (by omega) (by decide) fun v hv => ?_
    refine ⟨_, .refl, hlt, rfl, d ++ [v], by simp [ns], by simp [hd], fun x hx => ?_⟩
    rcases List.mem_append.mp hx with h | h
    · exact od x h
    · cases List.mem_singleton.mp h; exact hv
  · have hje : j = own := by omega
    subst hje
    exact q acc d hd od
end Mine


open PySem PySem.W PyProof.Rows PySem.Calls PySem.SeqAt
set_option Elab.async false
set_option maxRecDepth 100000
set_option linter.unusedVariables false
set_option linter.unusedSimpArgs false
namespace Mine
variable {X : Cx} {n : Nat} {Γ : Led} {Q : V → Led → Prop}

/-- the shape of law 01 -/
structure Sh1 (c own N : Nat) (dB : Nat → List Nat) : Prop where
  hc : c = 2 ∨ c = 3
  shp : Shp own (c + 1)
  hN : N = own + (c + 1)
  rows : DRows own c dB
theorem Sh1.le {c own N : Nat} {dB : Nat → List Nat} (S : Sh1 c own N dB) : 1 ≤ own ∧ own ≤ 3 ∧ 2 ≤ c ∧ c ≤ 3 ∧ N ≤ 6 ∧ N = own + (c + 1) := shp_le S.shp S.hN
/-- the blocks stand -/
theorem s13 (F : LawF1 X) {sa ld bi bk tl : Addr} {sc : List Int} {c own N : Nat} {dB : Nat → List Nat} {rbs : List Addr} (hs : Scr X sa sc) (hsl : sc.length ≤ 63) (S : Sh1 c own N dB)
    (htl : (tl, O.list (ns (tab N c (Tn c dB)))) ∈ Γ) (hbk : (bk, O.list (rbs.map .ref)) ∈ Γ) (lr : rbs.length = c) (hr : ∀ r ∈ rbs, ∃ dr, (r, O.sub 244 dr [.int (N : Nat), .int (own : Nat)]) ∈ Γ) :
    wpSs X 15 k_law13 [some (.ref sa), some (.int (c : Nat)), some (.int (own : Nat)), some (.int (c + 1 : Nat)), some (.int (N : Nat)), some (.ref ld), none, none, none, some (.ref bi), none, some (.ref bk), some (.ref tl), none, none, none, none, none, none, none, none, none, none, none, none, none, none, none, none, none, none, none] Γ (FnPost PT1) := by
  obtain ⟨q1, q2, q3, q4, q5, q6⟩ := S.le
  simp only [k_law13, wpSs, wpS, wpE, wpEs, wpT]
  refine ⟨.ref bk, rfl, ?_⟩
  refine blocks1 F (c := c) (own := own) (N := N) (by omega) rfl rfl rfl fun bk2 rbs2 Δ lr2 hr2 => ?_
  show cmpS X (14 + 1) .NotEq _ _ _ _
  refine cmp_blocks (C := 244) (bs1 := rbs) (bs2 := rbs2) (x := (N : Nat)) (y := (own : Nat)) isRef isRef (.tail _ (mem_app Δ hbk)) mem1 (by omega) (fun i p q hp hq => ?_) F.sub F.eq ?_
  · obtain ⟨d1, h1⟩ := hr p (List.mem_of_getElem? hp)
    obtain ⟨d2, h2⟩ := hr2 q (List.mem_of_getElem? hq)
    obtain ⟨Γ₁, pk⟩ := pick_mem h1
    exact ⟨d1, d2, _, .there (pk.app Δ), .tail _ (List.mem_append_left _ h2)⟩
  simp only [truthW]
  refine ⟨fun h => by simp at h, fun _ => ?_⟩
  exact s14 F hs hsl S.hc S.shp S.hN S.rows (.tail _ (mem_app Δ htl))
/-- the buffer stands, the data come first -/
theorem s10 (F : LawF1 X) {sa ld bi bd bl bk tl : Addr} {sc : List Int} {c own N : Nat} {dB : Nat → List Nat} {rbs : List Addr} (hs : Scr X sa sc) (hsl : sc.length ≤ 63) (S : Sh1 c own N dB)
    (hld : Laid Γ ld c dB) (hbi : (bi, bufO bd bl (8 * (c * own))) ∈ Γ) (hbl : (bl, O.list (ns (bytesN c dB))) ∈ Γ)
    (htl : (tl, O.list (ns (tab N c (Tn c dB)))) ∈ Γ) (hbk : (bk, O.list (rbs.map .ref)) ∈ Γ) (lr : rbs.length = c) (hr : ∀ r ∈ rbs, ∃ dr, (r, O.sub 244 dr [.int (N : Nat), .int (own : Nat)]) ∈ Γ) :
    wpSs X 15 k_law10 [some (.ref sa), some (.int (c : Nat)), some (.int (own : Nat)), some (.int (c + 1 : Nat)), some (.int (N : Nat)), some (.ref ld), none, none, none, some (.ref bi), none, some (.ref bk), some (.ref tl), none, none, none, none, none, none, none, none, none, none, none, none, none, none, none, none, none, none, none] Γ (FnPost PT1) := by
  obtain ⟨q1, q2, q3, q4, q5, q6⟩ := S.le
  have lT := tab_length (w := c) (T := Tn c dB) N
  have oT : oct (tab N c (Tn c dB)) := tab_oct fun i hi b hb => Tn_lt S.rows hb
  have bNc : N * c ≤ 6 * 3 := Nat.mul_le_mul q5 q4
  have bco : c * own ≤ 3 * 3 := Nat.mul_le_mul q4 q2
  simp only [k_law10, wpSs, wpS, wpE, wpEs, wpT]
  refine ⟨.ref tl, rfl, .int (c : Nat), rfl, .int (N : Nat), rfl, bw_mul ⟨by omega, by omega⟩ ?_⟩
  refine octets_spec F.octs (n := 14) htl oT (by rw [lT, Nat.mul_comm]; push_cast; rfl) (by omega) ?_
  simp only [truthW]
  refine ⟨fun h => by simp at h, fun _ => ?_⟩
  simp only [k_law11, wpSs, wpS, wpE, wpEs, wpT]
  refine ⟨.ref tl, rfl, .int (c : Nat), rfl, .int (own : Nat), rfl, bw_mul ⟨by omega, by omega⟩ ?_⟩
  rw [show ((c : Int) * (own : Int)) = ((own * c : Nat) : Int) by rw [Nat.mul_comm]; push_cast; rfl]
  have ble : own * c ≤ N * c := Nat.mul_le_mul_right c (by omega)
  refine slW_list (lo := none) (hi := some ((own * c : Nat) : Int)) (sp := none) isRef (LI.led htl) rfl rfl rfl (by simp) (by rw [ns_length]; omega) fun sl => ?_
  rw [sliceV_to (by rw [ns_length]; omega), ns_take, tab_take (by omega)]
  have et : tab own c (Tn c dB) = tab own c fun i t => (dB t).getD i 0 := tab_congr fun i hi t ht => by
    unfold Tn dataG
    rw [getD_app, S.rows.len t ht, if_pos hi]
  rw [et]
  refine turns1 (own := own) S.rows (by omega) (by omega) (hld.sub fun x hx => .tail _ hx) rfl rfl fun b1 => ?_
  show cmpS X _ .NotEq _ _ _ _
  refine cmp_lists (.inr ⟨rfl, rfl⟩) isRef isRef (is := (tab own c fun i t => (dB t).getD i 0).map fun a : Nat => (a : Int)) (js := (tab own c fun i t => (dB t).getD i 0).map fun a : Nat => (a : Int)) (by rw [← ns_ints]; exact LI.led mem2) (by rw [← ns_ints]; exact LI.led mem1) ?_
  simp only [truthW]
  refine ⟨fun h => by simp at h, fun _ => ?_⟩
  simp only [k_law12, wpSs, wpS, wpE, wpEs, wpT]
  refine ⟨.ref bi, rfl, buf_attr F.cb.buf (.tail _ (.tail _ hbi)) ?_⟩
  refine flat1 S.rows (by omega) (by omega) (hld.sub fun x hx => .tail _ (.tail _ hx)) rfl fun b2 => ?_
  show cmpS X _ .NotEq _ _ _ _
  refine cmp_lists (.inr ⟨rfl, rfl⟩) isRef isRef (is := (bytesN c dB).map fun a : Nat => (a : Int)) (js := (bytesN c dB).map fun a : Nat => (a : Int)) (by rw [← ns_ints]; exact LI.led (.tail _ (.tail _ (.tail _ hbl)))) (by rw [← ns_ints]; exact LI.led mem1) ?_
  simp only [truthW]
  refine ⟨fun h => by simp at h, fun _ => ⟨.ref bi, rfl, keeps_builtin, buf_len F.cb.buf (n := 13) (.tail _ (.tail _ (.tail _ hbi))) (by omega) ⟨.int (c : Nat), rfl, bw_mul ⟨by decide, by decide⟩ ⟨.int (own : Nat), rfl, bw_mul ⟨by omega, by omega⟩ ?_⟩⟩⟩⟩
  rw [show ((8 : Int) * (c : Int) * (own : Int)) = ((8 * (c * own) : Nat) : Int) by rw [← Nat.mul_assoc]; push_cast; rfl]
  simp only [cmpW, truthW]
  refine ⟨fun h => by simp at h, fun _ => ⟨fun h => by simp at h, fun _ => ?_⟩⟩
  exact s13 F hs hsl S (.tail _ (.tail _ (.tail _ htl))) (.tail _ (.tail _ (.tail _ hbk))) lr fun r h => by
    obtain ⟨d, hd⟩ := hr r h
    exact ⟨d, .tail _ (.tail _ (.tail _ hd))⟩
/-- the call -/
theorem s8 (F : LawF1 X) {sa ld bi bd bl : Addr} {sc : List Int} {c own N : Nat} {dB : Nat → List Nat} (hs : Scr X sa sc) (hsl : sc.length ≤ 63) (S : Sh1 c own N dB)
    (hld : Laid Γ ld c dB) (hbi : (bi, bufO bd bl (8 * (c * own))) ∈ Γ) (hbl : (bl, O.list (ns (bytesN c dB))) ∈ Γ) :
    wpSs X 15 k_law8 [some (.ref sa), some (.int (c : Nat)), some (.int (own : Nat)), some (.int (c + 1 : Nat)), some (.int (N : Nat)), some (.ref ld), none, none, none, some (.ref bi), none, none, none, none, none, none, none, none, none, none, none, none, none, none, none, none, none, none, none, none, none, none] Γ (FnPost PT1) := by
  obtain ⟨q1, q2, q3, q4, q5, q6⟩ := S.le
  have g34 := S.shp.e.1
  have lgq := gq_len g34
  obtain ⟨o1, o2⟩ := outG (f := 11) S.shp S.rows (by omega)
  simp only [k_law8, wpSs, wpS]
  refine blocks1 F (c := c) (own := own) (N := N) (by omega) rfl rfl rfl fun bk rbs Δ lr hr => ?_
  simp only [k_law9, wpSs, wpS, wpE, wpEs]
  refine ⟨.ref bi, rfl, .ref bk, rfl, ?_⟩
  subst lr
  refine create_spec F.cb (n := 0) (N2 := 12) (m := own) (e := rbs.length + 1) (f := 11) (g := 1 :: gq (rbs.length + 1)) (rbs := rbs) (by decide) (.tail _ (mem_app Δ hbi)) (.tail _ (mem_app Δ hbl)) mem1 (fun rb hrb => ?_) (bytes_oct S.rows) (by rw [bytes_len S.rows]) (by omega) (by omega) (by omega) (by omega) (by omega) (rs4 F.cb (n := 11) g34) ?_ (by simp [lgq]) (by simp [lgq]; omega) o2 fun tl => ?_
  · obtain ⟨dr, hd⟩ := hr rb hrb
    refine ⟨dr, ?_⟩
    rw [show ((own : Int) + ((rbs.length + 1 : Nat) : Int)) = ((N : Nat) : Int) by rw [q6]; push_cast; rfl]
    exact .tail _ (List.mem_append_left _ hd)
  · intro v hv
    rcases List.mem_cons.mp hv with rfl | hv
    · decide
    · exact gq_pos g34 v hv
  rw [o1, ← q6]
  exact s10 F hs hsl S (hld.sub fun x hx => .tail _ (.tail _ (mem_app Δ hx))) (.tail _ (.tail _ (mem_app Δ hbi))) (.tail _ (.tail _ (mem_app Δ hbl))) mem1 mem2 rfl fun r h => by
    obtain ⟨d, hd⟩ := hr r h
    exact ⟨d, .tail _ (.tail _ (List.mem_append_left _ hd))⟩
/-- the bits are put -/
theorem s6 (F : LawF1 X) {sa ld : Addr} {sc : List Int} {c own N : Nat} {dB : Nat → List Nat} (hs : Scr X sa sc) (hsl : sc.length ≤ 63) (S : Sh1 c own N dB)
    (hld : Laid Γ ld c dB) :
    wpSs X 15 k_law6 [some (.ref sa), some (.int (c : Nat)), some (.int (own : Nat)), some (.int (c + 1 : Nat)), some (.int (N : Nat)), some (.ref ld), none, none, none, none, none, none, none, none, none, none, none, none, none, none, none, none, none, none, none, none, none, none, none, none, none, none] Γ (FnPost PT1) := by
  obtain ⟨q1, q2, q3, q4, q5, q6⟩ := S.le
  obtain ⟨as, a1, a2, a3⟩ := id hld
  have fl := flat_len S.rows
  simp only [k_law6, wpSs, wpS, wpE, wpEs]
  refine buf_make F.cb.buf (n := 13) fun bi bd bl => ?_
  simp only [k_law7, wpSs, wpS, wpE, wpEs, wpI]
  refine ⟨.ref ld, rfl, ld, rfl, .inl ⟨_, .tail _ (.tail _ a1), ?_⟩⟩
  refine ⟨c, fun k loc Γ' => k ≤ c ∧ loc = [some (.ref sa), some (.int (c : Nat)), some (.int (own : Nat)), some (.int (c + 1 : Nat)), some (.int (N : Nat)), some (.ref ld), none, none, none, some (.ref bi), none, none, none, none, none, none, none, none, none, none, none, none, none, none, none, none, none, none, none, none, none, none] ∧ Γ' = (bi, bufO bd bl (8 * (bytesN k dB).length)) :: (bl, O.list (ns (bytesN k dB))) :: Γ, ⟨Nat.zero_le _, rfl, rfl⟩, ?_⟩
  rintro k loc Γ' ⟨hk, rfl, rfl⟩
  refine ⟨hk, _, .tail _ (.tail _ a1), fun v hv => ?_, fun hge => ?_⟩
  · obtain ⟨a, ha, rfl⟩ := ref_get hv
    have hlt : k < c := by have := (List.getElem?_eq_some_iff.mp ha).1; omega
    have hra := a3 k a ha
    have ll := S.rows.len k hlt
    have lk := fl k hk
    have bk : k * own ≤ 3 * 3 := Nat.mul_le_mul (by omega) q2
    simp only [tgW, k_lawh, wpSs, wpS, wpE, wpI]
    refine ⟨.ref a, rfl, a, rfl, .inl ⟨_, .tail _ (.tail _ hra), ?_⟩⟩
    refine ⟨own, fun j loc Γ' => j ≤ own ∧ loc = [some (.ref sa), some (.int (c : Nat)), some (.int (own : Nat)), some (.int (c + 1 : Nat)), some (.int (N : Nat)), some (.ref ld), none, none, some (.ref a), some (.ref bi), none, none, none, none, none, none, none, none, none, none, none, none, none, none, none, none, none, none, none, none, none, none] ∧ Γ' = (bi, bufO bd bl (8 * (bytesN k dB ++ (dB k).take j).length)) :: (bl, O.list (ns (bytesN k dB ++ (dB k).take j))) :: Γ, ⟨Nat.zero_le _, rfl, by simp⟩, ?_⟩
    rintro j loc Γ' ⟨hj, rfl, rfl⟩
    have lj : (bytesN k dB ++ (dB k).take j).length ≤ 20 := by rw [List.length_append, List.length_take]; omega
    refine ⟨hj, _, .tail _ (.tail _ hra), fun v hv => ?_, fun hge => ?_⟩
    · obtain ⟨x, hx, rfl⟩ := ns_get' hv
      have hlj : j < own := by have := (List.getElem?_eq_some_iff.mp hx).1; omega
      have hx2 := S.rows.oc k hlt x (List.mem_of_getElem? hx)
      simp only [tgW, k_lawha, wpSs, wpS, wpE, wpEs]
      refine ⟨.ref bi, rfl, .ref 280, true, methR_inst F.cb.buf.nd F.cb.buf.cls F.cb.buf.put mem1 rfl, .int x, rfl, put_spec F.cb.buf (n := 13) hx2 (by omega) ⟨rfl, ?_⟩⟩
      refine ⟨_, _, .s (.s (.s (.s (.s (.s (.s (.s (.s (.s (.o (.s (.s (.s (.s (.s (.s (.s (.s (.s (.s (.s (.s (.s (.s (.s (.s (.s (.s (.s (.s (.s .z))))))))))))))))))))))))))))))), .refl, hlj, rfl, ?_⟩
      have e : bytesN k dB ++ (dB k).take (j + 1) = (bytesN k dB ++ (dB k).take j) ++ [x] := by rw [List.take_add_one, hx]; simp
      rw [e, List.length_append (as := bytesN k dB ++ (dB k).take j)]
      rfl
    · have hje : j = own := by rw [ns_length] at hge; omega
      subst hje
      rw [List.take_of_length_le (by omega), ← flat_succ]
      exact ⟨_, _, .s (.s (.s (.s (.s (.s (.s (.s (.o (.s (.s (.s (.s (.s (.s (.s (.s (.s (.s (.s (.s (.s (.s (.s (.s (.s (.s (.s (.s (.s (.s (.s .z))))))))))))))))))))))))))))))), .refl, hlt, rfl, rfl⟩
  · have hke : k = c := by rw [List.length_map] at hge; omega
    subst hke
    rw [fl k (Nat.le_refl _)]
    exact s8 F hs hsl S (hld.sub fun x hx => .tail _ (.tail _ hx)) mem1 mem2
theorem sum_nat : ∀ {l : List Nat}, (l.map fun a : Nat => (a : Int)).sum = ((l.sum : Nat) : Int)
  | [] => rfl
  | a :: l => by rw [List.map_cons, List.sum_cons, sum_nat, List.sum_cons]; push_cast; rfl
theorem sum_pos : ∀ {l : List Nat}, l.sum ≠ 0 → ∃ v ∈ l, v ≠ 0
  | [], h => absurd rfl h
  | a :: l, h => by
    by_cases ha : a = 0
    · obtain ⟨v, hv, hne⟩ := sum_pos (l := l) (by rw [List.sum_cons] at h; omega)
      exact ⟨v, .tail _ hv, hne⟩
    · exact ⟨a, .head _, ha⟩
end Mine


open PySem PySem.W PyProof.Rows PySem.Calls PySem.SeqAt
set_option Elab.async false
set_option maxRecDepth 100000
set_option linter.unusedVariables false
set_option linter.unusedSimpArgs false
namespace Mine
variable {X : Cx} {n : Nat} {Γ : Led} {Q : V → Led → Prop}

/-- the rows are laid -/
theorem s4 (F : LawF1 X) {sa : Addr} {sc : List Int} {c own N : Nat} (hs : Scr X sa sc) (hsl : sc.length ≤ 63) (hc : c = 2 ∨ c = 3) (h3 : Shp own (c + 1)) (hN : N = own + (c + 1)) :
    wpSs X 15 k_law4 [some (.ref sa), some (.int (c : Nat)), some (.int (own : Nat)), some (.int (c + 1 : Nat)), some (.int (N : Nat)), none, none, none, none, none, none, none, none, none, none, none, none, none, none, none, none, none, none, none, none, none, none, none, none, none, none, none] Γ (FnPost PT1) := by
  obtain ⟨q1, q2, q3, q4, q5, q6⟩ := shp_le h3 hN
  simp only [k_law4, wpSs, wpS, wpE, wpEs]
  refine ⟨by simp, fun ld => ?_⟩
  simp only [k_law5, wpSs, wpS, wpE, wpI]
  refine ⟨.int (c : Nat), rfl, _, rfl, by omega, by omega, ?_⟩
  refine ⟨c, fun k loc Γ' => k ≤ c ∧ loc = [some (.ref sa), some (.int (c : Nat)), some (.int (own : Nat)), some (.int (c + 1 : Nat)), some (.int (N : Nat)), some (.ref ld), none, none, none, none, none, none, none, none, none, none, none, none, none, none, none, none, none, none, none, none, none, none, none, none, none, none] ∧ ∃ (as : List Addr) (Δ : Led) (dB : Nat → List Nat), Γ' = (ld, O.list (as.map .ref)) :: (Δ ++ Γ) ∧ as.length = k ∧ DRows own k dB ∧ ∀ (j : Nat) a, as[j]? = some a → (a, O.list (ns (dB j))) ∈ Δ ++ Γ,
    ⟨Nat.zero_le _, rfl, [], [], fun _ => [], rfl, rfl, ⟨fun b h => by omega, fun b h => by omega, fun b h => by omega⟩, fun j a h => by simp at h⟩, ?_⟩
  rintro k loc Γ' ⟨hk, rfl, as, Δ, dB, rfl, las, hD, has⟩
  refine ⟨hk, fun hlt => ?_, fun hge => ?_⟩
  · have hlt : k < c := by omega
    rw [Int.zero_add]
    simp only [tgW, k_lawf, wpSs, wpS]
    refine draw1 F (own := own) (k := k) hs hsl q2 (by omega) rfl rfl rfl fun dr d hd od => ?_
    have step : ∀ d : List Nat, d.length = own → oct d → (∃ v ∈ d, v ≠ 0) → ∃ (as' : List Addr) (Δ' : Led) (dB' : Nat → List Nat), (ld, O.list (as.map V.ref ++ [.ref dr])) :: (dr, O.list (ns d)) :: (Δ ++ Γ) = (ld, O.list (as'.map .ref)) :: (Δ' ++ Γ) ∧ as'.length = k + 1 ∧ DRows own (k + 1) dB' ∧ ∀ (j : Nat) a, as'[j]? = some a → (a, O.list (ns (dB' j))) ∈ Δ' ++ Γ := by
      intro d hd od hn
      refine ⟨as ++ [dr], (dr, O.list (ns d)) :: Δ, fun j => if j = k then d else dB j, by simp, by simp [las], ⟨fun b hb => ?_, fun b hb => ?_, fun b hb => ?_⟩, fun j a hj => ?_⟩
      · show (if b = k then d else dB b).length = own
        split
        · exact hd
        · exact hD.len b (by omega)
      · show oct (if b = k then d else dB b)
        split
        · exact od
        · exact hD.oc b (by omega)
      · show ∃ v ∈ (if b = k then d else dB b), v ≠ 0
        split
        · exact hn
        · exact hD.nz b (by omega)
      · show (a, O.list (ns (if j = k then d else dB j))) ∈ _
        by_cases h : j < as.length
        · rw [List.getElem?_append_left h] at hj
          rw [if_neg (by omega)]
          exact .tail _ (has j a hj)
        · rw [List.getElem?_append_right (by omega)] at hj
          have hj0 : j - as.length = 0 := by
            cases hz : j - as.length with
            | zero => rfl
            | succ z => rw [hz] at hj; simp at hj
          rw [hj0] at hj
          cases Option.some.inj hj
          rw [if_pos (by omega)]
          exact mem1
    simp only [k_lawf1, wpSs, wpS, wpE, wpEs, wpT]
    refine ⟨.ref dr, rfl, keeps_builtin, callW_sum (is := d.map fun a : Nat => (a : Int)) isRef (by rw [← ns_ints]; exact LI.led mem1) ?_⟩
    rw [sum_nat]
    simp only [cmpW, truthW]
    refine ⟨fun h => ?_, fun h => ?_⟩
    · simp only [k_lawfbT, wpSs, wpS, wpE]
      refine ⟨.ref dr, rfl, .int (own : Nat), rfl, bw_sub ?_⟩
      rw [show ((own : Int) - 1) = ((own - 1 : Nat) : Int) by omega]
      refine setW_list .here (by rw [ns_length]; omega) (by rw [ns_length]; omega) ?_
      rw [show V.int 1 = V.int ((1 : Nat) : Int) from rfl, ns_set]
      simp only [k_lawf2, wpSs, wpS, wpE, wpEs]
      refine ⟨.ref ld, rfl, .builtin "list.append", true, methR_list (LAt.led mem2) F.cb.poly.app type_list_append, .ref dr, rfl, keeps_builtin, callW_append (.there .here) (by simp; omega) ⟨rfl, ?_⟩⟩
      refine ⟨_, _, .s (.s (.s (.s (.s (.s (.o (.s (.o (.s (.s (.s (.s (.s (.s (.s (.s (.s (.s (.s (.s (.s (.s (.s (.s (.s (.s (.s (.s (.s (.s (.s .z))))))))))))))))))))))))))))))), .refl, hlt, rfl, step _ (by simpa using hd) (set_oct od (by decide)) ⟨1, List.mem_iff_getElem?.mpr ⟨own - 1, by rw [List.getElem?_set_self (by omega)]⟩, by decide⟩⟩
    · have h0 : d.sum ≠ 0 := fun z => by rw [z] at h; simp at h
      simp only [k_lawf2, wpSs, wpS, wpE, wpEs]
      refine ⟨.ref ld, rfl, .builtin "list.append", true, methR_list (LAt.led mem2) F.cb.poly.app type_list_append, .ref dr, rfl, keeps_builtin, callW_append (.there .here) (by simp; omega) ⟨rfl, ?_⟩⟩
      exact ⟨_, _, .s (.s (.s (.s (.s (.s (.o (.s (.o (.s (.s (.s (.s (.s (.s (.s (.s (.s (.s (.s (.s (.s (.s (.s (.s (.s (.s (.s (.s (.s (.s (.s .z))))))))))))))))))))))))))))))), .refl, hlt, rfl, step _ hd od (sum_pos h0)⟩
  · have hke : k = c := by omega
    subst hke
    exact s6 F hs hsl ⟨hc, h3, hN, hD⟩ ⟨as, mem1, las, fun j a h => .tail _ (has j a h)⟩
/-- the law -/
theorem s0 (F : LawF1 X) {sa : Addr} {sc : List Int} (hs : Scr X sa sc) (hsl : sc.length ≤ 63) :
    wpSs X 15 k_law [some (.ref sa), none, none, none, none, none, none, none, none, none, none, none, none, none, none, none, none, none, none, none, none, none, none, none, none, none, none, none, none, none, none, none] Γ (FnPost PT1) := by
  simp only [k_law, wpSs, wpS, wpE, wpEs]
  refine ⟨.ref sa, rfl, ?_⟩
  rw [show (0 : Int) = ((0 : Nat) : Int) from rfl, show (2 : Int) = ((2 : Nat) : Int) from rfl]
  refine draw_spec F.draw (LI.base hs) hsl (by decide) (by decide) fun r hr => bw_add ?_
  rw [show (((2 : Nat) : Int) + (r : Int)) = ((2 + r : Nat) : Int) by push_cast; rfl]
  have hc : 2 + r = 2 ∨ 2 + r = 3 := by omega
  generalize 2 + r = c at *
  simp only [k_law1, wpSs, wpS, wpE, wpEs]
  refine ⟨.ref sa, rfl, .int (c : Nat), rfl, bw_mul ⟨by decide, by decide⟩ (bw_sub ?_)⟩
  rw [show ((7 : Int) - 2 * (c : Int)) = ((7 - 2 * c : Nat) : Int) by omega, show (1 : Int) = ((1 : Nat) : Int) from rfl]
  refine draw_spec F.draw (LI.base hs) hsl (by decide) (by omega) fun t ht => bw_add ?_
  rw [show (((1 : Nat) : Int) + (t : Int)) = ((1 + t : Nat) : Int) by push_cast; rfl]
  have h3 : Shp (1 + t) (c + 1) := by
    unfold Shp
    simp only [List.mem_cons, Prod.mk.injEq, List.not_mem_nil, or_false]
    omega
  generalize 1 + t = own at *
  simp only [k_law2, wpSs, wpS, wpE, wpEs]
  refine ⟨.int (c : Nat), rfl, bw_add ?_⟩
  rw [show ((c : Int) + 1) = ((c + 1 : Nat) : Int) by push_cast; rfl]
  simp only [k_law3, wpSs, wpS, wpE, wpEs]
  refine ⟨.int (own : Nat), rfl, .int (c + 1 : Nat), rfl, bw_add ?_⟩
  rw [show ((own : Int) + ((c + 1 : Nat) : Int)) = ((own + (c + 1) : Nat) : Int) by push_cast; rfl]
  exact s4 F hs hsl hc h3 rfl
end Mine


open PySem PySem.W PyProof.Rows PySem.Calls PySem.SeqAt
set_option Elab.async false
set_option maxRecDepth 100000
set_option linter.unusedVariables false
set_option linter.unusedSimpArgs false
namespace Mine
variable {X : Cx} {n : Nat} {Γ : Led} {Q : V → Led → Prop}

theorem zip_idx {pm : List Str} {vs : List V} {x : Str} (h : vs.length = pm.length) : (pm.zip vs).lookup x = (idxOf pm x).bind fun i => vs[i]? := by
  unfold idxOf
  induction pm generalizing vs with
  | nil => simp
  | cons p pm ih =>
    cases vs with
    | nil => simp at h
    | cons v vs =>
      rw [List.zip_cons_cons, List.lookup_cons, List.findIdx?_cons]
      by_cases e : x = p
      · subst e; simp
      · rw [show (x == p) = false from by simpa using e, show (p == x) = false from by simpa using (fun z => e z.symm)]
        simp only [Bool.false_eq_true, if_false]
        rw [ih (by simpa using h)]
        cases List.findIdx? (fun y => y == x) pm <;> simp
theorem fn_is {f : Addr} {fd : FuncData} {body : List Stmt} {m : MSs} {T : Tab} {fu : Nat} {pm : List Str} {k : Nat} {par : List (Option Nat)}
    (tok : TabOk T X) (hkeep : keepIn X.K (.ref f) = true) (ho : ∃ oc od osl, X.K.lookup f = some ⟨oc, od, .func fd, osl⟩) (hcd : codeIn X.K fd.code fd.qualname = true) (hbody : fd.body = .stmts body) (hclo : fd.closure = []) (hg : fd.globals = mainGlobals) (hb : fd.builtins = builtinsNs)
    (hsc : scOk fd.scope pm = true) (hbind : ∀ vals : List Value, vals.length = pm.length → ∀ s : Shared, X.Ok → (∀ b o, X.hB.get? b = some o → s.heap.get? b = some o) → BindsTo s fd ⟨vals, []⟩ (pm.zip vals)) (htr : trSs T fu fd.scope body = some m)
    (hk : pm.length = k) (hp : (slotsOf fd.scope).map (idxOf pm) = par) : FnIs X f k par m := by
  refine ⟨hkeep, fun n vs Γ Q hl q => callC_fn tok ho hcd hbody hclo hg hb hsc hbind htr (by omega) ?_⟩
  have : initLoc fd.scope pm vs = par.map fun o => o.bind fun i => vs[i]? := by
    unfold initLoc
    rw [← hp, List.map_map]
    exact List.map_congr_left fun x _ => zip_idx (by omega)
  rw [this]
  exact q
theorem bd1 {pm : List Str} {fd : FuncData} (h1 : pm.length = 1) (h : ∀ a, bindArgs fd ⟨[a], []⟩ = pure (pm.zip [a])) (vals : List Value) (hl : vals.length = pm.length) (s : Shared) : BindsTo s fd ⟨vals, []⟩ (pm.zip vals) := by
  rw [h1] at hl
  match vals, hl with
  | [a], _ => exact BindsTo.of_eq (h a)
theorem bd2 {pm : List Str} {fd : FuncData} (h1 : pm.length = 2) (h : ∀ a b, bindArgs fd ⟨[a, b], []⟩ = pure (pm.zip [a, b])) (vals : List Value) (hl : vals.length = pm.length) (s : Shared) : BindsTo s fd ⟨vals, []⟩ (pm.zip vals) := by
  rw [h1] at hl
  match vals, hl with
  | [a, b], _ => exact BindsTo.of_eq (h a b)
theorem bd3 {pm : List Str} {fd : FuncData} (h1 : pm.length = 3) (h : ∀ a b c, bindArgs fd ⟨[a, b, c], []⟩ = pure (pm.zip [a, b, c])) (vals : List Value) (hl : vals.length = pm.length) (s : Shared) : BindsTo s fd ⟨vals, []⟩ (pm.zip vals) := by
  rw [h1] at hl
  match vals, hl with
  | [a, b, c], _ => exact BindsTo.of_eq (h a b c)
theorem bd5 {pm : List Str} {fd : FuncData} (h1 : pm.length = 5) (h : ∀ a b c d e, bindArgs fd ⟨[a, b, c, d, e], []⟩ = pure (pm.zip [a, b, c, d, e])) (vals : List Value) (hl : vals.length = pm.length) (s : Shared) : BindsTo s fd ⟨vals, []⟩ (pm.zip vals) := by
  rw [h1] at hl
  match vals, hl with
  | [a, b, c, d, e], _ => exact BindsTo.of_eq (h a b c d e)
end Mine


open PySem PySem.W PyProof.Rows PySem.Calls PySem.SeqAt
set_option Elab.async false
set_option maxRecDepth 100000
set_option linter.unusedVariables false
set_option linter.unusedSimpArgs false
namespace Mine
variable {X : Cx} {n : Nat} {Γ : Led} {Q : V → Led → Prop}

/-- the call of a law, from the top -/
theorem top_fn {f : Addr} {fd : FuncData} {body : List Stmt} {m : MSs} {T : Tab} {fu : Nat} {pm : List Str} {vs : List V} {A : Around} {s : Shared} {vs' : List Value} {R : Result → Shared → Prop}
    (tok : TabOk T X) (ho : ∃ oc od osl, X.K.lookup f = some ⟨oc, od, .func fd, osl⟩) (hcd : codeIn X.K fd.code fd.qualname = true) (hbody : fd.body = .stmts body) (hclo : fd.closure = []) (hg : fd.globals = mainGlobals) (hb : fd.builtins = builtinsNs)
    (hsc : scOk fd.scope pm = true) (hbind : ∀ vals : List Value, vals.length = pm.length → ∀ s : Shared, X.Ok → (∀ b o, X.hB.get? b = some o → s.heap.get? b = some o) → BindsTo s fd ⟨vals, []⟩ (pm.zip vals)) (htr : trSs T fu fd.scope body = some m)
    (hlen : vs.length = pm.length) (ok : X.Ok) (hhB : X.hB = s.heap) (rm : Room (n + 1) A) (rvs : VRs vs vs') (q : wpSs X n m (initLoc fd.scope pm vs) [] (FnPost fun v _ => v = .bool true))
    (kR : ∀ s' : Shared, (∀ b o, s.heap.get? b = some o → s'.heap.get? b = some o) → s'.gens = s.gens → s'.os = s.os → R (.ok (.ret (.bool true))) s') : codeAny X.M A (.call (.ref f) ⟨vs', []⟩) R s := by
  obtain ⟨oc, od, osl, ho⟩ := ho
  have S := ScOk.of hsc
  have base : ∀ b o, X.hB.get? b = some o → s.heap.get? b = some o := fun b o e => by rw [← hhB]; exact e
  have ho' := base _ _ (ok.kin _ _ ho)
  refine (codeAny_call_cellsB (by have := rm.depth; omega) ho' rfl (ok.nolimit.keeps base) ((codeRec_of ok.kin hcd).keeps base) hbody (hbind vs' (by rw [rvs.length, hlen]) s ok base) hclo ?_ ?_ S.co S.gen S.kind)
  · intro x hx
    have hp := (List.of_mem_zip (show (x.1, x.2) ∈ pm.zip vs' from hx)).1
    rcases S.ps _ hp with h | h
    · exact .inl h
    · exact .inr ⟨h, cellsFrom_some _ _ _ _ (.inr (mem_of_lookup h))⟩
  intro s₁ C
  obtain ⟨h₁, tk, rfl, kp⟩ := C.done
  generalize hce : callEnvC fd s.heap.objs.size f = ce at *
  have cl : ce.locals = s.heap.objs.size := by rw [← hce]; rfl
  have cs : ce.scope = fd.scope := by rw [← hce]; rfl
  have cg : ce.globals = mainGlobals := by rw [← hce]; exact hg
  have cb : ce.builtins = builtinsNs := by rw [← hce]; exact hb
  have cc : ce.cells = cellsFrom (s.heap.objs.size + 1) fd.scope.names [] := by rw [← hce]; rfl
  have ck : ∀ x, ce.kindOf x = fd.scope.names.lookup x := fun x => by rw [kindOf_eq, cs]
  have hBs : X.hB.objs.size ≤ s.heap.objs.size := by rw [hhB]; exact Nat.le_refl _
  have ff : ∀ a, footF ce a → s.heap.objs.size ≤ a := fun a ha => by
    rcases ha with rfl | ⟨x, hx, e⟩
    · exact Nat.le_of_eq cl.symm
    · have := C.above x a (PySem.mem_of_lookup e)
      rw [cl] at this
      exact Nat.le_of_lt this
  have ffn : ∀ a o, s.heap.get? a = some o → ¬ footF ce a := fun a o e z => absurd (Heap.lt_size e) (Nat.not_lt.mpr (ff a z))
  have ceo : EnvOk X ce := by
    refine ⟨by rw [cs]; exact S.kind, cg, cb, by rw [cs]; exact S.nd, fun x c hx e => ?_, fun x y c hx hy e1 e2 => ?_, by rw [cl]; exact hBs, fun a ha => Heap.get?_none_of_le (Nat.le_trans hBs (ff a ha))⟩
    · have := C.above x c (PySem.mem_of_lookup e)
      exact fun z => absurd this (by rw [z]; exact Nat.lt_irrefl _)
    · exact name_of_addr C.apart (PySem.mem_of_lookup e1) (PySem.mem_of_lookup e2)
  have slot : ∀ (i : Nat) x v, (slotsOf ce.scope)[i]? = some x → (initLoc fd.scope pm vs)[i]? = some (some v) → ∃ v', (x, v') ∈ pm.zip vs' ∧ VR v v' := fun i x v hx hv => by
    rw [cs] at hx
    unfold initLoc at hv
    rw [List.getElem?_map, hx, Option.map_some, Option.some.injEq] at hv
    exact rvs.zip_mem hv
  have nd := zip_nodup (vs := vs') S.pnd
  have Ic : Invt X ce (initLoc fd.scope pm vs) [] h₁ := by
    refine ⟨fun b o e => kp b o (base b o e), ⟨⟨_, C.toInCall.ns, fun i x v hx hk hv => ?_⟩, fun x hx => ?_, fun i x v hx hk hv => ?_⟩, fun e he => absurd he (by simp), by simp [keys], fun k hk => absurd hk (by simp [keys])⟩
    · obtain ⟨v', hm, r⟩ := slot i x v hx hv
      exact ⟨v', bindL_in nd hm hk, r⟩
    · have : ((ce.cells).lookup x).isSome = true := by
        rw [cc]
        exact cellsFrom_some _ _ _ _ (.inr (mem_of_lookup (by rw [← ck]; exact hx)))
      obtain ⟨c, hc⟩ := Option.isSome_iff_exists.mp this
      exact ⟨c, _, hc, C.cell x c hc⟩
    · obtain ⟨v', hm, r⟩ := slot i x v hx hv
      have : ((ce.cells).lookup x).isSome = true := by
        rw [cc]
        exact cellsFrom_some _ _ _ _ (.inr (mem_of_lookup (by rw [← ck]; exact hk)))
      obtain ⟨c, hc⟩ := Option.isSome_iff_exists.mp this
      refine ⟨c, v', hc, ?_, r⟩
      have := C.cell x c hc
      rw [bindC_in nd hm (by rw [hk]; exact fun z => by cases z)] at this
      exact this
  have rm' : Room n (A.deeper ce) := ⟨rm.hd, by have := rm.depth; show A.depth + 1 + n < _; omega, by have := rm.units; show A.units + 3 + 8 * n < _; omega⟩
  have tr : trSs T fu ce.scope body = some m := by rw [cs]; exact htr
  refine wpNever (sound (n := n) tok tr _ _ _ q (A.deeper ce) { s with heap := h₁, toks := tk } _ ok ceo rm' Ic fun fl fl' l Γ' s' hq hr I' T => ?_)
  have kp2 : ∀ b o, s.heap.get? b = some o → s'.heap.get? b = some o := fun b o e => T.keep b o (kp b o e) (ffn b o e) (by simp [keys])
  cases fl with
  | next =>
    obtain ⟨_, _, hq⟩ := hq
    cases hq
  | brk => exact hq.elim
  | ret v =>
    obtain ⟨v', rfl, rv⟩ := hr
    obtain ⟨_, _, rfl⟩ := hq
    cases (show v' = .bool true from rv)
    exact kR s' kp2 T.gens T.os
end Mine


open PySem PySem.W PyProof.Rows
set_option Elab.async false
namespace Mine
set_option maxRecDepth 100000 in
set_option maxHeartbeats 8000000 in
open_top hd for PySem.Challenge.rw_ae6026_01
end Mine


open PySem PySem.W PyProof.Rows PySem.Calls PySem.SeqAt
set_option Elab.async false
set_option maxRecDepth 100000
set_option linter.unusedVariables false
set_option linter.unusedSimpArgs false
namespace Mine
def T3g : List (Str × Value) := [("rsPoly_LUT", .ref 50), ("EXP_TABLE", .ref 107), ("LOG_TABLE", .ref 108), ("glog", .ref 115), ("gexp", .ref 122), ("Polynomial", .ref 172), ("RSBlock", .ref 244), ("BitBuffer", .ref 297), ("create_bytes", .ref 306), ("_wall", .ref 49), ("_law_draw", .ref 313), ("_law_times", .ref 320), ("_law_lift", .ref 327), ("_law_octets", .ref 334), ("_law_finder", .ref 339)]
def Tb : List (Str × Value) := [("len", .builtin "len"), ("max", .builtin "max"), ("isinstance", .builtin "isinstance"), ("iter", .builtin "iter"), ("issubclass", .builtin "issubclass"), ("sum", .builtin "sum"), ("sorted", .builtin "sorted"), ("range", .type "range"), ("enumerate", .type "enumerate"), ("zip", .type "zip"), ("reversed", .type "reversed"), ("list", .type "list"), ("tuple", .type "tuple"), ("int", .type "int"), ("bool", .type "bool"), ("type", .type "type")]
def At : List Str := ["num", "buffer", "length", "data_count", "total_count", "index", "append", "extend", "put", "put_bit", "__new__", "__getitem__", "pop", "reverse", "get", "sort", "items", "values", "keys"]
def T3 : Tab := { glob := T3g ++ Tb, at_ := At }
/-- the names in a list are found in a dict of the fragment -/
def seesAll (K : Frag) (l : List (Str × Value)) : Bool := match K.lookup mainGlobals with
  | some o => match o.data with
    | .dict es _ => l.all fun p => nsFind es p.1 == some p.2
    | _ => false
  | none => false
def lacksAll (K : Frag) (l : List (Str × Value)) : Bool := match K.lookup mainGlobals with
  | some o => match o.data with
    | .dict es _ => l.all fun p => nsFind es p.1 == none
    | _ => false
  | none => false
variable (p : Params)
theorem k_sees : seesAll (hd.heap_39 p) T3g = true := by rfl
theorem k_lacks : lacksAll (hd.heap_39 p) Tb = true := by rfl
end Mine


open PySem PySem.W PyProof.Rows PySem.Calls PySem.SeqAt
set_option Elab.async false
set_option maxRecDepth 100000
set_option linter.unusedVariables false
set_option linter.unusedSimpArgs false
namespace Mine

theorem ns_of_all {K : Frag} {h : Heap} {m : Str → Option Value} {l : List (Str × Value)} (hk : K.In h) (hn : h.Ns mainGlobals m) (e : seesAll K l = true) : ∀ x v, (x, v) ∈ l → m x = some v := by
  unfold seesAll at e
  intro x v hm
  cases q : K.lookup mainGlobals with
  | none => rw [q] at e; cases e
  | some o =>
    rw [q] at e
    obtain ⟨o', es, ep, ho, hd, _, hf⟩ := hn
    have := hk _ _ q
    rw [ho] at this
    cases this
    simp only [hd] at e
    have := List.all_eq_true.mp e _ hm
    rw [← hf]
    exact beq_iff_eq.mp this
theorem ns_none_all {K : Frag} {h : Heap} {m : Str → Option Value} {l : List (Str × Value)} (hk : K.In h) (hn : h.Ns mainGlobals m) (e : lacksAll K l = true) : ∀ x v, (x, v) ∈ l → m x = none := by
  unfold lacksAll at e
  intro x v hm
  cases q : K.lookup mainGlobals with
  | none => rw [q] at e; cases e
  | some o =>
    rw [q] at e
    obtain ⟨o', es, ep, ho, hd, _, hf⟩ := hn
    have := hk _ _ q
    rw [ho] at this
    cases this
    simp only [hd] at e
    have := List.all_eq_true.mp e _ hm
    rw [← hf]
    exact beq_iff_eq.mp this
theorem boot_all : ∀ q ∈ Tb, q.1 ≠ "__name__" ∧ bootBuiltins q.1 = some q.2 := by decide +kernel
variable (w : World) (h : Heap) (mg mb : Str → Option Value)
noncomputable def X3 : Cx := ⟨Challenge.rw_ae6026_01.row.prog, w, hd.heap_39 w.params, h, mg, mb, At⟩
variable {w h mg mb}
theorem tok3 (hb : ∀ x : Str, x ≠ "__name__" → mb x = bootBuiltins x) : TabOk T3 (X3 w h mg mb) := by
  refine ⟨rfl, fun ok x v e => ?_⟩
  have hm := PySem.mem_of_lookup e
  rcases List.mem_append.mp hm with hm | hm
  · exact .inl (ns_of_all ok.kin ok.g (k_sees w.params) x v hm)
  · refine .inr ⟨ns_none_all ok.kin ok.g (k_lacks w.params) x v hm, ?_⟩
    have := boot_all _ hm
    show mb x = _
    rw [hb x this.1]
    exact this.2
theorem f115 (tok : TabOk T3 (X3 w h mg mb)) : FnIs (X3 w h mg mb) 115 1 [some 0] m_glog := fn_is (pm := ["n"]) (fu := 60) tok (by rfl) ⟨_, _, _, rfl⟩ (by rfl) rfl rfl rfl rfl (by rfl) (fun vals hl s _ _ => bd1 rfl (fun a => rfl) vals hl s) (by rfl) rfl rfl
end Mine


open PySem PySem.W PyProof.Rows PySem.Calls PySem.SeqAt
set_option Elab.async false
set_option maxRecDepth 100000
set_option linter.unusedVariables false
set_option linter.unusedSimpArgs false
namespace Mine
variable {w : World} {h : Heap} {mg mb : Str → Option Value}
theorem f122 (tok : TabOk T3 (X3 w h mg mb)) : FnIs (X3 w h mg mb) 122 1 [some 0] m_gexp := fn_is (pm := ["n"]) (fu := 60) tok (by rfl) ⟨_, _, _, rfl⟩ (by rfl) rfl rfl rfl rfl (by rfl) (fun vals hl s _ _ => bd1 rfl (fun a => rfl) vals hl s) (by rfl) rfl rfl
theorem f136 (tok : TabOk T3 (X3 w h mg mb)) : FnIs (X3 w h mg mb) 136 3 [some 0, some 1, some 2, none] m_init := fn_is (pm := ["self", "num", "shift"]) (fu := 60) tok (by rfl) ⟨_, _, _, rfl⟩ (by rfl) rfl rfl rfl rfl (by rfl) (fun vals hl s _ _ => bd3 rfl (fun a b c => rfl) vals hl s) (by rfl) rfl rfl
theorem f143 (tok : TabOk T3 (X3 w h mg mb)) : FnIs (X3 w h mg mb) 143 2 [some 0, some 1] m_pget := fn_is (pm := ["self", "index"]) (fu := 60) tok (by rfl) ⟨_, _, _, rfl⟩ (by rfl) rfl rfl rfl rfl (by rfl) (fun vals hl s _ _ => bd2 rfl (fun a b => rfl) vals hl s) (by rfl) rfl rfl
theorem f150 (tok : TabOk T3 (X3 w h mg mb)) : FnIs (X3 w h mg mb) 150 1 [some 0] m_piter := fn_is (pm := ["self"]) (fu := 60) tok (by rfl) ⟨_, _, _, rfl⟩ (by rfl) rfl rfl rfl rfl (by rfl) (fun vals hl s _ _ => bd1 rfl (fun a => rfl) vals hl s) (by rfl) rfl rfl
theorem f157 (tok : TabOk T3 (X3 w h mg mb)) : FnIs (X3 w h mg mb) 157 1 [some 0] m_plen := fn_is (pm := ["self"]) (fu := 60) tok (by rfl) ⟨_, _, _, rfl⟩ (by rfl) rfl rfl rfl rfl (by rfl) (fun vals hl s _ _ => bd1 rfl (fun a => rfl) vals hl s) (by rfl) rfl rfl
theorem f164 (tok : TabOk T3 (X3 w h mg mb)) : FnIs (X3 w h mg mb) 164 2 [some 0, some 1, none, none, none, none, none] m_pmul := fn_is (pm := ["self", "other"]) (fu := 60) tok (by rfl) ⟨_, _, _, rfl⟩ (by rfl) rfl rfl rfl rfl (by rfl) (fun vals hl s _ _ => bd2 rfl (fun a b => rfl) vals hl s) (by rfl) rfl rfl
theorem f169 (tok : TabOk T3 (X3 w h mg mb)) : FnIs (X3 w h mg mb) 169 2 [some 0, some 1, none, none, none] m_pmod := fn_is (pm := ["self", "other"]) (fu := 60) tok (by rfl) ⟨_, _, _, rfl⟩ (by rfl) rfl rfl rfl rfl (by rfl) (fun vals hl s _ _ => bd2 rfl (fun a b => rfl) vals hl s) (by rfl) rfl rfl
theorem f261 (tok : TabOk T3 (X3 w h mg mb)) : FnIs (X3 w h mg mb) 261 1 [some 0] m_binit := fn_is (pm := ["self"]) (fu := 60) tok (by rfl) ⟨_, _, _, rfl⟩ (by rfl) rfl rfl rfl rfl (by rfl) (fun vals hl s _ _ => bd1 rfl (fun a => rfl) vals hl s) (by rfl) rfl rfl
theorem f280 (tok : TabOk T3 (X3 w h mg mb)) : FnIs (X3 w h mg mb) 280 3 [some 0, some 1, some 2, none] m_bput := fn_is (pm := ["self", "num", "length"]) (fu := 60) tok (by rfl) ⟨_, _, _, rfl⟩ (by rfl) rfl rfl rfl rfl (by rfl) (fun vals hl s _ _ => bd3 rfl (fun a b c => rfl) vals hl s) (by rfl) rfl rfl
theorem f294 (tok : TabOk T3 (X3 w h mg mb)) : FnIs (X3 w h mg mb) 294 2 [some 0, some 1, none] m_bbit := fn_is (pm := ["self", "bit"]) (fu := 60) tok (by rfl) ⟨_, _, _, rfl⟩ (by rfl) rfl rfl rfl rfl (by rfl) (fun vals hl s _ _ => bd2 rfl (fun a b => rfl) vals hl s) (by rfl) rfl rfl
theorem f287 (tok : TabOk T3 (X3 w h mg mb)) : FnIs (X3 w h mg mb) 287 1 [some 0] m_blen := fn_is (pm := ["self"]) (fu := 60) tok (by rfl) ⟨_, _, _, rfl⟩ (by rfl) rfl rfl rfl rfl (by rfl) (fun vals hl s _ _ => bd1 rfl (fun a => rfl) vals hl s) (by rfl) rfl rfl
theorem f194 (tok : TabOk T3 (X3 w h mg mb)) : FnIs (X3 w h mg mb) 194 3 [some 0, some 1, some 2] m_rnew := fn_is (pm := ["_cls", "total_count", "data_count"]) (fu := 60) tok (by rfl) ⟨_, _, _, rfl⟩ (by rfl) rfl rfl rfl rfl (by rfl) (fun vals hl s _ _ => bd3 rfl (fun a b c => rfl) vals hl s) (by rfl) rfl rfl
theorem f306 (tok : TabOk T3 (X3 w h mg mb)) : FnIs (X3 w h mg mb) 306 2 [some 0, some 1, none, none, none, none, none, none, none, none, none, none, none, none, none, none, none, none, none, none, none] m_create := fn_is (pm := ["buffer", "rs_blocks"]) (fu := 60) tok (by rfl) ⟨_, _, _, rfl⟩ (by rfl) rfl rfl rfl rfl (by rfl) (fun vals hl s _ _ => bd2 rfl (fun a b => rfl) vals hl s) (by rfl) rfl rfl
theorem f313 (tok : TabOk T3 (X3 w h mg mb)) : FnIs (X3 w h mg mb) 313 3 [some 0, some 1, some 2, none] m_draw := fn_is (pm := ["script", "place", "most"]) (fu := 60) tok (by rfl) ⟨_, _, _, rfl⟩ (by rfl) rfl rfl rfl rfl (by rfl) (fun vals hl s _ _ => bd3 rfl (fun a b c => rfl) vals hl s) (by rfl) rfl rfl
theorem f320 (tok : TabOk T3 (X3 w h mg mb)) : FnIs (X3 w h mg mb) 320 2 [some 0, some 1] m_times := fn_is (pm := ["a", "b"]) (fu := 60) tok (by rfl) ⟨_, _, _, rfl⟩ (by rfl) rfl rfl rfl rfl (by rfl) (fun vals hl s _ _ => bd2 rfl (fun a b => rfl) vals hl s) (by rfl) rfl rfl
theorem f327 (tok : TabOk T3 (X3 w h mg mb)) : FnIs (X3 w h mg mb) 327 2 [some 0, some 1, none] m_lift := fn_is (pm := ["a", "steps"]) (fu := 60) tok (by rfl) ⟨_, _, _, rfl⟩ (by rfl) rfl rfl rfl rfl (by rfl) (fun vals hl s _ _ => bd2 rfl (fun a b => rfl) vals hl s) (by rfl) rfl rfl
theorem f334 (tok : TabOk T3 (X3 w h mg mb)) : FnIs (X3 w h mg mb) 334 2 [some 0, some 1, none] m_oct := fn_is (pm := ["told", "count"]) (fu := 60) tok (by rfl) ⟨_, _, _, rfl⟩ (by rfl) rfl rfl rfl rfl (by rfl) (fun vals hl s _ _ => bd2 rfl (fun a b => rfl) vals hl s) (by rfl) rfl rfl
theorem f339 (tok : TabOk T3 (X3 w h mg mb)) : FnIs (X3 w h mg mb) 339 1 [some 0, none, none, none, none, none, none, none, none] m_fnd := fn_is (pm := ["sums"]) (fu := 60) tok (by rfl) ⟨_, _, _, rfl⟩ (by rfl) rfl rfl rfl rfl (by rfl) (fun vals hl s _ _ => bd1 rfl (fun a => rfl) vals hl s) (by rfl) rfl rfl
theorem f85 (tok : TabOk T3 (X3 w h mg mb)) : FnIs (X3 w h mg mb) 85 3 [some 0, some 1, some 2] m_tget := fn_is (pm := ["self", "obj", "objtype"]) (fu := 60) tok (by rfl) ⟨_, _, _, rfl⟩ (by rfl) rfl rfl rfl rfl (by rfl) (fun vals hl s ok kp => by
  match vals, hl with
  | [a, b, c], _ => exact binds_K (ok.kin.keeps kp) rfl rfl rfl rfl rfl) (by rfl) rfl rfl
end Mine


open PySem PySem.W PyProof.Rows PySem.Calls PySem.SeqAt
set_option Elab.async false
set_option maxRecDepth 100000
set_option linter.unusedVariables false
set_option linter.unusedSimpArgs false
namespace Mine
variable {w : World} {h : Heap} {mg mb : Str → Option Value}

def vrInts : List Int → List Value → Bool
  | [], [] => true
  | i :: is, v :: vs => (match v with | .int k _ => k == i | _ => false) && vrInts is vs
  | _, _ => false
theorem vrInts_ok : ∀ {is : List Int} {vs : List Value}, vrInts is vs = true → VRs (intsV is) vs
  | [], [], _ => .nil
  | i :: is, v :: vs, e => by
    unfold vrInts at e
    rw [Bool.and_eq_true] at e
    cases v with
    | int k t =>
      cases (show k = i from beq_iff_eq.mp e.1)
      exact .cons ⟨t, rfl⟩ (vrInts_ok e.2)
    | _ => cases e.1
  | [], _ :: _, e => by cases e
  | _ :: _, [], e => by cases e
theorem bl_of {X : Cx} {a : Addr} {is : List Int} {vs : List Value} {n : Nat} (e : X.K.lookup a = some { cls := .type "list", data := .seq vs.toArray n }) (r : vrInts is vs = true) : BaseList X a (intsV is) :=
  fun ok => ⟨vs, n, ok.kin _ _ e, vrInts_ok r⟩
theorem b108 : BaseList (X3 w h mg mb) 108 (intsV logI) := bl_of (n := _) (vs := _) (by rfl) (by rfl)
theorem b107 : BaseList (X3 w h mg mb) 107 (intsV expI) := bl_of (n := _) (vs := _) (by rfl) (by rfl)
theorem b51 : BaseList (X3 w h mg mb) 51 (ns [1, 127, 122, 154, 164, 11, 68, 117]) := bl_of (is := [1, 127, 122, 154, 164, 11, 68, 117]) (n := _) (vs := _) (by rfl) (by rfl)
def dict50 (K : Frag) : Array DictEntry := match K.lookup 50 with
  | some o => match o.data with
    | .dict es _ => es
    | _ => #[]
  | none => #[]
def intKeys (es : List DictEntry) : Bool := es.all fun e => match e.key with
  | .int k _ => e.hash == hashInt k
  | _ => false
theorem intKeys_ok {es : Array DictEntry} (e : intKeys es.toList = true) : PySem.IntKeys es := by
  intro x hx
  have := List.all_eq_true.mp e x (by simpa using hx)
  cases q : x.key with
  | int k t => rw [q] at this; exact ⟨k, t, rfl, beq_iff_eq.mp this⟩
  | _ => rw [q] at this; cases this
theorem lut3 : ∃ f, BaseDict (X3 w h mg mb) 50 f ∧ (∀ e : Nat, 1 ≤ e → e ≤ 4 → f e = none) ∧ f 7 = some (.ref 51) := by
  refine ⟨fun k => findBy Value.isInt (dict50 (hd.heap_39 w.params)) k, fun ok => ?_, fun e h1 h4 => ?_, by rfl⟩
  · obtain ⟨o, e, c, d⟩ : ∃ o, (hd.heap_39 w.params).lookup 50 = some o ∧ o.cls = .type "dict" ∧ ∃ ep, o.data = .dict (dict50 (hd.heap_39 w.params)) ep := ⟨_, rfl, rfl, _, rfl⟩
    obtain ⟨ep, d⟩ := d
    exact ⟨o, _, ep, ok.kin _ _ e, c, d, intKeys_ok (by rfl), fun k => rfl⟩
  · have : e = 1 ∨ e = 2 ∨ e = 3 ∨ e = 4 := by omega
    rcases this with rfl | rfl | rfl | rfl <;> rfl
theorem at_is {i : Nat} {x y : Str} (h : At[i]? = some x) (e : At[i]? = some y) : y = x := Option.some.inj (e.symm.trans h)
variable (tok : TabOk T3 (X3 w h mg mb))
include tok
theorem polyK3 : PolyK (X3 w h mg mb) where
  nd := by show At.Nodup; decide +kernel
  cls := ⟨by rfl, fun x => by rfl, by rfl, by rfl, by rfl, by rfl, by rfl⟩
  num := fun x e => by cases at_is e (i := 0) rfl; rfl
  init := by rfl
  initF := f136 tok
  kcls := by rfl
theorem polyF3 : PolyF (X3 w h mg mb) where
  toPolyK := polyK3 tok
  glog := f115 tok
  gexp := f122 tok
  lt := b108
  et := b107
  get := by rfl
  getN := by rfl
  getF := f143 tok
  iter := by rfl
  iterF := f150 tok
  len := by rfl
  lenF := f157 tok
  mul := by rfl
  mulF := f164 tok
  mod := by rfl
  modF := f169 tok
  ext := fun x e => by cases at_is e (i := 7) rfl; exact PySem.F.slot_list_extend
  app := fun x e => by cases at_is e (i := 6) rfl; exact PySem.F.slot_list_append
theorem bufF3 : BufF (X3 w h mg mb) where
  nd := by show At.Nodup; decide +kernel
  cls := ⟨by rfl, fun x => by rfl, by rfl, by rfl, by rfl, by rfl, by rfl⟩
  f1 := fun x e => by cases at_is e (i := 1) rfl; rfl
  f2 := fun x e => by cases at_is e (i := 2) rfl; rfl
  init := by rfl
  initF := f261 tok
  kcls := by rfl
  put := fun x e => by cases at_is e (i := 8) rfl; rfl
  putF := f280 tok
  bit := fun x e => by cases at_is e (i := 9) rfl; rfl
  bitF := f294 tok
  len := by rfl
  lenF := f287 tok
  app := fun x e => by cases at_is e (i := 6) rfl; exact PySem.F.slot_list_append
theorem rsF3 : RsF (X3 w h mg mb) where
  tupc := by rfl
  p3 := fun x e => by cases at_is e (i := 3) rfl; rfl
  p4 := fun x e => by cases at_is e (i := 4) rfl; rfl
  getF := f85 tok
  isc := by rfl
  sub := by rfl
  i3 := fun x e => by cases at_is e (i := 5) rfl; rfl
  i4 := fun x e => by cases at_is e (i := 5) rfl; rfl
  fget := fun x e => by cases at_is e (i := 11) rfl; rfl
  subc := by rfl
  rd := by rfl
  fnew := by rfl
  snew := ⟨_, by rfl⟩
  newF := f194 tok
  tnew := fun x e => by cases at_is e (i := 10) rfl; rfl
  kcls := by rfl
theorem lawF1 : LawF1 (X3 w h mg mb) where
  cb := ⟨polyF3 tok, bufF3 tok, rsF3 tok, lut3, b51, f306 tok⟩
  draw := f313 tok
  times := f320 tok
  lift := f327 tok
  octs := f334 tok
  find := f339 tok
  pop := fun x e => by cases at_is e (i := 12) rfl; exact PySem.F.slot_list_pop
  rev := fun x e => by cases at_is e (i := 13) rfl; exact PySem.F.slot_list_reverse
  get := fun x e => by cases at_is e (i := 14) rfl; exact PySem.F.slot_dict_get
  sub := by rfl
  eq := by rfl
end Mine


open PySem PySem.W PyProof.Rows PySem.Calls PySem.SeqAt
set_option Elab.async false
set_option maxRecDepth 100000
set_option linter.unusedVariables false
set_option linter.unusedSimpArgs false
namespace Mine
theorem ints_vrs : ∀ {vs : List Value} {is : List Int}, IntsAre vs is → VRs (intsV is) vs
  | _, _, .nil => .nil
  | _, _, .cons n t r => .cons ⟨t, rfl⟩ (ints_vrs r)
theorem sees_law (p : Params) : seesAll (hd.heap_39 p) [("law", .ref 344)] = true := by rfl
theorem roomA : Room 16 callerA := ⟨rfl, by decide +kernel, by decide +kernel⟩
/-- the law, called -/
theorem law1 {w : World} {s : Shared} {mg mb : Str → Option Value} {fa sa : Addr} {vs : List Value} {sc : List Int} {R : Result → Shared → Prop} (hK : (hd.heap_39 w.params).In s.heap) (hg : s.heap.Ns mainGlobals mg) (hb : s.heap.Ns builtinsNs mb) (nl : s.heap.NoLimit)
    (hbb : ∀ x : Str, x ≠ "__name__" → mb x = bootBuiltins x) (hl : mg "law" = some (.ref fa)) (hL : s.heap.IsList sa vs.toArray) (hI : IntsAre vs sc) (hlen : sc.length ≤ 63)
    (kR : ∀ s' : Shared, (∀ b o, s.heap.get? b = some o → s'.heap.get? b = some o) → s'.gens = s.gens → s'.os = s.os → R (.ok (.ret (.bool true))) s') :
    codeAny (model Challenge.rw_ae6026_01.row.prog w) callerA (.call (.ref fa) ⟨[.ref sa], []⟩) R s := by
  have e := ns_of_all hK hg (sees_law w.params) "law" _ (.head _)
  rw [hl] at e
  cases e
  have tok := tok3 (w := w) (h := s.heap) (mg := mg) hbb
  have scr : Scr (X3 w s.heap mg mb) sa sc := fun _ => ⟨vs, hL, ints_vrs hI⟩
  refine top_fn (X := X3 w s.heap mg mb) (n := 15) (T := T3) (fu := 60) (m := k_law) (vs := [.ref sa]) (pm := ["script"]) tok ⟨_, _, _, rfl⟩ (by rfl) rfl rfl rfl rfl (by rfl) (fun vals hl s _ _ => bd1 rfl (fun a => rfl) vals hl s) (by rfl) rfl ⟨hK, nl, hg, hb⟩ rfl roomA (.cons rfl .nil) ?_ kR
  exact s0 (lawF1 tok) scr hlen
end Mine


open PySem PySem.W PyProof.Rows
set_option Elab.async false
set_option linter.unusedVariables false
set_option maxRecDepth 100000 in
set_option maxHeartbeats 8000000 in
theorem PySem.Challenge.cw_ae6026_01_holds : PySem.Challenge.rw_ae6026_01.Holds :=
  Mine.hd (by
  k_fill
  intro w s₀ s₁ mg mb G Y fa o pm cd doc dV kV ho hd hcd hD hmg hg args vals as hpre hlay hrd hwl hlo
  have KX := kIn_of Y
  refine Ground.open G ?_
  intro T B D TE TW
  wrow_args hpre hlay hrd hwl hlo
  all_goals (
    first | refine callC_kw (enter_call ?_) | refine enter_call ?_)
  all_goals w_top on
  rename_i hL _ _ _ hI _ hlen _
  refine codeAny_mono ?_ (fun _ _ g => GoodW.toG g)
  refine Mine.law1 KX (Top.g T) (Top.b T) (Top.nolimit T) (Top.builtins T) hmg hL hI (by omega) fun s' keep gens os => ?_
  refine ⟨.inl ⟨_, .bool true, [], rfl, raisesW_false ?_, .bool true, ?_, fun _ => ⟨.nil, fun a h => by cases h⟩⟩, keep, os, gens.trans hg⟩
  · wrow_none_raised
  · wrow_post)

