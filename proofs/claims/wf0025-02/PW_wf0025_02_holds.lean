import PyProof.Rows.All
import Wide.All
import OpenK.AllK
import Wide.FinOn
import KE.BytesMake
import KE.KBytesCut
import PyProof.TupleOfStr
import Lean
import PySem.Challenge.RW_wf0025_02
open PySem PySem.W PyProof.Rows PySem.Spec PySem.Calls
set_option Elab.async false
section
set_option maxRecDepth 100000
namespace Mine

/-! values, state -/
inductive AV where
  | con (v : Value)
  | bool (b : Bool)
  | int (i : Int)
  | str (s : Str)
  | bytes (b : List Nat)
  | tup (vs : List AV)
  | blist (vs : List AV)
  | ref (id : Nat)
  deriving Inhabited

inductive AO where
  | list (xs : List AV)
  | barr (b : List Nat)
  deriving Inhabited

noncomputable abbrev St := List AO
noncomputable abbrev Fm := List (Option AV)

noncomputable def bytesArr (b : List Nat) : Array UInt8 := (b.map Nat.toUInt8).toArray
noncomputable abbrev tupObj (items : List Value) (n : Nat) : Obj := { cls := .type "tuple", data := .seq items.toArray n }
noncomputable abbrev lstObj (items : List Value) (n : Nat) : Obj := { cls := .type "list", data := .seq items.toArray n }
noncomputable abbrev barObj (b : List Nat) : Obj := { cls := .type "bytearray", data := .bytearray (bytesArr b) 0 }

mutual
inductive Rep (g : Heap) (φ : Nat → Addr) (n : Nat) (h : Heap) : AV → Value → Prop
  | con (v : Value) : Rep g φ n h (.con v) v
  | bool (b : Bool) : Rep g φ n h (.bool b) (.bool b)
  | int (i : Int) (t : Tok) : Rep g φ n h (.int i) (.int i t)
  | str (s : Str) (t : Tok) : Rep g φ n h (.str s) (.str s t)
  | bytes (b : List Nat) (t : Tok) (hb : ∀ x ∈ b, x < 256) : Rep g φ n h (.bytes b) (.bytes (bytesArr b) t)
  | tup {vs : List AV} {items : List Value} {a : Addr} {k : Nat} (ha : h.get? a = some (tupObj items k)) (hr : Reps g φ n h vs items) : Rep g φ n h (.tup vs) (.ref a)
  | blist {vs : List AV} {items : List Value} {a : Addr} (ha : g.IsList a items.toArray) (hr : Reps g φ n h vs items) : Rep g φ n h (.blist vs) (.ref a)
  | ref (id : Nat) (hid : id < n) : Rep g φ n h (.ref id) (.ref (φ id))
inductive Reps (g : Heap) (φ : Nat → Addr) (n : Nat) (h : Heap) : List AV → List Value → Prop
  | nil : Reps g φ n h [] []
  | cons {a : AV} {v : Value} {as : List AV} {vs : List Value} : Rep g φ n h a v → Reps g φ n h as vs → Reps g φ n h (a :: as) (v :: vs)
end

inductive ORep (g : Heap) (φ : Nat → Addr) (n : Nat) (h : Heap) : AO → Obj → Prop
  | list {xs : List AV} {items : List Value} {k : Nat} (hr : Reps g φ n h xs items) : ORep g φ n h (.list xs) (lstObj items k)
  | barr {b : List Nat} (hb : ∀ x ∈ b, x < 256) : ORep g φ n h (.barr b) (barObj b)

structure Rel (g : Heap) (φ : Nat → Addr) (σ : St) (h : Heap) : Prop where
  objs : ∀ id o, σ[id]? = some o → ∃ ob, h.get? (φ id) = some ob ∧ ORep g φ σ.length h o ob
  inj : ∀ i j, i < σ.length → j < σ.length → φ i = φ j → i = j
  base : ∀ b o, g.get? b = some o → h.get? b = some o
  fresh : ∀ id, id < σ.length → g.get? (φ id) = none

noncomputable def mutObj (o : Obj) : Prop := (o.cls = .type "list" ∧ ∃ xs n, o.data = .seq xs n) ∨ (o.cls = .type "bytearray" ∧ ∃ b k, o.data = .bytearray b k)

theorem ORep.mut {g φ n h ao ob} (x : ORep g φ n h ao ob) : mutObj ob := by
  cases x with
  | list _ => exact .inl ⟨rfl, _, _, rfl⟩
  | barr _ => exact .inr ⟨rfl, _, _, rfl⟩
theorem not_mut_tup (items n) : ¬ mutObj (tupObj items n) := by
  rintro (⟨h, _⟩ | ⟨h, _⟩) <;> simp at h
theorem not_mut_dict {o : Obj} {es ep} (h : o.data = .dict es ep) : ¬ mutObj o := by
  rintro (⟨_, _, _, h'⟩ | ⟨_, _, _, h'⟩) <;> rw [h] at h' <;> cases h'
theorem not_mut_cell {o : Obj} {v} (h : o.data = .cell v) : ¬ mutObj o := by
  rintro (⟨_, _, _, h'⟩ | ⟨_, _, _, h'⟩) <;> rw [h] at h' <;> cases h'
theorem not_mut_fields {o : Obj} {v} (h : o.data = .fields v) : ¬ mutObj o := by
  rintro (⟨_, _, _, h'⟩ | ⟨_, _, _, h'⟩) <;> rw [h] at h' <;> cases h'

theorem Rel.apart {g φ σ h} (R : Rel g φ σ h) {b o} (e : h.get? b = some o) (hm : ¬ mutObj o) : ∀ id, id < σ.length → φ id ≠ b := by
  intro id hid hb
  obtain ⟨ob, hob, hr⟩ := R.objs id σ[id] (List.getElem?_eq_getElem hid)
  rw [hb, e] at hob
  cases hob
  exact hm hr.mut

noncomputable def Keep (φ : Nat → Addr) (n : Nat) (h h' : Heap) : Prop := ∀ b o, h.get? b = some o → (∀ id, id < n → φ id ≠ b) → h'.get? b = some o

structure Ext (g : Heap) (φ : Nat → Addr) (σ : St) (h : Heap) (φ' : Nat → Addr) (σ' : St) (h' : Heap) : Prop where
  rel0 : Rel g φ σ h
  rel : Rel g φ' σ' h'
  agree : ∀ id, id < σ.length → φ' id = φ id
  le : σ.length ≤ σ'.length
  keep : Keep φ σ.length h h'
  new : ∀ id, σ.length ≤ id → id < σ'.length → h.get? (φ' id) = none

theorem Ext.refl {g φ σ h} (R : Rel g φ σ h) : Ext g φ σ h φ σ h :=
  ⟨R, R, fun _ _ => rfl, Nat.le_refl _, fun _ _ e _ => e, fun _ h1 h2 => absurd h2 (Nat.not_lt.mpr h1)⟩

theorem Ext.get {g φ σ h φ' σ' h'} (X : Ext g φ σ h φ' σ' h') {b o} (e : h.get? b = some o) (hm : ¬ mutObj o) : h'.get? b = some o :=
  X.keep b o e (X.rel0.apart e hm)

theorem Ext.trans {g φ σ h φ' σ' h' φ'' σ'' h''} (X : Ext g φ σ h φ' σ' h') (Y : Ext g φ' σ' h' φ'' σ'' h'') : Ext g φ σ h φ'' σ'' h'' := by
  refine ⟨X.rel0, Y.rel, fun id hid => (Y.agree id (Nat.lt_of_lt_of_le hid X.le)).trans (X.agree id hid), Nat.le_trans X.le Y.le, fun b o e hb => ?_, fun id h1 h2 => ?_⟩
  · refine Y.keep b o (X.keep b o e hb) fun id hid hφ => ?_
    by_cases hlt : id < σ.length
    · exact hb id hlt (by rw [← X.agree id hlt]; exact hφ)
    · have := X.new id (Nat.not_lt.mp hlt) hid
      rw [hφ, e] at this
      cases this
  · by_cases hlt : id < σ'.length
    · rw [Y.agree id hlt]
      exact X.new id h1 hlt
    · have hn := Y.new id (Nat.not_lt.mp hlt) h2
      cases hq : h.get? (φ'' id) with
      | none => rfl
      | some o =>
        exfalso
        by_cases hmut : ∃ i, i < σ.length ∧ φ i = φ'' id
        · obtain ⟨i, hi, he⟩ := hmut
          obtain ⟨ob, hob, _⟩ := Y.rel0.objs i (σ'[i]'(Nat.lt_of_lt_of_le hi X.le)) (List.getElem?_eq_getElem (Nat.lt_of_lt_of_le hi X.le))
          rw [X.agree i hi, he, hn] at hob
          cases hob
        · have := X.keep _ _ hq fun i hi he => hmut ⟨i, hi, he⟩
          rw [hn] at this
          cases this

mutual
theorem Rep.ext {g φ σ h φ' σ' h'} (X : Ext g φ σ h φ' σ' h') : ∀ {a v}, Rep g φ σ.length h a v → Rep g φ' σ'.length h' a v
  | _, _, .con v => .con v
  | _, _, .bool b => .bool b
  | _, _, .int i t => .int i t
  | _, _, .str s t => .str s t
  | _, _, .bytes b t hb => .bytes b t hb
  | _, _, .tup ha hr => .tup (X.get ha (not_mut_tup _ _)) (Reps.ext X hr)
  | _, _, .blist ha hr => .blist ha (Reps.ext X hr)
  | _, _, .ref id hid => by
    have := Rep.ref (g := g) (φ := φ') (n := σ'.length) (h := h') id (Nat.lt_of_lt_of_le hid X.le)
    rw [X.agree id hid] at this
    exact this
theorem Reps.ext {g φ σ h φ' σ' h'} (X : Ext g φ σ h φ' σ' h') : ∀ {as vs}, Reps g φ σ.length h as vs → Reps g φ' σ'.length h' as vs
  | _, _, .nil => .nil
  | _, _, .cons a b => .cons (Rep.ext X a) (Reps.ext X b)
end

mutual
theorem Rep.keeps {g φ n h φ' n' h'} (ha : ∀ id, id < n → φ' id = φ id) (hn : n ≤ n') (hk : ∀ a items k, h.get? a = some (tupObj items k) → h'.get? a = some (tupObj items k)) : ∀ {a v}, Rep g φ n h a v → Rep g φ' n' h' a v
  | _, _, .con v => .con v
  | _, _, .bool b => .bool b
  | _, _, .int i t => .int i t
  | _, _, .str s t => .str s t
  | _, _, .bytes b t hb => .bytes b t hb
  | _, _, .tup e hr => .tup (hk _ _ _ e) (Reps.keeps ha hn hk hr)
  | _, _, .blist e hr => .blist e (Reps.keeps ha hn hk hr)
  | _, _, .ref id hid => by
    have := Rep.ref (g := g) (φ := φ') (n := n') (h := h') id (Nat.lt_of_lt_of_le hid hn)
    rw [ha id hid] at this
    exact this
theorem Reps.keeps {g φ n h φ' n' h'} (ha : ∀ id, id < n → φ' id = φ id) (hn : n ≤ n') (hk : ∀ a items k, h.get? a = some (tupObj items k) → h'.get? a = some (tupObj items k)) : ∀ {as vs}, Reps g φ n h as vs → Reps g φ' n' h' as vs
  | _, _, .nil => .nil
  | _, _, .cons a b => .cons (Rep.keeps ha hn hk a) (Reps.keeps ha hn hk b)
end
theorem ORep.keeps {g φ n h φ' n' h'} (ha : ∀ id, id < n → φ' id = φ id) (hn : n ≤ n') (hk : ∀ a items k, h.get? a = some (tupObj items k) → h'.get? a = some (tupObj items k)) {a o} (x : ORep g φ n h a o) : ORep g φ' n' h' a o := by
  cases x with
  | list hr => exact .list (Reps.keeps ha hn hk hr)
  | barr hb => exact .barr hb

theorem Reps.length {g φ n h} {as : List AV} {vs : List Value} (x : Reps g φ n h as vs) : vs.length = as.length := by
  induction as generalizing vs with
  | nil => cases x; rfl
  | cons a as ih => cases x with | cons h1 h2 => simp [ih h2]
theorem Reps.get {g φ n h} {as : List AV} {vs : List Value} (x : Reps g φ n h as vs) : ∀ {i : Nat} {a : AV}, as[i]? = some a → ∃ v, vs[i]? = some v ∧ Rep g φ n h a v := by
  induction as generalizing vs with
  | nil => intro i a e; simp at e
  | cons b as ih =>
    cases x with
    | cons h1 h2 =>
      intro i a e
      cases i with
      | zero => simp at e; subst e; exact ⟨_, rfl, h1⟩
      | succ i => simp at e; simpa using ih h2 e
theorem Reps.append {g φ n h} {as : List AV} {vs : List Value} {bs : List AV} {ws : List Value} (x : Reps g φ n h as vs) (y : Reps g φ n h bs ws) : Reps g φ n h (as ++ bs) (vs ++ ws) := by
  induction as generalizing vs with
  | nil => cases x; exact y
  | cons a as ih => cases x with | cons h1 h2 => exact .cons h1 (ih h2)
theorem Reps.take {g φ n h} {as : List AV} {vs : List Value} (x : Reps g φ n h as vs) (k : Nat) : Reps g φ n h (as.take k) (vs.take k) := by
  induction as generalizing vs k with
  | nil => cases x; simpa using Reps.nil
  | cons a as ih => cases x with
    | cons h1 h2 => cases k with
      | zero => exact .nil
      | succ k => exact .cons h1 (ih h2 k)
theorem Reps.drop {g φ n h} {as : List AV} {vs : List Value} (x : Reps g φ n h as vs) (k : Nat) : Reps g φ n h (as.drop k) (vs.drop k) := by
  induction as generalizing vs k with
  | nil => cases x; simpa using Reps.nil
  | cons a as ih => cases x with
    | cons h1 h2 => cases k with
      | zero => exact .cons h1 h2
      | succ k => exact ih h2 k
theorem Reps.snoc {g φ n h} {as : List AV} {vs : List Value} {a v} (x : Reps g φ n h as vs) (y : Rep g φ n h a v) : Reps g φ n h (as ++ [a]) (vs ++ [v]) := x.append (.cons y .nil)
theorem Reps.set {g φ n h} {as : List AV} {vs : List Value} (x : Reps g φ n h as vs) {a v} (y : Rep g φ n h a v) (k : Nat) : Reps g φ n h (as.set k a) (vs.set k v) := by
  induction as generalizing vs k with
  | nil => cases x; simpa using Reps.nil
  | cons b as ih => cases x with
    | cons h1 h2 => cases k with
      | zero => exact .cons y h2
      | succ k => exact .cons h1 (ih h2 k)

/-! a step that only makes objects or changes nothing of ours -/
theorem Ext.grow {g φ σ h h'} (R : Rel g φ σ h) (hk : ∀ b o, h.get? b = some o → h'.get? b = some o) : Ext g φ σ h φ σ h' := by
  refine ⟨R, ⟨fun id o e => ?_, R.inj, fun b o e => hk _ _ (R.base b o e), R.fresh⟩, fun _ _ => rfl, Nat.le_refl _, fun b o e _ => hk b o e, fun _ h1 h2 => absurd h2 (Nat.not_lt.mpr h1)⟩
  obtain ⟨ob, hob, hr⟩ := R.objs id o e
  exact ⟨ob, hk _ _ hob, hr.keeps (fun _ _ => rfl) (Nat.le_refl _) fun a items k e => hk _ _ e⟩

/-- a new list (or bytearray) of ours at the address A -/
noncomputable def φput (φ : Nat → Addr) (n : Nat) (A : Addr) : Nat → Addr := fun i => if i = n then A else φ i
theorem φput_old {φ n A i} (h : i < n) : φput φ n A i = φ i := if_neg (Nat.ne_of_lt h)
theorem φput_new {φ n A} : φput φ n A n = A := if_pos rfl

theorem Ext.made {g φ σ h h' A ao ob} (R : Rel g φ σ h) (hk : ∀ b o, h.get? b = some o → h'.get? b = some o) (hA : h.get? A = none) (hob : h'.get? A = some ob)
    (hr : ORep g φ σ.length h' ao ob) : Ext g φ σ h (φput φ σ.length A) (σ ++ [ao]) h' := by
  have hgA : g.get? A = none := by
    cases e : g.get? A with
    | none => rfl
    | some o => have := R.base _ _ e; rw [hA] at this; cases this
  have hne : ∀ i, i < σ.length → φ i ≠ A := fun i hi e => by
    obtain ⟨ob', hob', _⟩ := R.objs i σ[i] (List.getElem?_eq_getElem hi)
    rw [e, hA] at hob'; cases hob'
  refine ⟨R, ⟨fun id o e => ?_, fun i j hi hj e => ?_, fun b o e => hk _ _ (R.base b o e), fun id hid => ?_⟩, fun id hid => φput_old hid, by simp, fun b o e _ => hk b o e, fun id h1 h2 => ?_⟩
  · rw [List.length_append, List.length_singleton]
    have keepR : ∀ {a o}, ORep g φ σ.length h' a o → ORep g (φput φ σ.length A) (σ.length + 1) h' a o := fun x =>
      x.keeps (fun id hid => φput_old hid) (Nat.le_succ _) fun _ _ _ e => e
    by_cases hlt : id < σ.length
    · rw [List.getElem?_append_left hlt] at e
      obtain ⟨ob', hob', hr'⟩ := R.objs id o e
      rw [φput_old hlt]
      exact ⟨ob', hk _ _ hob', keepR (hr'.keeps (fun _ _ => rfl) (Nat.le_refl _) fun a items k e => hk _ _ e)⟩
    · have hid : id = σ.length := by
        have := (List.getElem?_eq_some_iff.mp e).1
        rw [List.length_append, List.length_singleton] at this
        omega
      subst hid
      rw [List.getElem?_append_right (Nat.le_refl _), Nat.sub_self] at e
      cases e
      rw [φput_new]
      exact ⟨ob, hob, keepR hr⟩
  · rw [List.length_append, List.length_singleton] at hi hj
    by_cases h1 : i = σ.length
    · by_cases h2 : j = σ.length
      · omega
      · rw [h1, φput_new, φput_old (by omega)] at e
        exact absurd e.symm (hne j (by omega))
    · by_cases h2 : j = σ.length
      · rw [h2, φput_new, φput_old (by omega)] at e
        exact absurd e (hne i (by omega))
      · rw [φput_old (by omega), φput_old (by omega)] at e
        exact R.inj i j (by omega) (by omega) e
  · rw [List.length_append, List.length_singleton] at hid
    by_cases h1 : id = σ.length
    · rw [h1, φput_new]; exact hgA
    · rw [φput_old (by omega)]; exact R.fresh id (by omega)
  · rw [List.length_append, List.length_singleton] at h2
    have : id = σ.length := by omega
    rw [this, φput_new]; exact hA

/-- an object of ours changed -/
theorem Ext.upd {g φ σ h h' id ao ob} (R : Rel g φ σ h) (hid : id < σ.length) (hk : ∀ b o, b ≠ φ id → h.get? b = some o → h'.get? b = some o) (hob : h'.get? (φ id) = some ob)
    (hr : ORep g φ σ.length h' ao ob) : Ext g φ σ h φ (σ.set id ao) h' := by
  have hlen : (σ.set id ao).length = σ.length := List.length_set ..
  have hbase : ∀ b o, g.get? b = some o → b ≠ φ id := fun b o e hb => by rw [hb, R.fresh id hid] at e; cases e
  have htup : ∀ a items k, h.get? a = some (tupObj items k) → h'.get? a = some (tupObj items k) := fun a items k e => hk _ _ (fun hb => R.apart e (not_mut_tup _ _) id hid hb.symm) e
  refine ⟨R, ⟨fun i o e => ?_, fun i j hi hj e => R.inj i j (by rwa [hlen] at hi) (by rwa [hlen] at hj) e, fun b o e => hk _ _ (hbase b o e) (R.base b o e), fun i hi => R.fresh i (by rwa [hlen] at hi)⟩, fun _ _ => rfl, by rw [hlen]; exact Nat.le_refl _,
    fun b o e hb => hk b o (fun e' => hb id hid e'.symm) e, fun i h1 h2 => absurd (by rwa [hlen] at h2) (Nat.not_lt.mpr h1)⟩
  rw [hlen]
  by_cases hi : i = id
  · subst hi
    rw [List.getElem?_set_self hid] at e
    cases e
    exact ⟨ob, hob, hr⟩
  · rw [List.getElem?_set_ne (fun h => hi h.symm)] at e
    obtain ⟨ob', hob', hr'⟩ := R.objs i o e
    have hlt : i < σ.length := (List.getElem?_eq_some_iff.mp e).1
    exact ⟨ob', hk _ _ (fun hb => hi (R.inj i id hlt hid hb)) hob', hr'.keeps (fun _ _ => rfl) (Nat.le_refl _) htup⟩

/-! the frame -/
noncomputable def Fm.get (ρ : Fm) (i : Nat) : Option AV := ρ.getD i none

structure EnvOK (nms : List (Str × NameKind)) (env : Env) : Prop where
  kind : env.scope.kind = .function
  names : env.scope.names = nms
  globals : env.globals = mainGlobals
  builtins : env.builtins = builtinsNs
  apart : ∀ x y c, env.cells.lookup x = some c → env.cells.lookup y = some c → x = y

noncomputable def VarOK (g : Heap) (φ : Nat → Addr) (n : Nat) (h : Heap) (env : Env) (m : Str → Option Value) (x : Str) (av : AV) : Prop :=
  (env.kindOf x = some .local ∧ ∃ v, m x = some v ∧ Rep g φ n h av v) ∨
  (env.kindOf x = some .cell ∧ ∃ c v, env.cells.lookup x = some c ∧ h.IsCell c (some v) ∧ Rep g φ n h av v)

structure FrameOK (g : Heap) (nm : List Str) (env : Env) (φ : Nat → Addr) (n : Nat) (h : Heap) (ρ : Fm) : Prop where
  vars : ∃ m, h.Ns env.locals m ∧ ∀ i av, Fm.get ρ i = some av → ∃ x, nm[i]? = some x ∧ VarOK g φ n h env m x av
  cells : ∀ x, env.kindOf x = some .cell → ∃ c ov, env.cells.lookup x = some c ∧ h.IsCell c ov ∧ g.get? c = none
  lf : g.get? env.locals = none

theorem Ext.ns {g φ σ h φ' σ' h'} (X : Ext g φ σ h φ' σ' h') {L m} (N : h.Ns L m) : h'.Ns L m := by
  obtain ⟨o, es, ep, e, d, r⟩ := N
  exact ⟨o, es, ep, X.get e (not_mut_dict d), d, r⟩
theorem Ext.cell {g φ σ h φ' σ' h'} (X : Ext g φ σ h φ' σ' h') {c v} (N : h.IsCell c v) : h'.IsCell c v := by
  obtain ⟨o, e, d⟩ := N
  exact ⟨o, X.get e (not_mut_cell d), d⟩
theorem FrameOK.ext {g φ σ h φ' σ' h' nm env ρ} (X : Ext g φ σ h φ' σ' h') (F : FrameOK g nm env φ σ.length h ρ) : FrameOK g nm env φ' σ'.length h' ρ := by
  obtain ⟨m, hn, hv⟩ := F.vars
  refine ⟨⟨m, X.ns hn, fun i av e => ?_⟩, fun x hx => ?_, F.lf⟩
  · obtain ⟨x, hx, hk⟩ := hv i av e
    refine ⟨x, hx, hk.imp (fun ⟨a, v, b, c⟩ => ⟨a, v, b, c.ext X⟩) fun ⟨a, c, v, b, d, r⟩ => ⟨a, c, v, b, X.cell d, r.ext X⟩⟩
  · obtain ⟨c, ov, h1, h2, h3⟩ := F.cells x hx
    exact ⟨c, ov, h1, X.cell h2, h3⟩

/-! room -/
structure Rm (A : Around) (k : Nat) : Prop where
  hd : A.handled = none
  dp : A.depth + k < recursionLimit
  un : A.units + 8 * k + 50 < cLine
theorem Rm.mono {A k k'} (h : Rm A k) (hk : k' ≤ k) : Rm A k' := ⟨h.hd, by have := h.dp; omega, by have := h.un; omega⟩

/-! what a tree does -/
section
variable (prog : Program) (w : World) (g : Heap)
noncomputable def Runs (A : Around) (s : Shared) (φ : Nat → Addr) (σ : St) (t : Sem Value) (r : Option (AV × St)) : Prop :=
  ∀ av σ', r = some (av, σ') → ∀ (Q E : Value → Shared → Prop), (∀ v h' tk φ', Ext g φ σ s.heap φ' σ' h' → Rep g φ' σ'.length h' av v → Q v { s with heap := h', toks := tk }) → wpAny (model prog w) A t Q E s
noncomputable def RunsL (A : Around) (s : Shared) (φ : Nat → Addr) (σ : St) (t : Sem (List Value)) (r : Option (List AV × St)) : Prop :=
  ∀ avs σ', r = some (avs, σ') → ∀ (Q : List Value → Shared → Prop) (E : Value → Shared → Prop), (∀ vs h' tk φ', Ext g φ σ s.heap φ' σ' h' → Reps g φ' σ'.length h' avs vs → Q vs { s with heap := h', toks := tk }) → wpAny (model prog w) A t Q E s
noncomputable def RunsB (A : Around) (s : Shared) (φ : Nat → Addr) (σ : St) (t : Sem Bool) (r : Option (Bool × St)) : Prop :=
  ∀ b σ', r = some (b, σ') → ∀ (Q : Bool → Shared → Prop) (E : Value → Shared → Prop), (∀ h' tk φ', Ext g φ σ s.heap φ' σ' h' → Q b { s with heap := h', toks := tk }) → wpAny (model prog w) A t Q E s

noncomputable abbrev EF := Fm → St → Option (AV × St)
noncomputable abbrev TF := Fm → St → Option (Bool × St)
noncomputable abbrev EFs := Fm → St → Option (List AV × St)

noncomputable def SimE (k : Nat) (nms : List (Str × NameKind)) (nm : List Str) (e : Expr) (f : EF) : Prop :=
  ∀ env A s φ ρ σ, EnvOK nms env → Rm A k → Rel g φ σ s.heap → FrameOK g nm env φ σ.length s.heap ρ → Runs prog w g A s φ σ (eval e env) (f ρ σ)
noncomputable def SimT (k : Nat) (nms : List (Str × NameKind)) (nm : List Str) (e : Expr) (f : TF) : Prop :=
  ∀ env A s φ ρ σ, EnvOK nms env → Rm A k → Rel g φ σ s.heap → FrameOK g nm env φ σ.length s.heap ρ → RunsB prog w g A s φ σ (isTrue e env (eval e env)) (f ρ σ)
noncomputable def SimEs (k : Nat) (nms : List (Str × NameKind)) (nm : List Str) (es : List Expr) (f : EFs) : Prop :=
  ∀ env A s φ ρ σ pos, EnvOK nms env → Rm A k → Rel g φ σ s.heap → FrameOK g nm env φ σ.length s.heap ρ → RunsL prog w g A s φ σ (spliced (backTo pos (starEach es env))) (f ρ σ)
end
end Mine
end
section
set_option maxRecDepth 100000
namespace Mine
section
variable {prog : Program} {w : World} {g : Heap} {k : Nat} {nms : List (Str × NameKind)} {nm : List Str}

theorem obind {α β : Type} {x : Option α} {f : α → Option β} {b : β} (h : x.bind f = some b) : ∃ a, x = some a ∧ f a = some b := by
  cases x with
  | none => cases h
  | some a => exact ⟨a, rfl, h⟩

/-! leaves -/
noncomputable def varE (i : Nat) : EF := fun ρ σ => (Fm.get ρ i).map fun v => (v, σ)
noncomputable def valE (a : AV) : EF := fun _ σ => some (a, σ)

theorem sim_var {x : Str} {pos : Pos} (i : Nat) (hx : nm[i]? = some x) (hd : (x == ("__debug__" : Str)) = false) : SimE prog w g k nms nm (.Name x pos) (varE i) := by
  intro env A s φ ρ σ eo _ R F av σ' e Q E h
  obtain ⟨v0, hv, e2⟩ : ∃ v0, Fm.get ρ i = some v0 ∧ (v0, σ) = (av, σ') := by
    unfold varE at e
    cases hv : Fm.get ρ i with
    | none => rw [hv] at e; cases e
    | some v0 => rw [hv] at e; exact ⟨v0, rfl, Option.some.inj e⟩
  injection e2 with e3 e4
  subst e3 e4
  obtain ⟨m, hn, hm⟩ := F.vars
  obtain ⟨x', hx', hk⟩ := hm i _ hv
  rw [hx] at hx'
  cases hx'
  rcases hk with ⟨hl, v, hmv, hr⟩ | ⟨hl, c, v, hc, hcell, hr⟩
  · exact wpAny_Name (wpAny_loadName_local eo.kind hl hn hmv (h v s.heap s.toks φ (Ext.refl R) hr)) hd
  · exact wpAny_Name (wpAny_loadName_cell eo.kind hl hc hcell (h v s.heap s.toks φ (Ext.refl R) hr)) hd

noncomputable def GlobIs (g : Heap) (x : Str) (v : Value) : Prop := ∃ mg mb, g.Ns mainGlobals mg ∧ g.Ns builtinsNs mb ∧ (mg x = some v ∨ (mg x = none ∧ mb x = some v))
theorem sim_glob {x : Str} {pos : Pos} (v : Value) (hk : nms.lookup x = some .globalImplicit) (hd : (x == ("__debug__" : Str)) = false) (hg : GlobIs g x v) : SimE prog w g k nms nm (.Name x pos) (valE (.con v)) := by
  intro env A s φ ρ σ eo _ R F av σ' e Q E h
  cases e
  obtain ⟨mg, mb, h1, h2, h3⟩ := hg
  have fin := h v s.heap s.toks φ (Ext.refl R) (.con v)
  have hkd : env.kindOf x = some .globalImplicit := by
    unfold Env.kindOf
    rw [eo.names]; exact hk
  rcases h3 with h3 | ⟨h3, h4⟩
  · exact Name_function_global eo.kind hkd (loadGlobal_global (env := env) (by rw [eo.globals]; exact h1.keeps R.base) h3 fin) hd
  · exact Name_function_global eo.kind hkd (loadGlobal_builtin (env := env) (by rw [eo.globals]; exact h1.keeps R.base) h3 (by rw [eo.builtins]; exact h2.keeps R.base) h4 fin) hd

theorem sim_int {i : Int} {kk : Nat} {pos : Pos} : SimE prog w g k nms nm (.Constant (.int i) kk pos) (valE (.int i)) := by
  intro env A s φ ρ σ _ _ R F av σ' e Q E h
  cases e
  exact wpAny_Constant_int (h _ s.heap _ φ (Ext.refl R) (.int _ _))
theorem sim_str {x : Str} {kk : Nat} {pos : Pos} : SimE prog w g k nms nm (.Constant (.str x) kk pos) (valE (.str x)) := by
  intro env A s φ ρ σ _ _ R F av σ' e Q E h
  cases e
  exact wpAny_Constant_str (h _ s.heap _ φ (Ext.refl R) (.str _ _))
theorem sim_bool {b : Bool} {kk : Nat} {pos : Pos} : SimE prog w g k nms nm (.Constant (.bool b) kk pos) (valE (.bool b)) := by
  intro env A s φ ρ σ _ _ R F av σ' e Q E h
  cases e
  exact wpAny_Constant_bool (h _ s.heap s.toks φ (Ext.refl R) (.bool _))
theorem sim_none {kk : Nat} {pos : Pos} : SimE prog w g k nms nm (.Constant .none kk pos) (valE (.con .none)) := by
  intro env A s φ ρ σ _ _ R F av σ' e Q E h
  cases e
  exact wpAny_Constant_none (h _ s.heap s.toks φ (Ext.refl R) (.con _))

/-! two operands -/
noncomputable abbrev BF := AV → AV → St → Option (AV × St)
noncomputable abbrev UF := AV → St → Option (AV × St)
noncomputable def binE (op : BF) (f1 f2 : EF) : EF := fun ρ σ => (f1 ρ σ).bind fun p => (f2 ρ p.2).bind fun q => op p.1 q.1 q.2
noncomputable def unE (op : UF) (f1 : EF) : EF := fun ρ σ => (f1 ρ σ).bind fun p => op p.1 p.2

variable (prog w g k) in
noncomputable def PrimB (t : Value → Value → Sem Value) (op : BF) : Prop :=
  ∀ A s φ σ a b va vb, Rm A k → Rel g φ σ s.heap → Rep g φ σ.length s.heap a va → Rep g φ σ.length s.heap b vb → Runs prog w g A s φ σ (t va vb) (op a b σ)
variable (prog w g k) in
noncomputable def PrimU (t : Value → Sem Value) (op : UF) : Prop :=
  ∀ A s φ σ a va, Rm A k → Rel g φ σ s.heap → Rep g φ σ.length s.heap a va → Runs prog w g A s φ σ (t va) (op a σ)

/-- two expressions one behind the other -/
theorem sim_two {env A s φ ρ σ f1 f2} {t1 t2 : Expr} {R1 : Value → Value → Sem Value} {op : BF}
    (h1 : SimE prog w g k nms nm t1 f1) (h2 : SimE prog w g k nms nm t2 f2) (hp : PrimB prog w g k R1 op) (eo : EnvOK nms env) (hA : Rm A k) (R : Rel g φ σ s.heap) (F : FrameOK g nm env φ σ.length s.heap ρ)
    {av σ'} (e : binE op f1 f2 ρ σ = some (av, σ')) {Q E : Value → Shared → Prop} (h : ∀ v h' tk φ', Ext g φ σ s.heap φ' σ' h' → Rep g φ' σ'.length h' av v → Q v { s with heap := h', toks := tk }) :
    wpAny (model prog w) A (eval t1 env) (fun a s₁ => wpAny (model prog w) A (eval t2 env) (fun b s₂ => wpAny (model prog w) A (R1 a b) Q E s₂) E s₁) E s := by
  obtain ⟨⟨a, σ1⟩, e1, e⟩ := obind e
  obtain ⟨⟨b, σ2⟩, e2, e3⟩ := obind e
  refine h1 env A s φ ρ σ eo hA R F a σ1 e1 _ _ fun va h₁ tk₁ φ₁ X₁ r₁ => ?_
  refine h2 env A _ φ₁ ρ σ1 eo hA X₁.rel (F.ext X₁) b σ2 e2 _ _ fun vb h₂ tk₂ φ₂ X₂ r₂ => ?_
  refine hp A _ φ₂ σ2 a b va vb hA X₂.rel (r₁.ext X₂) r₂ av σ' e3 _ _ fun v h₃ tk₃ φ₃ X₃ r₃ => ?_
  exact h v h₃ tk₃ φ₃ ((X₁.trans X₂).trans X₃) r₃

theorem sim_bin {l r : Expr} {op : Operator} {pos : Pos} {f1 f2 : EF} {bf : BF} (h1 : SimE prog w g k nms nm l f1) (h2 : SimE prog w g k nms nm r f2) (hp : PrimB prog w g k (binaryOp op) bf) :
    SimE prog w g k nms nm (.BinOp l op r pos) (binE bf f1 f2) :=
  fun _ _ _ _ _ _ eo hA R F _ _ e _ _ h => wpAny_BinOp (sim_two h1 h2 hp eo hA R F e h)
theorem sim_cmp {l r : Expr} {op : CmpOp} {pos : Pos} {f1 f2 : EF} {bf : BF} (h1 : SimE prog w g k nms nm l f1) (h2 : SimE prog w g k nms nm r f2) (hp : PrimB prog w g k (compareOp op) bf)
    (hm : behindInMarks op r = false) : SimE prog w g k nms nm (.Compare l [op] [r] pos) (binE bf f1 f2) :=
  fun _ _ _ _ _ _ eo hA R F _ _ e _ _ h => wpAny_Compare1 (sim_two h1 h2 hp eo hA R F e h) hm
theorem sim_un {x : Expr} {op : UnaryOp} {pos : Pos} {f1 : EF} {uf : UF} (h1 : SimE prog w g k nms nm x f1) (hp : PrimU prog w g k (unaryOp op) uf) :
    SimE prog w g k nms nm (.UnaryOp op x pos) (unE uf f1) := by
  intro env A s φ ρ σ eo hA R F av σ' e Q E h
  obtain ⟨⟨a, σ1⟩, e1, e⟩ := obind e
  refine wpAny_UnaryOp (h1 env A s φ ρ σ eo hA R F a σ1 e1 _ _ fun va h₁ tk₁ φ₁ X₁ r₁ => ?_)
  exact hp A _ φ₁ σ1 a va hA X₁.rel r₁ av σ' e _ _ fun v h₃ tk₃ φ₃ X₃ r₃ => h v h₃ tk₃ φ₃ (X₁.trans X₃) r₃

/-! displays -/
noncomputable def nilEs : EFs := fun _ σ => some ([], σ)
noncomputable def consEs (f : EF) (fs : EFs) : EFs := fun ρ σ => (f ρ σ).bind fun p => (fs ρ p.2).bind fun q => some (p.1 :: q.1, q.2)
theorem sims_nil : SimEs prog w g k nms nm [] nilEs := by
  intro env A s φ ρ σ pos _ _ R F av σ' e Q E h
  cases e
  exact wpAny_items_nil (h _ s.heap s.toks φ (Ext.refl R) .nil)
theorem sims_cons {e : Expr} {es : List Expr} {f : EF} {fs : EFs} (h1 : SimE prog w g k nms nm e f) (h2 : SimEs prog w g k nms nm es fs)
    (hs : ∀ env, starEach (e :: es) env = (false, eval e env) :: starEach es env) : SimEs prog w g k nms nm (e :: es) (consEs f fs) := by
  intro env A s φ ρ σ pos eo hA R F av σ' e Q E h
  obtain ⟨⟨a, σ1⟩, e1, e⟩ := obind e
  obtain ⟨⟨b, σ2⟩, e2, e3⟩ := obind e
  cases e3
  refine wpAny_items_cons (h1 env A s φ ρ σ eo hA R F a σ1 e1 _ _ fun va h₁ tk₁ φ₁ X₁ r₁ => ?_) (hs env)
  refine h2 env A _ φ₁ ρ σ1 pos eo hA X₁.rel (F.ext X₁) b σ2 e2 _ _ fun vb h₂ tk₂ φ₂ X₂ r₂ => ?_
  exact h _ h₂ tk₂ φ₂ (X₁.trans X₂) (.cons (r₁.ext X₂) r₂)

noncomputable def newL (xs : List AV) (σ : St) : Option (AV × St) := if xs.length ≤ 65536 then some (.ref σ.length, σ ++ [.list xs]) else none
noncomputable def lstE (fs : EFs) : EF := fun ρ σ => (fs ρ σ).bind fun p => newL p.1 p.2
noncomputable def tupE (fs : EFs) : EF := fun ρ σ => (fs ρ σ).bind fun p => if p.1.length ≤ 65536 then some (.tup p.1, p.2) else none

theorem szl {n : Nat} (h : n ≤ 65536) : n ≤ sizeLine := by
  have : sizeLine = 2 ^ 24 := rfl
  omega

theorem heap_push_none (h : Heap) : h.get? h.objs.size = none := by
  cases e : h.get? h.objs.size with
  | none => rfl
  | some o => exact absurd (Heap.lt_size e) (Nat.lt_irrefl _)

/-- a new list object, pushed -/
theorem Ext.newList {φ σ h} (R : Rel g φ σ h) {xs : List AV} {vs : List Value} (n : Nat) (r : Reps g φ σ.length h xs vs) :
    Ext g φ σ h (φput φ σ.length h.objs.size) (σ ++ [.list xs]) (h.push (lstObj vs n)) ∧ Rep g (φput φ σ.length h.objs.size) (σ ++ [AO.list xs]).length (h.push (lstObj vs n)) (.ref σ.length) (.ref h.objs.size) := by
  have hk : ∀ b o, h.get? b = some o → (h.push (lstObj vs n)).get? b = some o := fun b o e => Heap.get?_push_of_some _ e
  refine ⟨Ext.made R hk (heap_push_none h) (Heap.get?_push_size _ rfl) (ORep.list (r.keeps (fun _ _ => rfl) (Nat.le_refl _) fun a items k e => hk _ _ e)), ?_⟩
  have := Rep.ref (g := g) (φ := φput φ σ.length h.objs.size) (n := (σ ++ [AO.list xs]).length) (h := h.push (lstObj vs n)) σ.length (by simp)
  rw [φput_new] at this
  exact this

theorem Ext.push {φ σ h} (R : Rel g φ σ h) (o : Obj) : Ext g φ σ h φ σ (h.push o) := Ext.grow R fun _ _ e => Heap.get?_push_of_some _ e

theorem sim_list {es : List Expr} {pos : Pos} {fs : EFs} (h1 : SimEs prog w g k nms nm es fs) : SimE prog w g k nms nm (.List es pos) (lstE fs) := by
  intro env A s φ ρ σ eo hA R F av σ' e Q E h
  obtain ⟨⟨xs, σ1⟩, e1, e⟩ := obind e
  unfold newL at e
  dsimp only at e
  split at e
  · rename_i hsz
    cases e
    refine wpAny_List (h1 env A s φ ρ σ pos eo hA R F xs σ1 e1 _ _ fun vs h₁ tk₁ φ₁ X₁ r₁ => ⟨by rw [r₁.length]; exact szl hsz, ?_⟩)
    obtain ⟨X, r⟩ := Ext.newList X₁.rel 0 r₁
    exact h _ _ tk₁ _ (X₁.trans X) r
  · cases e
theorem sim_tup {es : List Expr} {kk : Nat} {pos : Pos} {fs : EFs} (h1 : SimEs prog w g k nms nm es fs) : SimE prog w g k nms nm (.Tuple es kk pos) (tupE fs) := by
  intro env A s φ ρ σ eo hA R F av σ' e Q E h
  obtain ⟨⟨xs, σ1⟩, e1, e⟩ := obind e
  dsimp only at e
  split at e
  · rename_i hsz
    injection e with e
    injection e with e2 e3
    subst e2 e3
    refine wpAny_Tuple (h1 env A s φ ρ σ pos eo hA R F xs _ e1 _ _ fun vs h₁ tk₁ φ₁ X₁ r₁ => ⟨by rw [r₁.length]; exact szl hsz, ?_⟩)
    have X := Ext.push X₁.rel (tupObj vs 0)
    exact h _ _ tk₁ φ₁ (X₁.trans X) (.tup (Heap.get?_push_size _ rfl) (r₁.ext X))
  · cases e

/-! tests -/
variable (prog w g k) in
noncomputable def PrimT (op : AV → St → Option Bool) : Prop :=
  ∀ A s φ σ a va, Rm A k → Rel g φ σ s.heap → Rep g φ σ.length s.heap a va → ∀ b, op a σ = some b → ∀ (Q : Bool → Shared → Prop) (E : Value → Shared → Prop), Q b s → wpAny (model prog w) A (truthy va) Q E s

noncomputable def ifE (t : TF) (f1 f2 : EF) : EF := fun ρ σ => (t ρ σ).bind fun p => if p.1 = true then f1 ρ p.2 else f2 ρ p.2
noncomputable def cmpT (op : BF) (f1 f2 : EF) : TF := fun ρ σ => (binE op f1 f2 ρ σ).bind fun p => match p.1 with | .bool b => some (b, p.2) | _ => none
noncomputable def notT (t : TF) : TF := fun ρ σ => (t ρ σ).bind fun p => some (!p.1, p.2)
noncomputable def truthV : AV → St → Option Bool
  | .bool b, _ => some b
  | .int i, _ => some (i != 0)
  | .con .none, _ => some false
  | _, _ => none
noncomputable def valT (f : EF) : TF := fun ρ σ => (f ρ σ).bind fun p => (truthV p.1 p.2).bind fun b => some (b, p.2)
noncomputable def andE (f1 f2 : EF) : EF := fun ρ σ => (f1 ρ σ).bind fun p => (truthV p.1 p.2).bind fun b => if b = true then f2 ρ p.2 else some p
theorem prim_truth : PrimT prog w g k truthV := by
  intro A s φ σ a va hA R r b e Q E h
  cases r with
  | bool b' => cases e; exact wpAny_truthy_bool h
  | int i t =>
    cases e
    exact truthy_int h
  | con _ =>
    cases va <;> first | cases e | skip
    exact fun Γ p hΓ => h
  | _ => cases e
theorem sim_ifexp {t b o : Expr} {pos : Pos} {ft : TF} {f1 f2 : EF} (h0 : SimT prog w g k nms nm t ft) (h1 : SimE prog w g k nms nm b f1) (h2 : SimE prog w g k nms nm o f2) :
    SimE prog w g k nms nm (.IfExp t b o pos) (ifE ft f1 f2) := by
  intro env A s φ ρ σ eo hA R F av σ' e Q E h
  obtain ⟨⟨c, σ1⟩, e1, e⟩ := obind e
  refine wpAny_IfExp (h0 env A s φ ρ σ eo hA R F c σ1 e1 _ _ fun h₁ tk₁ φ₁ X₁ => ?_)
  cases c with
  | true => exact h1 env A _ φ₁ ρ σ1 eo hA X₁.rel (F.ext X₁) av σ' e _ _ fun v h₂ tk₂ φ₂ X₂ r₂ => h v h₂ tk₂ φ₂ (X₁.trans X₂) r₂
  | false => exact h2 env A _ φ₁ ρ σ1 eo hA X₁.rel (F.ext X₁) av σ' e _ _ fun v h₂ tk₂ φ₂ X₂ r₂ => h v h₂ tk₂ φ₂ (X₁.trans X₂) r₂
theorem simt_cmp {l r : Expr} {op : CmpOp} {pos : Pos} {f1 f2 : EF} {bf : BF} (h1 : SimE prog w g k nms nm l f1) (h2 : SimE prog w g k nms nm r f2) (hp : PrimB prog w g k (compareOp op) bf)
    (hm : behindInMarks op r = false) : SimT prog w g k nms nm (.Compare l [op] [r] pos) (cmpT bf f1 f2) := by
  intro env A s φ ρ σ eo hA R F b σ' e Q E h
  obtain ⟨⟨a, σ1⟩, e1, e⟩ := obind e
  cases a with
  | bool b' =>
    cases e
    exact wpAny_isTrue_Compare1 (sim_two h1 h2 hp eo hA R F e1 fun v h' tk φ' X r => by cases r; exact wpAny_truthy_bool (h h' tk φ' X)) hm
  | _ => cases e
theorem simt_not {x : Expr} {pos : Pos} {t : TF} (h1 : SimT prog w g k nms nm x t) : SimT prog w g k nms nm (.UnaryOp .Not x pos) (notT t) := by
  intro env A s φ ρ σ eo hA R F b σ' e Q E h
  obtain ⟨⟨a, σ1⟩, e1, e⟩ := obind e
  cases e
  exact wpAny_isTrue_Not (h1 env A s φ ρ σ eo hA R F a σ1 e1 _ _ fun h' tk φ' X => h h' tk φ' X)
/-- any other expression as a test -/
theorem simt_val {x : Expr} {f : EF} (h1 : SimE prog w g k nms nm x f) (he : ∀ env whole, isTrue x env whole = (do let v ← whole; standAt x.pos; holding [v] (truthy v))) : SimT prog w g k nms nm x (valT f) := by
  intro env A s φ ρ σ eo hA R F b σ' e Q E h
  obtain ⟨⟨a, σ1⟩, e1, e⟩ := obind e
  obtain ⟨c, e2, e3⟩ := obind e
  cases e3
  exact wpAny_isTrue_value (h1 env A s φ ρ σ eo hA R F a σ1 e1 _ _ fun v h' tk φ' X r => prim_truth (k := k) A _ φ' σ1 a v hA X.rel r b e2 _ _ (h h' tk φ' X)) (he env _)
theorem sim_and {x y : Expr} {pos : Pos} {f1 f2 : EF} (h1 : SimE prog w g k nms nm x f1) (h2 : SimE prog w g k nms nm y f2) : SimE prog w g k nms nm (.BoolOp .And [x, y] pos) (andE f1 f2) := by
  intro env A s φ ρ σ eo hA R F av σ' e Q E h
  obtain ⟨⟨a, σ1⟩, e1, e⟩ := obind e
  obtain ⟨c, e2, e⟩ := obind e
  refine wpAny_And2 (h1 env A s φ ρ σ eo hA R F a σ1 e1 _ _ fun v h₁ tk₁ φ₁ X₁ r₁ => prim_truth (k := k) A _ φ₁ σ1 a v hA X₁.rel r₁ c e2 _ _ ?_)
  cases c with
  | true => exact h2 env A _ φ₁ ρ σ1 eo hA X₁.rel (F.ext X₁) av σ' e _ _ fun v h₂ tk₂ φ₂ X₂ r₂ => h v h₂ tk₂ φ₂ (X₁.trans X₂) r₂
  | false => cases e; exact h v h₁ tk₁ φ₁ X₁ r₁
/-! subscripts -/
theorem sim_sub {v i : Expr} {pos : Pos} {f1 f2 : EF} {bf : BF} (h1 : SimE prog w g k nms nm v f1) (h2 : SimE prog w g k nms nm i f2) (hp : PrimB prog w g k (subscriptTail v i) bf) :
    SimE prog w g k nms nm (.Subscript v i pos) (binE bf f1 f2) :=
  fun _ _ _ _ _ _ eo hA R F _ _ e _ _ h => Subscript_ (sim_two h1 h2 hp eo hA R F e h)
end
end Mine
end
section
set_option maxRecDepth 100000
namespace Mine

/-! a step that may turn the frame's own objects W -/
structure ExtW (g : Heap) (W : Addr → Prop) (φ : Nat → Addr) (σ : St) (h : Heap) (φ' : Nat → Addr) (σ' : St) (h' : Heap) : Prop where
  rel0 : Rel g φ σ h
  rel : Rel g φ' σ' h'
  agree : ∀ id, id < σ.length → φ' id = φ id
  le : σ.length ≤ σ'.length
  keep : ∀ b o, h.get? b = some o → (∀ id, id < σ.length → φ id ≠ b) → ¬ W b → h'.get? b = some o
  new : ∀ id, σ.length ≤ id → id < σ'.length → h.get? (φ' id) = none
  wd : ∀ b o, W b → h.get? b = some o → (∃ es ep, o.data = .dict es ep) ∨ ∃ v, o.data = .cell v
  live : ∀ b o, h.get? b = some o → ∃ o', h'.get? b = some o'

noncomputable def envW (env : Env) (b : Addr) : Prop := b = env.locals ∨ ∃ x, env.kindOf x = some .cell ∧ env.cells.lookup x = some b

/-- the frame object and the cells of these names -/
noncomputable def tgtW (env : Env) (xs : List Str) (b : Addr) : Prop := b = env.locals ∨ ∃ x, x ∈ xs ∧ env.kindOf x = some .cell ∧ env.cells.lookup x = some b
theorem tgtW.up {env xs b} (h : tgtW env xs b) : envW env b := h.imp (fun e => e) fun ⟨x, _, h1, h2⟩ => ⟨x, h1, h2⟩

noncomputable abbrev WD (W : Addr → Prop) (h : Heap) : Prop := ∀ b o, W b → h.get? b = some o → (∃ es ep, o.data = .dict es ep) ∨ ∃ v, o.data = .cell v
theorem WD.tup {W h} (x : WD W h) : ∀ b items k, W b → h.get? b ≠ some (tupObj items k) := by
  intro b items k hw e
  rcases x b _ hw e with ⟨es, ep, hd⟩ | ⟨v, hd⟩ <;> cases hd
theorem FrameOK.wk {g nm env φ n h ρ} (F : FrameOK g nm env φ n h ρ) : WD (envW env) h := by
  rintro b ob (rfl | ⟨x, hx, hc⟩) e
  · obtain ⟨m, ⟨o, es, ep, eo, ed, _⟩, _⟩ := F.vars
    rw [eo] at e; cases e; exact .inl ⟨es, ep, ed⟩
  · obtain ⟨c, ov, h1, ⟨o, eo, ed⟩, _⟩ := F.cells x hx
    rw [hc] at h1; cases h1
    rw [eo] at e; cases e; exact .inr ⟨ov, ed⟩

theorem FrameOK.wkT {g nm env φ n h ρ} (F : FrameOK g nm env φ n h ρ) (xs : List Str) : WD (tgtW env xs) h := fun b o hw e => F.wk b o hw.up e

theorem Ext.live {g φ σ h φ' σ' h'} (X : Ext g φ σ h φ' σ' h') : ∀ b o, h.get? b = some o → ∃ o', h'.get? b = some o' := by
  intro b o e
  by_cases hm : ∃ id, id < σ.length ∧ φ id = b
  · obtain ⟨id, hid, rfl⟩ := hm
    have hid' := Nat.lt_of_lt_of_le hid X.le
    obtain ⟨ob, hob, _⟩ := X.rel.objs id (σ'[id]'hid') (List.getElem?_eq_getElem hid')
    rw [X.agree id hid] at hob
    exact ⟨ob, hob⟩
  · exact ⟨o, X.keep b o e fun id hid he => hm ⟨id, hid, he⟩⟩

theorem Ext.toW {g W φ σ h φ' σ' h'} (X : Ext g φ σ h φ' σ' h') (wk : WD W h) : ExtW g W φ σ h φ' σ' h' :=
  ⟨X.rel0, X.rel, X.agree, X.le, fun b o e h1 _ => X.keep b o e h1, X.new, wk, X.live⟩

theorem ExtW.tup {g W φ σ h φ' σ' h'} (X : ExtW g W φ σ h φ' σ' h') {a items k} (e : h.get? a = some (tupObj items k)) : h'.get? a = some (tupObj items k) :=
  X.keep a _ e (X.rel0.apart e (not_mut_tup _ _)) fun hw => WD.tup X.wd a items k hw e
theorem ExtW.fields {g W φ σ h φ' σ' h'} (X : ExtW g W φ σ h φ' σ' h') {a o vs} (e : h.get? a = some o) (hd : o.data = .fields vs) : h'.get? a = some o :=
  X.keep a _ e (X.rel0.apart e (not_mut_fields hd)) fun hw => by rcases X.wd a o hw e with ⟨es, ep, h1⟩ | ⟨v, h1⟩ <;> rw [hd] at h1 <;> cases h1
theorem Rep.extW {g W φ σ h φ' σ' h'} (X : ExtW g W φ σ h φ' σ' h') {a v} (r : Rep g φ σ.length h a v) : Rep g φ' σ'.length h' a v := r.keeps X.agree X.le fun _ _ _ => X.tup
theorem Reps.extW {g W φ σ h φ' σ' h'} (X : ExtW g W φ σ h φ' σ' h') {a v} (r : Reps g φ σ.length h a v) : Reps g φ' σ'.length h' a v := r.keeps X.agree X.le fun _ _ _ => X.tup

theorem ExtW.trans {g W φ σ h φ' σ' h' φ'' σ'' h''} (X : ExtW g W φ σ h φ' σ' h') (Y : ExtW g W φ' σ' h' φ'' σ'' h'') : ExtW g W φ σ h φ'' σ'' h'' := by
  refine ⟨X.rel0, Y.rel, fun id hid => (Y.agree id (Nat.lt_of_lt_of_le hid X.le)).trans (X.agree id hid), Nat.le_trans X.le Y.le, fun b o e hb hw => ?_, fun id h1 h2 => ?_, X.wd, fun b o e => ?_⟩
  · refine Y.keep b o (X.keep b o e hb hw) (fun id hid hφ => ?_) hw
    by_cases hlt : id < σ.length
    · exact hb id hlt (by rw [← X.agree id hlt]; exact hφ)
    · have := X.new id (Nat.not_lt.mp hlt) hid
      rw [hφ, e] at this
      cases this
  · by_cases hlt : id < σ'.length
    · rw [Y.agree id hlt]
      exact X.new id h1 hlt
    · have hn := Y.new id (Nat.not_lt.mp hlt) h2
      cases hq : h.get? (φ'' id) with
      | none => rfl
      | some o =>
        obtain ⟨o', e'⟩ := X.live _ _ hq
        rw [hn] at e'
        cases e'
  · obtain ⟨o', e'⟩ := X.live b o e
    exact Y.live b o' e'

theorem ExtW.mono {g W W' φ σ h φ' σ' h'} (X : ExtW g W φ σ h φ' σ' h') (hw : ∀ b, W b → W' b) (wk : WD W' h) : ExtW g W' φ σ h φ' σ' h' :=
  ⟨X.rel0, X.rel, X.agree, X.le, fun b o e h1 h2 => X.keep b o e h1 fun h => h2 (hw b h), X.new, wk, X.live⟩
theorem ExtW.up {g env xs φ σ h φ' σ' h'} (X : ExtW g (tgtW env xs) φ σ h φ' σ' h') (wk : WD (envW env) h) : ExtW g (envW env) φ σ h φ' σ' h' := X.mono (fun _ => tgtW.up) wk

/-- one of the frame's own objects turned -/
theorem ExtW.own {g φ σ h h'} {W : Addr → Prop} {L : Addr} (R : Rel g φ σ h) (wk : WD W h) (hW : W L) {o : Obj} (eo : h.get? L = some o) (hm : ¬ mutObj o) (hg : g.get? L = none)
    {o' : Obj} (eo' : h'.get? L = some o') (hs : Heap.SameBut L h h') : ExtW g W φ σ h φ σ h' := by
  have hne : ∀ id, id < σ.length → φ id ≠ L := R.apart eo hm
  have other : ∀ b ob, b ≠ L → h.get? b = some ob → h'.get? b = some ob := fun b ob hb e => hs.extBut b ob hb e
  have htup : ∀ a items k, h.get? a = some (tupObj items k) → h'.get? a = some (tupObj items k) := fun a items k e => other a _ (fun hb => wk.tup a items k (hb ▸ hW) e) e
  refine ⟨R, ⟨fun id ob e => ?_, R.inj, fun b ob e => other b ob (fun hb => by rw [hb, hg] at e; cases e) (R.base b ob e), R.fresh⟩, fun _ _ => rfl, Nat.le_refl _, fun b ob e _ hw => other b ob (fun hb => hw (hb ▸ hW)) e,
    fun _ h1 h2 => absurd h2 (Nat.not_lt.mpr h1), wk, fun b ob e => ?_⟩
  · obtain ⟨ob', hob, hr⟩ := R.objs id ob e
    exact ⟨ob', other _ _ (hne id (List.getElem?_eq_some_iff.mp e).1) hob, hr.keeps (fun _ _ => rfl) (Nat.le_refl _) htup⟩
  · by_cases hb : b = L
    · subst hb; exact ⟨o', eo'⟩
    · exact ⟨ob, other b ob hb e⟩

/-! storing a name -/
noncomputable def Fm.put (ρ : Fm) (i : Nat) (a : AV) : Fm := ρ.set i (some a)
theorem Fm.get_put {ρ : Fm} {i j : Nat} {a b : AV} (h : Fm.get (Fm.put ρ i a) j = some b) : (j = i ∧ b = a) ∨ (j ≠ i ∧ Fm.get ρ j = some b) := by
  unfold Fm.get Fm.put at h
  rw [List.getD_eq_getElem?_getD, List.getElem?_set] at h
  by_cases hij : i = j
  · subst hij
    rw [if_pos rfl] at h
    split at h
    · exact .inl ⟨rfl, by simpa using h.symm⟩
    · cases h
  · rw [if_neg hij] at h
    exact .inr ⟨fun e => hij e.symm, by unfold Fm.get; rw [List.getD_eq_getElem?_getD]; exact h⟩

section
variable {prog : Program} {w : World} {g : Heap} {k : Nat} {nms : List (Str × NameKind)} {nm : List Str}

noncomputable def stKind (nms : List (Str × NameKind)) (x : Str) : Bool := nms.lookup x == some .local || nms.lookup x == some .cell

theorem sim_store {env A s φ ρ σ a va i x} (eo : EnvOK nms env) (R : Rel g φ σ s.heap) (F : FrameOK g nm env φ σ.length s.heap ρ) (r : Rep g φ σ.length s.heap a va) (hx : nm[i]? = some x) (hk : stKind nms x = true) (hnd : nm.Nodup) {xs : List Str} (hxs : x ∈ xs)
    {Q : Unit → Shared → Prop} {E : Value → Shared → Prop} (h : ∀ h' tk, ExtW g (tgtW env xs) φ σ s.heap φ σ h' → FrameOK g nm env φ σ.length h' (Fm.put ρ i a) → Q () { s with heap := h', toks := tk }) :
    wpAny (model prog w) A (storeName env x va) Q E s := by
  have hkd : env.kindOf x = some .local ∨ env.kindOf x = some .cell := by
    unfold stKind at hk
    rw [Bool.or_eq_true, beq_iff_eq, beq_iff_eq] at hk
    unfold Env.kindOf
    rw [eo.names]; exact hk
  have hpl : (env.scope.kind == .class || (env.scope.kind == .module && env.locals != env.globals)) = false := by rw [eo.kind]; rfl
  have hinj : ∀ j y, j ≠ i → nm[j]? = some y → y ≠ x := by
    intro j y hji hy hyx
    subst hyx
    exact hji ((List.getElem?_inj (List.getElem?_eq_some_iff.mp hy).1 hnd).mp (hy.trans hx.symm))
  obtain ⟨m, hn, hm⟩ := F.vars
  rcases hkd with hl | hl
  · refine wpAny_storeName_local hl hn (fun h' hn' hs => ?_) hpl
    obtain ⟨o, es, ep, eo1, ed, _⟩ := id hn
    obtain ⟨o', es', ep', eo2, ed', _⟩ := id hn'
    have X := ExtW.own R (F.wkT xs) (.inl rfl) eo1 (not_mut_dict ed) F.lf eo2 hs
    refine h h' _ X ⟨⟨_, hn', fun j av e => ?_⟩, fun y hy => ?_, F.lf⟩
    · rcases Fm.get_put e with ⟨rfl, rfl⟩ | ⟨hj, e⟩
      · exact ⟨x, hx, .inl ⟨hl, va, if_pos rfl, r.extW X⟩⟩
      · obtain ⟨y, hy, hv⟩ := hm j av e
        have hne := hinj j y hj hy
        refine ⟨y, hy, hv.imp (fun ⟨h1, v, h2, h3⟩ => ⟨h1, v, (if_neg hne).trans h2, h3.extW X⟩) fun ⟨h1, c, v, h2, ⟨oc, h3, h4⟩, h5⟩ => ⟨h1, c, v, h2, ⟨oc, (hs.2 c ?_).trans h3, h4⟩, h5.extW X⟩⟩
        intro hc
        rw [hc, eo1] at h3; cases h3; rw [ed] at h4; cases h4
    · obtain ⟨c, ov, h1, ⟨oc, h2, h3⟩, h4⟩ := F.cells y hy
      refine ⟨c, ov, h1, ⟨oc, (hs.2 c ?_).trans h2, h3⟩, h4⟩
      intro hc
      rw [hc, eo1] at h2; cases h2; rw [ed] at h3; cases h3
  · obtain ⟨c, ov, hc, hcell, hgc⟩ := F.cells x hl
    refine wpAny_storeName_cell eo.kind hl hc hcell fun h' hcell' hs => ?_
    obtain ⟨o, eo1, ed⟩ := id hcell
    obtain ⟨o', eo2, ed'⟩ := id hcell'
    have X := ExtW.own R (F.wkT xs) (.inr ⟨x, hxs, hl, hc⟩) eo1 (not_mut_cell ed) hgc eo2 hs
    have hLc : env.locals ≠ c := by
      obtain ⟨oL, es, ep, e1, e2, _⟩ := hn
      intro e
      rw [e, eo1] at e1; cases e1; rw [ed] at e2; cases e2
    refine h h' s.toks X ⟨⟨m, hn.sameBut hs hLc, fun j av e => ?_⟩, fun y hy => ?_, F.lf⟩
    · rcases Fm.get_put e with ⟨rfl, rfl⟩ | ⟨hj, e⟩
      · exact ⟨x, hx, .inr ⟨hl, c, va, hc, hcell', r.extW X⟩⟩
      · obtain ⟨y, hy, hv⟩ := hm j av e
        have hne := hinj j y hj hy
        refine ⟨y, hy, hv.imp (fun ⟨h1, v, h2, h3⟩ => ⟨h1, v, h2, h3.extW X⟩) fun ⟨h1, c', v, h2, h3, h5⟩ => ⟨h1, c', v, h2, h3.sameBut hs ?_, h5.extW X⟩⟩
        rintro rfl
        exact hne (eo.apart y x c' h2 hc)
    · by_cases hyx : y = x
      · subst hyx
        exact ⟨c, some va, hc, hcell', hgc⟩
      · obtain ⟨c', ov', h1, h2, h4⟩ := F.cells y hy
        refine ⟨c', ov', h1, h2.sameBut hs ?_, h4⟩
        rintro rfl
        exact hyx (eo.apart y x c' h1 hc)

/-! statements -/
inductive Fl where
  | next | brk | cont
  | ret (v : AV)
inductive FlRep (g : Heap) (φ : Nat → Addr) (n : Nat) (h : Heap) : Fl → Flow → Prop
  | next : FlRep g φ n h .next .next
  | brk : FlRep g φ n h .brk .brk
  | cont : FlRep g φ n h .cont .cont
  | ret {a v} (r : Rep g φ n h a v) : FlRep g φ n h (.ret a) (.ret v)
noncomputable abbrev SF := Fm → St → Option (Fl × Fm × St)

variable (prog w g) in
noncomputable def RunsS (nm : List Str) (env : Env) (A : Around) (s : Shared) (φ : Nat → Addr) (σ : St) (t : Sem Flow) (r : Option (Fl × Fm × St)) : Prop :=
  ∀ fl ρ' σ', r = some (fl, ρ', σ') → ∀ (Q : Flow → Shared → Prop) (E : Value → Shared → Prop),
    (∀ flc h' tk φ', ExtW g (envW env) φ σ s.heap φ' σ' h' → FlRep g φ' σ'.length h' fl flc → FrameOK g nm env φ' σ'.length h' ρ' → Q flc { s with heap := h', toks := tk }) → wpAny (model prog w) A t Q E s
variable (prog w g) in
noncomputable def SimS (k : Nat) (nms : List (Str × NameKind)) (nm : List Str) (st : Stmt) (f : SF) : Prop :=
  ∀ env A s φ ρ σ, EnvOK nms env → Rm A k → Rel g φ σ s.heap → FrameOK g nm env φ σ.length s.heap ρ → RunsS prog w g nm env A s φ σ (exec st env) (f ρ σ)
variable (prog w g) in
noncomputable def SimSs (k : Nat) (nms : List (Str × NameKind)) (nm : List Str) (sts : List Stmt) (f : SF) : Prop :=
  ∀ env A s φ ρ σ, EnvOK nms env → Rm A k → Rel g φ σ s.heap → FrameOK g nm env φ σ.length s.heap ρ → RunsS prog w g nm env A s φ σ (execs sts env) (f ρ σ)

noncomputable def skipS : SF := fun ρ σ => some (.next, ρ, σ)
noncomputable def seqS (f fs : SF) : SF := fun ρ σ => (f ρ σ).bind fun p => match p.1 with | .next => fs p.2.1 p.2.2 | _ => some p
theorem simss_nil : SimSs prog w g k nms nm [] skipS := by
  intro env A s φ ρ σ eo hA R F fl ρ' σ' e Q E h
  cases e
  exact wpAny_execs_nil (h _ s.heap s.toks φ ((Ext.refl R).toW F.wk) .next F)
theorem simss_cons {st : Stmt} {sts : List Stmt} {f fs : SF} (h1 : SimS prog w g k nms nm st f) (h2 : SimSs prog w g k nms nm sts fs) : SimSs prog w g k nms nm (st :: sts) (seqS f fs) := by
  intro env A s φ ρ σ eo hA R F fl ρ' σ' e Q E h
  obtain ⟨⟨c, ρ1, σ1⟩, e1, e⟩ := obind e
  refine wpAny_execs_cons (h1 env A s φ ρ σ eo hA R F c ρ1 σ1 e1 _ _ fun flc h₁ tk₁ φ₁ X₁ r₁ F₁ => ?_)
  cases r₁ with
  | next => exact h2 env A _ φ₁ ρ1 σ1 eo hA X₁.rel F₁ fl ρ' σ' e _ _ fun flc h₂ tk₂ φ₂ X₂ r₂ F₂ => h flc h₂ tk₂ φ₂ (X₁.trans X₂) r₂ F₂
  | brk => cases e; exact h _ h₁ tk₁ φ₁ X₁ .brk F₁
  | cont => cases e; exact h _ h₁ tk₁ φ₁ X₁ .cont F₁
  | ret r => cases e; exact h _ h₁ tk₁ φ₁ X₁ (.ret r) F₁

noncomputable def asgS (i : Nat) (f : EF) : SF := fun ρ σ => (f ρ σ).bind fun p => some (.next, Fm.put ρ i p.1, p.2)
theorem sims_assign {x : Str} {px pos : Pos} {e : Expr} (i : Nat) {f : EF} (h1 : SimE prog w g k nms nm e f) (hx : nm[i]? = some x) (hk : stKind nms x = true) (hnd : nm.Nodup)
    (hs : ∀ env, swapsWith e (some (.Name x px)) pos.line env = pure false) : SimS prog w g k nms nm (.Assign [.Name x px] e pos) (asgS i f) := by
  intro env A s φ ρ σ eo hA R F fl ρ' σ' e Q E h
  obtain ⟨⟨a, σ1⟩, e1, e⟩ := obind e
  cases e
  refine wpAny_Assign_Name (h1 env A s φ ρ σ eo hA R F a _ e1 _ _ fun v h₁ tk₁ φ₁ X₁ r₁ => ?_) (hs env)
  exact sim_store eo X₁.rel (F.ext X₁) r₁ hx hk hnd (List.mem_singleton_self x) fun h₂ tk₂ X₂ F₂ => h _ h₂ tk₂ φ₁ ((X₁.toW F.wk).trans (X₂.up (F.ext X₁).wk)) .next F₂

noncomputable def augS (i : Nat) (op : BF) (f : EF) : SF := fun ρ σ => (Fm.get ρ i).bind fun a => (f ρ σ).bind fun p => (op a p.1 p.2).bind fun q => some (.next, Fm.put ρ i q.1, q.2)
theorem sims_aug {x : Str} {px pos : Pos} {op : Operator} {ex : Expr} (i : Nat) {f : EF} {bf : BF} (h1 : SimE prog w g k nms nm ex f) (hp : PrimB prog w g k (inplaceOp op) bf) (hx : nm[i]? = some x) (hk : stKind nms x = true) (hnd : nm.Nodup) :
    SimS prog w g k nms nm (.AugAssign (.Name x px) op ex pos) (augS i bf f) := by
  intro env A s φ ρ σ eo hA R F fl ρ' σ' e Q E h
  obtain ⟨a0, e0, e⟩ := obind e
  obtain ⟨⟨a, σ1⟩, e1, e⟩ := obind e
  obtain ⟨⟨a2, σ2⟩, e2, e⟩ := obind e
  cases e
  refine wpAny_AugAssign_Name ?_
  obtain ⟨m, hn, hm⟩ := F.vars
  obtain ⟨x', hx', hv⟩ := hm i a0 e0
  rw [hx] at hx'
  cases hx'
  have rest : ∀ v0, Rep g φ σ.length s.heap a0 v0 → wpAny (model prog w) A (eval ex env) (fun v s₂ => wpAny (model prog w) A (inplaceOp op v0 v) (fun r s₃ => wpAny (model prog w) A (storeName env x r) (fun _ => Q .next) E s₃) E s₂) E s := by
    intro v0 r0
    refine h1 env A s φ ρ σ eo hA R F a _ e1 _ _ fun v h₁ tk₁ φ₁ X₁ r₁ => ?_
    refine hp A _ φ₁ σ1 a0 a v0 v hA X₁.rel (r0.ext X₁) r₁ a2 _ e2 _ _ fun v2 h₂ tk₂ φ₂ X₂ r₂ => ?_
    exact sim_store eo X₂.rel ((F.ext X₁).ext X₂) r₂ hx hk hnd (List.mem_singleton_self x) fun h₃ tk₃ X₃ F₃ => h _ h₃ tk₃ φ₂ (((X₁.trans X₂).toW F.wk).trans (X₃.up ((F.ext X₁).ext X₂).wk)) .next F₃
  rcases hv with ⟨hl, v0, hmv, hr⟩ | ⟨hl, c, v0, hc, hcell, hr⟩
  · exact wpAny_loadName_local eo.kind hl hn hmv (rest v0 hr)
  · exact wpAny_loadName_cell eo.kind hl hc hcell (rest v0 hr)

noncomputable def ifS (t : TF) (f1 f2 : SF) : SF := fun ρ σ => (t ρ σ).bind fun p => if p.1 = true then f1 ρ p.2 else f2 ρ p.2
theorem sims_if {t : Expr} {b o : List Stmt} {pos : Pos} {ft : TF} {f1 f2 : SF} (h0 : SimT prog w g k nms nm t ft) (h1 : SimSs prog w g k nms nm b f1) (h2 : SimSs prog w g k nms nm o f2) :
    SimS prog w g k nms nm (.If t b o pos) (ifS ft f1 f2) := by
  intro env A s φ ρ σ eo hA R F fl ρ' σ' e Q E h
  obtain ⟨⟨c, σ1⟩, e1, e⟩ := obind e
  refine wpAny_If (h0 env A s φ ρ σ eo hA R F c σ1 e1 _ _ fun h₁ tk₁ φ₁ X₁ => ?_)
  cases c with
  | true => exact h1 env A _ φ₁ ρ σ1 eo hA X₁.rel (F.ext X₁) fl ρ' σ' e _ _ fun flc h₂ tk₂ φ₂ X₂ r₂ F₂ => h flc h₂ tk₂ φ₂ ((X₁.toW F.wk).trans X₂) r₂ F₂
  | false => exact h2 env A _ φ₁ ρ σ1 eo hA X₁.rel (F.ext X₁) fl ρ' σ' e _ _ fun flc h₂ tk₂ φ₂ X₂ r₂ F₂ => h flc h₂ tk₂ φ₂ ((X₁.toW F.wk).trans X₂) r₂ F₂
noncomputable def retS (f : EF) : SF := fun ρ σ => (f ρ σ).bind fun p => some (.ret p.1, ρ, p.2)
theorem sims_ret {e : Expr} {pos : Pos} {f : EF} (h1 : SimE prog w g k nms nm e f) : SimS prog w g k nms nm (.Return (some e) pos) (retS f) := by
  intro env A s φ ρ σ eo hA R F fl ρ' σ' e Q E h
  obtain ⟨⟨a, σ1⟩, e1, e⟩ := obind e
  cases e
  exact wpAny_Return_some (h1 env A s φ ρ σ eo hA R F a _ e1 _ _ fun v h₁ tk₁ φ₁ X₁ r₁ => h _ h₁ tk₁ φ₁ (X₁.toW F.wk) (.ret r₁) (F.ext X₁))
noncomputable def brkS : SF := fun ρ σ => some (.brk, ρ, σ)
theorem sims_break {pos : Pos} : SimS prog w g k nms nm (.Break pos) brkS := by
  intro env A s φ ρ σ eo hA R F fl ρ' σ' e Q E h
  cases e
  exact wpAny_Break (h _ s.heap s.toks φ ((Ext.refl R).toW F.wk) .brk F)
/-- a statement that is never reached -/
noncomputable def noneS : SF := fun _ _ => none
theorem sims_never {st : Stmt} : SimS prog w g k nms nm st noneS := by
  intro env A s φ ρ σ eo hA R F fl ρ' σ' e
  cases e
/-- an expression as a statement; it answers None -/
noncomputable def exprS (f : EF) : SF := fun ρ σ => (f ρ σ).bind fun p => match p.1 with | .con .none => some (.next, ρ, p.2) | _ => none
theorem sims_expr {e : Expr} {pos : Pos} {f : EF} (h1 : SimE prog w g k nms nm e f) (hi : ∀ env, EnvOK nms env → interactive env = false) (hs : ∀ env, swapsWith e none pos.line env = pure false) : SimS prog w g k nms nm (.Expr e pos) (exprS f) := by
  intro env A s φ ρ σ eo hA R F fl ρ' σ' e Q E h
  obtain ⟨⟨a, σ1⟩, e1, e⟩ := obind e
  dsimp only at e
  split at e
  · injection e with e
    injection e with e2 e3
    injection e3 with e3 e4
    subst e2 e3 e4
    refine wpAny_Expr (h1 env A s φ ρ σ eo hA R F _ _ e1 _ _ fun v h₁ tk₁ φ₁ X₁ r₁ => ?_) (hi env eo) (hs env)
    cases r₁
    exact h _ h₁ tk₁ φ₁ (X₁.toW F.wk) .next (F.ext X₁)
  · cases e
end
end Mine
end
section
set_option maxRecDepth 100000
namespace Mine

/-! a step that turns only the objects J of an iterator -/
noncomputable def Raw (J : List Addr) (h h' : Heap) : Prop := ∀ b o, b ∉ J → h.get? b = some o → h'.get? b = some o
noncomputable def JOK (h : Heap) (J : List Addr) : Prop := ∀ j ∈ J, ∃ o vs, h.get? j = some o ∧ o.data = .fields vs

theorem JOK.off {h J a o} (hJ : JOK h J) (e : h.get? a = some o) (hd : ∀ vs, o.data ≠ .fields vs) : a ∉ J := by
  intro ha
  obtain ⟨o', vs, e', hd'⟩ := hJ a ha
  rw [e] at e'; cases e'
  exact hd vs hd'
theorem JOK.tup {h h' J} (hJ : JOK h J) (hr : Raw J h h') : ∀ a items k, h.get? a = some (tupObj items k) → h'.get? a = some (tupObj items k) := fun a items k e => hr a _ (hJ.off e fun vs h => by cases h) e

theorem Rel.raw {g φ σ h h' J} (R : Rel g φ σ h) (hJ : JOK h J) (hg : ∀ j ∈ J, g.get? j = none) (hr : Raw J h h') : Rel g φ σ h' := by
  refine ⟨fun id o e => ?_, R.inj, fun b o e => hr b o (fun hb => by rw [hg b hb] at e; cases e) (R.base b o e), R.fresh⟩
  obtain ⟨ob, hob, hrep⟩ := R.objs id o e
  refine ⟨ob, hr _ _ (fun hb => ?_) hob, hrep.keeps (fun _ _ => rfl) (Nat.le_refl _) (hJ.tup hr)⟩
  obtain ⟨o', vs, e', hd'⟩ := hJ _ hb
  rw [hob] at e'; cases e'
  exact not_mut_fields hd' hrep.mut
theorem FrameOK.raw {g nm env φ n h h' ρ J} (F : FrameOK g nm env φ n h ρ) (hJ : JOK h J) (hr : Raw J h h') : FrameOK g nm env φ n h' ρ := by
  have hcell : ∀ {c ov}, h.IsCell c ov → h'.IsCell c ov := fun ⟨o, e, d⟩ => ⟨o, hr _ _ (hJ.off e fun vs h => by rw [d] at h; cases h) e, d⟩
  obtain ⟨m, ⟨oL, es, ep, e1, e2, e3⟩, hv⟩ := F.vars
  refine ⟨⟨m, ⟨oL, es, ep, hr _ _ (hJ.off e1 fun vs h => by rw [e2] at h; cases h) e1, e2, e3⟩, fun i av e => ?_⟩, fun x hx => ?_, F.lf⟩
  · obtain ⟨x, hx, hk⟩ := hv i av e
    have kr : ∀ {a v}, Rep g φ n h a v → Rep g φ n h' a v := fun r => r.keeps (fun _ _ => rfl) (Nat.le_refl _) (hJ.tup hr)
    exact ⟨x, hx, hk.imp (fun ⟨a, v, b, c⟩ => ⟨a, v, b, kr c⟩) fun ⟨a, c, v, b, d, r⟩ => ⟨a, c, v, b, hcell d, kr r⟩⟩
  · obtain ⟨c, ov, h1, h2, h3⟩ := F.cells x hx
    exact ⟨c, ov, h1, hcell h2, h3⟩
theorem ExtW.raw {g W φ σ h φ' σ' h' h'' J} (X : ExtW g W φ σ h φ' σ' h') (hJ : JOK h' J) (h0 : ∀ j ∈ J, h.get? j = none) (hr : Raw J h' h'') : ExtW g W φ σ h φ' σ' h'' := by
  have hg : ∀ j ∈ J, g.get? j = none := fun j hj => by
    cases e : g.get? j with
    | none => rfl
    | some o => have := X.rel0.base _ _ e; rw [h0 j hj] at this; cases this
  have off : ∀ b o, h.get? b = some o → b ∉ J := fun b o e hb => by rw [h0 b hb] at e; cases e
  refine ⟨X.rel0, X.rel.raw hJ hg hr, X.agree, X.le, fun b o e h1 h2 => hr b o (off b o e) (X.keep b o e h1 h2), X.new, X.wd, fun b o e => ?_⟩
  obtain ⟨o', e'⟩ := X.live b o e
  exact ⟨o', hr b o' (off b o e) e'⟩

/-! iterators -/
inductive It where
  | list (id i : Nat)
  | range (cur step : Int) (left : Nat)
  | tup (vs : List AV) (i : Nat)
  | enumL (id i : Nat)
  deriving Inhabited

noncomputable def itNext : It → St → Option (Option (AV × It))
  | .list id i, σ => match σ[id]? with
    | some (.list xs) => match xs[i]? with
      | some x => some (some (x, .list id (i + 1)))
      | none => some none
    | _ => none
  | .range c st n, _ => match n with
    | 0 => some none
    | n + 1 => some (some (.int c, .range (c + st) st n))
  | .tup vs i, _ => match vs[i]? with
    | some x => some (some (x, .tup vs (i + 1)))
    | none => some none
  | .enumL id i, σ => match σ[id]? with
    | some (.list xs) => match xs[i]? with
      | some x => some (some (.tup [.int i, x], .enumL id (i + 1)))
      | none => some none
    | _ => none

inductive ItOK (g : Heap) (φ : Nat → Addr) (n : Nat) (h : Heap) : It → Addr → List Addr → Prop
  | list {id i I} (hid : id < n) (hI : h.IsListIter I (φ id) i) : ItOK g φ n h (.list id i) I [I]
  | range {c st m I} (hI : IsRangeIter h I c (m : Nat) st) : ItOK g φ n h (.range c st m) I [I]
  | tup {vs items i I t kk} (hI : h.IsTupleIter I t i) (ht : h.get? t = some (tupObj items kk)) (hr : Reps g φ n h vs items) : ItOK g φ n h (.tup vs i) I [I]
  | enumL {id i I it old} (hid : id < n) (hE : IsEnum h I it (i : Nat) old) (hI : h.IsListIter it (φ id) i) (hne : I ≠ it) : ItOK g φ n h (.enumL id i) I [I, it]

theorem ItOK.jok {g φ n h it I J} (x : ItOK g φ n h it I J) : JOK h J := by
  intro j hj
  cases x with
  | list hid hI => obtain ⟨o, e, _, d⟩ := hI; cases List.mem_singleton.mp hj; exact ⟨o, _, e, d⟩
  | range hI => cases List.mem_singleton.mp hj; exact ⟨_, _, hI, rfl⟩
  | tup hI ht hr => obtain ⟨o, e, _, d⟩ := hI; cases List.mem_singleton.mp hj; exact ⟨o, _, e, d⟩
  | enumL hid hE hI hne =>
    rcases List.mem_cons.mp hj with rfl | hj
    · exact ⟨_, _, hE, rfl⟩
    · cases List.mem_singleton.mp hj
      obtain ⟨o, e, _, d⟩ := hI
      exact ⟨o, _, e, d⟩

theorem ItOK.extW {g W φ σ h φ' σ' h' it I J} (X : ExtW g W φ σ h φ' σ' h') (x : ItOK g φ σ.length h it I J) : ItOK g φ' σ'.length h' it I J := by
  cases x with
  | list hid hI => obtain ⟨o, e, c, d⟩ := hI; exact .list (Nat.lt_of_lt_of_le hid X.le) ⟨o, X.fields e d, c, by rw [X.agree _ hid]; exact d⟩
  | range hI => exact .range (X.fields hI rfl)
  | tup hI ht hr => obtain ⟨o, e, c, d⟩ := hI; exact .tup ⟨o, X.fields e d, c, d⟩ (X.tup ht) (hr.extW X)
  | enumL hid hE hI hne => obtain ⟨o, e, c, d⟩ := hI; exact .enumL (Nat.lt_of_lt_of_le hid X.le) (X.fields hE rfl) ⟨o, X.fields e d, c, by rw [X.agree _ hid]; exact d⟩ hne

noncomputable def isTup : Expr → Bool
  | .Tuple .. => true
  | _ => false
/-- the targets that an iterator serves here -/
noncomputable def tgtOK : It → Expr → Bool
  | .enumL .., t => isTup t
  | _, _ => true

section
variable {prog : Program} {w : World} {g : Heap} {k : Nat} {nms : List (Str × NameKind)} {nm : List Str}

theorem Rel.isList {φ σ h id xs} (R : Rel g φ σ h) (e : σ[id]? = some (AO.list xs)) : ∃ items, h.IsList (φ id) items.toArray ∧ Reps g φ σ.length h xs items := by
  obtain ⟨ob, hob, hr⟩ := R.objs id _ e
  cases hr with
  | list hr => exact ⟨_, ⟨_, hob, rfl, _, rfl⟩, hr⟩

theorem letGo_range {target : Expr} {I : Addr} {c l st : Int} {v : Value} {Q : Unit → Shared → Prop} {E : Value → Shared → Prop} {s : Shared} {A : Around} (hI : IsRangeIter s.heap I c l st) (h : Q () s) :
    wpAny (model prog w) A (letOwnedTupleGo target (.ref I) v) Q E s := by
  unfold letOwnedTupleGo
  cases target <;> first
    | exact wpAny_pure h
    | (cases v <;> first
      | exact wpAny_pure h
      | (refine wpAny_bind (wpAny_load hI ?_)
         exact wpAny_pure h))
theorem letGo_tupiter {target : Expr} {I t : Addr} {i : Nat} {v : Value} {Q : Unit → Shared → Prop} {E : Value → Shared → Prop} {s : Shared} {A : Around} (hI : s.heap.IsTupleIter I t i) (h : Q () s) :
    wpAny (model prog w) A (letOwnedTupleGo target (.ref I) v) Q E s := by
  obtain ⟨o, ho, hc, hd⟩ := hI
  unfold letOwnedTupleGo
  cases target <;> first
    | exact wpAny_pure h
    | (cases v <;> first
      | exact wpAny_pure h
      | (refine wpAny_bind (wpAny_load ho ?_)
         rw [hc, hd]
         exact wpAny_pure h))

theorem it_step {A s φ σ it I J r} {tgt : Expr} (hA : Rm A k) (R : Rel g φ σ s.heap) (x : ItOK g φ σ.length s.heap it I J) (e : itNext it σ = some r) (ht : tgtOK it tgt = true)
    {Kn : Shared → Prop} {Ks : Value → Shared → Prop} {E E' : Value → Shared → Prop}
    (hn : r = none → ∀ h' tk, Raw J s.heap h' → Kn { s with heap := h', toks := tk })
    (hs : ∀ a it', r = some (a, it') → ∀ v h' tk, Raw J s.heap h' → ItOK g φ σ.length h' it' I J → Rep g φ σ.length h' a v → Ks v { s with heap := h', toks := tk }) :
    wpAny (model prog w) A (pyNext (.ref I)) (fun r' s₁ => match r' with | none => Kn s₁ | some v => wpAny (model prog w) A (letOwnedTupleGo tgt (.ref I) v) (fun _ s₁' => Ks v s₁') E' s₁) E s := by
  cases x with
  | @list id i _ hid hI =>
    unfold itNext at e
    dsimp only at e
    split at e
    · rename_i xs hx
      obtain ⟨items, hl, hr⟩ := R.isList hx
      split at e
      · rename_i a ha
        obtain rfl := (Option.some.inj e)
        obtain ⟨v, hv, hrep⟩ := hr.get ha
        refine wpAny_pyNext_list_item hI hl (x := v) (by simpa using hv) fun h' hI' hsb => ?_
        have raw : Raw [I] s.heap h' := fun b o hb e => hsb.extBut b o (by simpa using hb) e
        have hj := (ItOK.list (g := g) (n := σ.length) hid hI).jok
        refine letGo_listiter hI' ?_
        exact hs _ _ rfl v h' s.toks raw (.list hid hI') (hrep.keeps (fun _ _ => rfl) (Nat.le_refl _) (hj.tup raw))
      · rename_i ha
        obtain rfl := (Option.some.inj e)
        refine wpAny_pyNext_list_end hA.hd hI hl ?_ fun h' he => hn rfl h' s.toks fun b o hb e => he b o (by simpa using hb) e
        have := List.getElem?_eq_none_iff.mp ha
        simp only [List.getElem?_toArray, List.getElem?_eq_none_iff]
        rw [hr.length]; exact this
    · cases e
  | @range c st m _ hI =>
    cases m with
    | zero =>
      obtain rfl := (Option.some.inj e)
      exact wpAny_pyNext_range_end hA.hd hI (by simp) fun h' he => hn rfl h' s.toks fun b o hb e => he b o (by simpa using hb) e
    | succ m =>
      obtain rfl := (Option.some.inj e)
      refine wpAny_pyNext_range_item hI (by omega) fun h' hI' hsb => ?_
      refine letGo_range hI' ?_
      refine hs _ _ rfl _ h' _ (fun b o hb e => hsb.extBut b o (by simpa using hb) e) (.range ?_) (.int _ _)
      have e2 : ((m + 1 : Nat) : Int) - 1 = (m : Int) := by omega
      rw [← e2]; exact hI'
  | @tup vs items i _ t kk hI htup hr =>
    unfold itNext at e
    dsimp only at e
    have hT : s.heap.IsTuple t items.toArray := ⟨_, htup, rfl, _, rfl⟩
    have hj := (ItOK.tup (g := g) (n := σ.length) hI htup hr).jok
    split at e
    · rename_i a ha
      obtain rfl := (Option.some.inj e)
      obtain ⟨v, hv, hrep⟩ := hr.get ha
      refine wpAny_pyNext_tuple_item hI hT (x := v) (by simpa using hv) fun h' hI' hsb => ?_
      have raw : Raw [I] s.heap h' := fun b o hb e => hsb.extBut b o (by simpa using hb) e
      have up : ∀ {a v}, Rep g φ σ.length s.heap a v → Rep g φ σ.length h' a v := fun r => r.keeps (fun _ _ => rfl) (Nat.le_refl _) (hj.tup raw)
      refine letGo_tupiter hI' ?_
      exact hs _ _ rfl v h' s.toks raw (.tup hI' (hj.tup raw _ _ _ htup) (hr.keeps (fun _ _ => rfl) (Nat.le_refl _) (hj.tup raw))) (up hrep)
    · rename_i ha
      obtain rfl := (Option.some.inj e)
      refine wpAny_pyNext_tuple_end hA.hd hI hT ?_ fun h' he => hn rfl h' s.toks fun b o hb e => he b o (by simpa using hb) e
      have := List.getElem?_eq_none_iff.mp ha
      simp only [List.getElem?_toArray, List.getElem?_eq_none_iff]
      rw [hr.length]; exact this
  | @enumL id i _ it old hid hE hI hne =>
    unfold itNext at e
    dsimp only at e
    split at e
    · rename_i xs hx
      obtain ⟨items, hl, hr⟩ := R.isList hx
      split at e
      · rename_i a ha
        obtain rfl := (Option.some.inj e)
        obtain ⟨v, hv, hrep⟩ := hr.get ha
        have hj := (ItOK.enumL (g := g) (n := σ.length) hid hE hI hne).jok
        refine wpAny_pyNext_enum_item hE hI hl (x := v) (by simpa using hv) hne fun h₁ hE₁ hI₁ hT₁ hz₁ hk₁ => ?_
        have raw₁ : Raw [I, it] s.heap h₁ := fun b o hb e => hk₁ b o (fun h => hb (by simp [h])) (fun h => hb (by simp [h])) e
        cases tgt <;> first | (cases ht; done) | skip
        refine wpAny_letOwnedTupleGo_enum hE₁ fun h₂ hE₂ hsb => ?_
        have hsb' : Heap.SameBut I h₁ h₂ := hsb
        have hIs : I ≠ s.heap.objs.size := Nat.ne_of_lt (Heap.lt_size hE)
        have raw : Raw [I, it] s.heap h₂ := fun b o hb e => hsb'.extBut b o (fun h => hb (by simp [h])) (raw₁ b o hb e)
        have hT₂ : h₂.get? s.heap.objs.size = some (tupObj [.int i s.toks, v] 0) := hsb'.extBut _ _ (Ne.symm hIs) hT₁
        have hI₂ : h₂.IsListIter it (φ id) (i + 1) := hI₁.extBut hsb'.extBut (Ne.symm hne)
        refine hs _ _ rfl _ h₂ _ raw (.enumL hid (by exact_mod_cast hE₂) hI₂ hne) (.tup hT₂ (.cons (.int _ _) (.cons ?_ .nil)))
        exact hrep.keeps (fun _ _ => rfl) (Nat.le_refl _) (hj.tup raw)
      · rename_i ha
        obtain rfl := (Option.some.inj e)
        refine wpAny_pyNext_enum_end hA.hd hE hI hl ?_ fun h' he => hn rfl h' s.toks fun b o hb e => he b o (fun h => hb (by simp [h])) e
        have := List.getElem?_eq_none_iff.mp ha
        simp only [List.getElem?_toArray, List.getElem?_eq_none_iff]
        rw [hr.length]; exact this
    · cases e
end
end Mine
end
section
set_option maxRecDepth 100000
namespace Mine
section
variable {prog : Program} {w : World} {g : Heap} {k : Nat} {nms : List (Str × NameKind)} {nm : List Str}

/-! calls of a name: a built-in function, a type -/
/-- plain positional arguments, at least one -/
structure Plain (args : List Expr) : Prop where
  first : ∃ e es, args = e :: es ∧ ∀ env, starEach (e :: es) env = (false, eval e env) :: starEach es env
  plain : ∀ env pos, (backTo pos (starEach args env)).any (·.1) = false

theorem wp_callT {env A s φ ρ σ} {x : Str} {T : String} {p pos : Pos} {args : List Expr} {fs : EFs} (hk : nms.lookup x = some .globalImplicit) (hd : (x == ("__debug__" : Str)) = false) (hg : GlobIs g x (.type T))
    (h1 : SimEs prog w g k nms nm args fs) (pl : Plain args) (eo : EnvOK nms env) (hA : Rm A k) (R : Rel g φ σ s.heap) (F : FrameOK g nm env φ σ.length s.heap ρ) {as σ1} (e1 : fs ρ σ = some (as, σ1))
    {Q E : Value → Shared → Prop} (h : ∀ vs h' tk φ', Ext g φ σ s.heap φ' σ1 h' → Reps g φ' σ1.length h' as vs → wpAny (model prog w) A (call (.type T) vs) Q E { s with heap := h', toks := tk }) :
    wpAny (model prog w) A (eval (.Call (.Name x p) args [] pos) env) Q E s := by
  refine wpAny_Call_Name_kw (sim_glob (prog := prog) (w := w) (k := k) (nms := nms) (nm := nm) (pos := p) (.type T) hk hd hg env A s φ ρ σ eo hA R F _ _ rfl _ _ fun v h₁ tk₁ φ₁ X₁ r₁ => ?_)
  cases r₁
  refine PySem.callWith_type (pl.plain env pos) ?_
  obtain ⟨e, es, rfl, hs⟩ := pl.first
  have main := h1 env A { s with heap := h₁, toks := tk₁ } φ₁ ρ σ pos eo hA X₁.rel (F.ext X₁) as σ1 e1 (fun vs s₂ => wpAny (model prog w) A (call (.type T) vs) Q E s₂) E fun vs h₂ tk₂ φ₂ X₂ r₂ => h vs h₂ tk₂ φ₂ (X₁.trans X₂) r₂
  rw [hs] at main ⊢
  exact evalArgs_plain main
theorem wp_callB {env A s φ ρ σ} {x : Str} {id : String} {p pos : Pos} {args : List Expr} {fs : EFs} (hk : nms.lookup x = some .globalImplicit) (hd : (x == ("__debug__" : Str)) = false) (hg : GlobIs g x (.builtin id))
    (h1 : SimEs prog w g k nms nm args fs) (pl : Plain args) (eo : EnvOK nms env) (hA : Rm A k) (R : Rel g φ σ s.heap) (F : FrameOK g nm env φ σ.length s.heap ρ) {as σ1} (e1 : fs ρ σ = some (as, σ1))
    {Q E : Value → Shared → Prop} (h : ∀ vs h' tk φ', Ext g φ σ s.heap φ' σ1 h' → Reps g φ' σ1.length h' as vs → wpAny (model prog w) A (call (.builtin id) vs) Q E { s with heap := h', toks := tk }) :
    wpAny (model prog w) A (eval (.Call (.Name x p) args [] pos) env) Q E s := by
  refine wpAny_Call_Name_kw (sim_glob (prog := prog) (w := w) (k := k) (nms := nms) (nm := nm) (pos := p) (.builtin id) hk hd hg env A s φ ρ σ eo hA R F _ _ rfl _ _ fun v h₁ tk₁ φ₁ X₁ r₁ => ?_)
  cases r₁
  refine Calls.callWith_builtin (pl.plain env pos) ?_
  obtain ⟨e, es, rfl, hs⟩ := pl.first
  have main := h1 env A { s with heap := h₁, toks := tk₁ } φ₁ ρ σ pos eo hA X₁.rel (F.ext X₁) as σ1 e1 (fun vs s₂ => wpAny (model prog w) A (call (.builtin id) vs) Q E s₂) E fun vs h₂ tk₂ φ₂ X₂ r₂ => h vs h₂ tk₂ φ₂ (X₁.trans X₂) r₂
  rw [hs] at main ⊢
  exact evalArgs_plain main

/-! a call of a built-in by a rule of its own -/
noncomputable abbrev CF := List AV → St → Option (AV × St)
variable (prog w g k) in
noncomputable def PrimC (f : Value) (op : CF) : Prop :=
  ∀ A s φ σ as vs, Rm A k → Rel g φ σ s.heap → Reps g φ σ.length s.heap as vs → Runs prog w g A s φ σ (call f vs) (op as σ)
noncomputable def callE (op : CF) (fs : EFs) : EF := fun ρ σ => (fs ρ σ).bind fun p => op p.1 p.2
theorem sim_callT {x : Str} {T : String} {p pos : Pos} {args : List Expr} {fs : EFs} {op : CF} (hk : nms.lookup x = some .globalImplicit) (hd : (x == ("__debug__" : Str)) = false) (hg : GlobIs g x (.type T))
    (h1 : SimEs prog w g k nms nm args fs) (pl : Plain args) (hp : PrimC prog w g k (.type T) op) : SimE prog w g k nms nm (.Call (.Name x p) args [] pos) (callE op fs) := by
  intro env A s φ ρ σ eo hA R F av σ' e Q E h
  obtain ⟨⟨as, σ1⟩, e1, e⟩ := obind e
  exact wp_callT hk hd hg h1 pl eo hA R F e1 fun vs h₁ tk₁ φ₁ X₁ r₁ => hp A _ φ₁ σ1 as vs hA X₁.rel r₁ av σ' e _ _ fun v h₂ tk₂ φ₂ X₂ r₂ => h v h₂ tk₂ φ₂ (X₁.trans X₂) r₂
theorem sim_callB {x : Str} {id : String} {p pos : Pos} {args : List Expr} {fs : EFs} {op : CF} (hk : nms.lookup x = some .globalImplicit) (hd : (x == ("__debug__" : Str)) = false) (hg : GlobIs g x (.builtin id))
    (h1 : SimEs prog w g k nms nm args fs) (pl : Plain args) (hp : PrimC prog w g k (.builtin id) op) : SimE prog w g k nms nm (.Call (.Name x p) args [] pos) (callE op fs) := by
  intro env A s φ ρ σ eo hA R F av σ' e Q E h
  obtain ⟨⟨as, σ1⟩, e1, e⟩ := obind e
  exact wp_callB hk hd hg h1 pl eo hA R F e1 fun vs h₁ tk₁ φ₁ X₁ r₁ => hp A _ φ₁ σ1 as vs hA X₁.rel r₁ av σ' e _ _ fun v h₂ tk₂ φ₂ X₂ r₂ => h v h₂ tk₂ φ₂ (X₁.trans X₂) r₂

/-! ranges -/
noncomputable abbrev RF := Fm → St → Option ((Int × Int × Int) × St)
variable (prog w g) in
noncomputable def SimR (k : Nat) (nms : List (Str × NameKind)) (nm : List Str) (e : Expr) (f : RF) : Prop :=
  ∀ env A s φ ρ σ, EnvOK nms env → Rm A k → Rel g φ σ s.heap → FrameOK g nm env φ σ.length s.heap ρ → ∀ a b c σ', f ρ σ = some ((a, b, c), σ') → ∀ (Q E : Value → Shared → Prop),
    (∀ r t u v h' tk φ', Ext g φ σ s.heap φ' σ' h' → IsRange h' r a b c t u v → Q (.ref r) { s with heap := h', toks := tk }) → wpAny (model prog w) A (eval e env) Q E s
noncomputable def rngF (fs : EFs) : RF := fun ρ σ => (fs ρ σ).bind fun p => match p.1 with
  | [.int b] => some ((0, b, 1), p.2)
  | [.int a, .int b] => some ((a, b, 1), p.2)
  | [.int a, .int b, .int c] => if c ≠ 0 ∧ Builtin.divisionGoesByPylong (b - a) c = false then some ((a, b, c), p.2) else none
  | _ => none
theorem simr_range {x : Str} {p pos : Pos} {args : List Expr} {fs : EFs} (hk : nms.lookup x = some .globalImplicit) (hd : (x == ("__debug__" : Str)) = false) (hg : GlobIs g x (.type "range"))
    (h1 : SimEs prog w g k nms nm args fs) (pl : Plain args) : SimR prog w g k nms nm (.Call (.Name x p) args [] pos) (rngF fs) := by
  intro env A s φ ρ σ eo hA R F a b c σ' e Q E h
  obtain ⟨⟨as, σ1⟩, e1, e⟩ := obind e
  refine wp_callT hk hd hg h1 pl eo hA R F e1 fun vs h₁ tk₁ φ₁ X₁ r₁ => ?_
  dsimp only at e
  split at e
  · rename_i b0
    cases e
    cases r₁ with | cons r1 r2 =>
    cases r2
    cases r1 with | int _ t =>
    exact call_range_1 (h _ _ _ _ _ _ _ (X₁.trans (Ext.push X₁.rel _)) (Heap.get?_push_size _ rfl))
  · rename_i a0 b0
    cases e
    cases r₁ with | cons r1 r2 =>
    cases r2 with | cons r2 r3 =>
    cases r3
    cases r1 with | int _ t =>
    cases r2 with | int _ t =>
    exact call_range_2 (h _ _ _ _ _ _ _ (X₁.trans (Ext.push X₁.rel _)) (Heap.get?_push_size _ rfl))
  · rename_i a0 b0 c0
    split at e
    · rename_i hc
      cases e
      cases r₁ with | cons r1 r2 =>
      cases r2 with | cons r2 r3 =>
      cases r3 with | cons r3 r4 =>
      cases r4
      cases r1 with | int _ t =>
      cases r2 with | int _ t =>
      cases r3 with | int _ t =>
      exact call_range_3 hc.1 (h _ _ _ _ _ _ _ (X₁.trans (Ext.push X₁.rel _)) (Heap.get?_push_size _ rfl)) (.inl hc.2)
    · cases e
  · cases e

noncomputable def rngIt (a b c : Int) : Option It := if Builtin.Range.small a b c = true ∧ 0 ≤ Builtin.Range.rangeSize a b c then some (.range a c (Builtin.Range.rangeSize a b c).toNat) else none
/-- list(range(..)) -/
noncomputable def rngVals (a c : Int) : Nat → List AV
  | 0 => []
  | n + 1 => AV.int a :: rngVals (a + c) c n
theorem rngVals_length (a c : Int) (n : Nat) : (rngVals a c n).length = n := by
  induction n generalizing a with
  | zero => rfl
  | succ n ih => simp [rngVals, ih]
theorem rngVals_reps {φ n h} (c : Int) : ∀ (m : Nat) (a : Int) (vs : List Value), vs.length = m → (∀ (j : Nat) v, vs[j]? = some v → ∃ t, v = Value.int (a + (j : Int) * c) t) → Reps g φ n h (rngVals a c m) vs := by
  intro m
  induction m with
  | zero =>
    intro a vs hl _
    cases vs with
    | nil => exact .nil
    | cons v vs => simp at hl
  | succ m ih =>
    intro a vs hl hv
    cases vs with
    | nil => simp at hl
    | cons v vs =>
      obtain ⟨t, e⟩ := hv 0 v rfl
      have e0 : a + ((0 : Nat) : Int) * c = a := by simp
      rw [e0] at e
      subst e
      refine .cons (.int _ _) (ih (a + c) vs (by simpa using hl) fun j v hj => ?_)
      obtain ⟨t', e'⟩ := hv (j + 1) v (by simpa using hj)
      refine ⟨t', ?_⟩
      rw [e']
      congr 1
      have : ((j + 1 : Nat) : Int) * c = (j : Int) * c + c := by rw [Int.natCast_succ, Int.add_mul, Int.one_mul]
      omega
noncomputable def lstRngE (f : RF) : EF := fun ρ σ => (f ρ σ).bind fun p =>
  if Builtin.Range.small p.1.1 p.1.2.1 p.1.2.2 = true ∧ 0 ≤ Builtin.Range.rangeSize p.1.1 p.1.2.1 p.1.2.2 ∧ Builtin.Range.rangeSize p.1.1 p.1.2.1 p.1.2.2 ≤ 65536 then
    newL (rngVals p.1.1 p.1.2.2 (Builtin.Range.rangeSize p.1.1 p.1.2.1 p.1.2.2).toNat) p.2 else none
theorem sim_listRange {x : Str} {p pos : Pos} {r : Expr} {f : RF} (hk : nms.lookup x = some .globalImplicit) (hd : (x == ("__debug__" : Str)) = false) (hg : GlobIs g x (.type "list"))
    (h1 : SimR prog w g k nms nm r f) (hs : ∀ env, starEach [r] env = [(false, eval r env)]) : SimE prog w g k nms nm (.Call (.Name x p) [r] [] pos) (lstRngE f) := by
  intro env A s φ ρ σ eo hA R F av σ' e Q E h
  obtain ⟨⟨⟨a, b, c⟩, σ1⟩, e1, e⟩ := obind e
  dsimp only at e
  split at e
  · rename_i hc
    unfold newL at e
    rw [rngVals_length] at e
    split at e
    · rename_i hsz
      cases e
      refine wpAny_Call_Name_kw (sim_glob (prog := prog) (w := w) (k := k) (nms := nms) (nm := nm) (pos := p) (.type "list") hk hd hg env A s φ ρ σ eo hA R F _ _ rfl _ _ fun v h₁ tk₁ φ₁ X₁ r₁ => ?_)
      cases r₁
      rw [hs]
      refine PySem.callWith_type rfl (evalArgs_plain (Calls.spliced_cons ?_))
      refine h1 env A { s with heap := h₁, toks := tk₁ } φ₁ ρ σ eo hA X₁.rel (F.ext X₁) a b c σ1 e1 _ _ fun r t u v h₂ tk₂ φ₂ X₂ hr => Calls.spliced_nil ?_
      have hn : Builtin.Range.rangeSize a b c = ((Builtin.Range.rangeSize a b c).toNat : Int) := by omega
      refine call_list_range (n := (Builtin.Range.rangeSize a b c).toNat) hA.hd hr hc.1 hn (by omega) fun h₃ tk₃ acc c' hk₃ hl hit => ?_
      have X₃ := Ext.made (φ := φ₂) (A := h₂.objs.size) X₂.rel hk₃ (heap_push_none h₂) hl (.list (xs := rngVals a c (Builtin.Range.rangeSize a b c).toNat) (items := acc.toList) (rngVals_reps c _ a acc.toList (by simpa using hit.1) fun j v hj => hit.2 j v (by simpa using hj)))
      refine h _ h₃ tk₃ _ ((X₁.trans X₂).trans X₃) ?_
      have := Rep.ref (g := g) (φ := φput φ₂ σ1.length h₂.objs.size) (n := (σ1 ++ [AO.list (rngVals a c (Builtin.Range.rangeSize a b c).toNat)]).length) (h := h₃) σ1.length (by simp)
      rw [φput_new] at this
      exact this
    · cases e
  · cases e

/-! what a loop goes over -/
noncomputable abbrev IF := Fm → St → Option (It × St)
variable (prog w g) in
noncomputable def SimI (k : Nat) (nms : List (Str × NameKind)) (nm : List Str) (e : Expr) (f : IF) : Prop :=
  ∀ env A s φ ρ σ, EnvOK nms env → Rm A k → Rel g φ σ s.heap → FrameOK g nm env φ σ.length s.heap ρ → ∀ it σ', f ρ σ = some (it, σ') → ∀ (Q E : Value → Shared → Prop),
    (∀ I J h' tk φ', Ext g φ σ s.heap φ' σ' h' → ItOK g φ' σ'.length h' it I J → (∀ j ∈ J, s.heap.get? j = none) → Q (.ref I) { s with heap := h', toks := tk }) →
    wpAny (model prog w) A (eval e env) (fun xv s₁ => wpAny (model prog w) A (pyIter xv) Q E s₁) E s
theorem fresh_of_ext {φ σ h φ' σ' h' a} (X : Ext g φ σ h φ' σ' h') (ha : h'.objs.size ≤ a) : h.get? a = none := by
  cases e : h.get? a with
  | none => rfl
  | some o =>
    obtain ⟨o', e'⟩ := X.live _ _ e
    exact absurd (Heap.lt_size e') (Nat.not_lt.mpr ha)
/-- a list of ours, a tuple -/
noncomputable def seqI (f : EF) : IF := fun ρ σ => (f ρ σ).bind fun p => match p.1 with
  | .ref id => match p.2[id]? with
    | some (.list _) => some (.list id 0, p.2)
    | _ => none
  | .tup vs => some (.tup vs 0, p.2)
  | _ => none
theorem simi_seq {e : Expr} {f : EF} (h1 : SimE prog w g k nms nm e f) : SimI prog w g k nms nm e (seqI f) := by
  intro env A s φ ρ σ eo hA R F it σ' e Q E h
  obtain ⟨⟨a, σ1⟩, e1, e⟩ := obind e
  refine h1 env A s φ ρ σ eo hA R F a σ1 e1 _ _ fun v h₁ tk₁ φ₁ X₁ r₁ => ?_
  dsimp only at e
  split at e
  · rename_i id
    split at e
    · rename_i xs hx
      cases e
      cases r₁ with | ref _ hid =>
      obtain ⟨items, hl, hr⟩ := X₁.rel.isList hx
      refine wpAny_pyIter_list hl ?_
      have X := X₁.trans (Ext.push X₁.rel { cls := .type "list_iterator", data := .fields #[.ref (φ₁ id), .int 0 0] })
      refine h _ [h₁.objs.size] _ _ φ₁ X (.list hid ⟨_, Heap.get?_push_size _ rfl, rfl, rfl⟩) fun j hj => ?_
      rw [List.mem_singleton.mp hj]
      exact fresh_of_ext X₁ (Nat.le_refl _)
    · cases e
  · rename_i vs
    cases e
    cases r₁ with | tup ha hr =>
    rename_i items t kk
    refine wpAny_pyIter_tuple (items := items.toArray) ⟨_, ha, rfl, _, rfl⟩ ?_
    have X2 := Ext.push X₁.rel { cls := .type "tuple_iterator", data := .fields #[.ref t, .int 0 0] }
    refine h _ [h₁.objs.size] _ _ φ₁ (X₁.trans X2) (.tup ⟨_, Heap.get?_push_size _ rfl, rfl, rfl⟩ (Heap.get?_push_of_some _ ha) (hr.ext X2)) fun j hj => ?_
    rw [List.mem_singleton.mp hj]
    exact fresh_of_ext X₁ (Nat.le_refl _)
  · cases e
noncomputable def rngI (f : RF) : IF := fun ρ σ => (f ρ σ).bind fun p => (rngIt p.1.1 p.1.2.1 p.1.2.2).bind fun it => some (it, p.2)
theorem simi_range {e : Expr} {f : RF} (h1 : SimR prog w g k nms nm e f) : SimI prog w g k nms nm e (rngI f) := by
  intro env A s φ ρ σ eo hA R F it σ' e Q E h
  obtain ⟨⟨⟨a, b, c⟩, σ1⟩, e1, e⟩ := obind e
  obtain ⟨it0, e2, e⟩ := obind e
  cases e
  unfold rngIt at e2
  dsimp only at e2
  split at e2
  · rename_i hc
    cases e2
    refine h1 env A s φ ρ σ eo hA R F a b c _ e1 _ _ fun r t u v h₁ tk₁ φ₁ X₁ hr => ?_
    refine wpAny_pyIter_range hr hc.1 ?_
    refine h _ [h₁.objs.size] _ _ φ₁ (X₁.trans (Ext.push X₁.rel _)) (.range ?_) fun j hj => ?_
    · have hn : ((Builtin.Range.rangeSize a b c).toNat : Int) = Builtin.Range.rangeSize a b c := by omega
      rw [hn]
      exact Heap.get?_push_size _ rfl
    · rw [List.mem_singleton.mp hj]
      exact fresh_of_ext X₁ (Nat.le_refl _)
  · cases e2
noncomputable def enumI (fs : EFs) : IF := fun ρ σ => (fs ρ σ).bind fun p => match p.1 with
  | [.ref id] => match p.2[id]? with
    | some (.list _) => some (.enumL id 0, p.2)
    | _ => none
  | _ => none
theorem simi_enum {x : Str} {p pos : Pos} {args : List Expr} {fs : EFs} (hk : nms.lookup x = some .globalImplicit) (hd : (x == ("__debug__" : Str)) = false) (hg : GlobIs g x (.type "enumerate"))
    (h1 : SimEs prog w g k nms nm args fs) (pl : Plain args) : SimI prog w g k nms nm (.Call (.Name x p) args [] pos) (enumI fs) := by
  intro env A s φ ρ σ eo hA R F it σ' e Q E h
  obtain ⟨⟨as, σ1⟩, e1, e⟩ := obind e
  refine wp_callT hk hd hg h1 pl eo hA R F e1 fun vs h₁ tk₁ φ₁ X₁ r₁ => ?_
  dsimp only at e
  split at e
  · rename_i id
    split at e
    · rename_i xs hx
      cases e
      cases r₁ with | cons r1 r2 =>
      cases r2
      cases r1 with | ref _ hid =>
      obtain ⟨items, hl, hr⟩ := X₁.rel.isList hx
      refine call_enumerate_list hl fun h₂ hE hI hz hk₂ => wpAny_pyIter_enum hE ?_
      refine h _ [h₁.objs.size + 1, h₁.objs.size] _ _ φ₁ (X₁.trans (Ext.grow X₁.rel hk₂)) (.enumL hid hE hI (Nat.succ_ne_self _)) fun j hj => ?_
      rcases List.mem_cons.mp hj with rfl | hj
      · exact fresh_of_ext X₁ (Nat.le_succ _)
      · rw [List.mem_singleton.mp hj]; exact fresh_of_ext X₁ (Nat.le_refl _)
    · cases e
  · cases e
end
end Mine
end
section
set_option maxRecDepth 100000
namespace Mine
section
variable {prog : Program} {w : World} {g : Heap} {k : Nat} {nms : List (Str × NameKind)} {nm xs : List Str}

/-! targets -/
noncomputable abbrev AF := AV → Fm → St → Option (Fm × St)
noncomputable abbrev AFs := List AV → Fm → St → Option (Fm × St)
variable (prog w g) in
noncomputable def SimA (k : Nat) (nms : List (Str × NameKind)) (nm : List Str) (xs : List Str) (t : Expr) (f : AF) : Prop :=
  ∀ env A s φ ρ σ a va, EnvOK nms env → Rm A k → Rel g φ σ s.heap → FrameOK g nm env φ σ.length s.heap ρ → Rep g φ σ.length s.heap a va → ∀ ρ' σ', f a ρ σ = some (ρ', σ') → ∀ (Q : Unit → Shared → Prop) (E : Value → Shared → Prop),
    (∀ h' tk φ', ExtW g (tgtW env xs) φ σ s.heap φ' σ' h' → FrameOK g nm env φ' σ'.length h' ρ' → Q () { s with heap := h', toks := tk }) → wpAny (model prog w) A (assign t env va) Q E s
variable (prog w g) in
noncomputable def SimAs (k : Nat) (nms : List (Str × NameKind)) (nm : List Str) (xs : List Str) (ts : List Expr) (f : AFs) : Prop :=
  ∀ env A s φ ρ σ as vs, EnvOK nms env → Rm A k → Rel g φ σ s.heap → FrameOK g nm env φ σ.length s.heap ρ → Reps g φ σ.length s.heap as vs → ∀ ρ' σ', f as ρ σ = some (ρ', σ') → ∀ (Q : Unit → Shared → Prop) (E : Value → Shared → Prop),
    (∀ h' tk φ', ExtW g (tgtW env xs) φ σ s.heap φ' σ' h' → FrameOK g nm env φ' σ'.length h' ρ' → Q () { s with heap := h', toks := tk }) →
    wpAny (model prog w) A (assignInOrder ((assignEach ts env).map (·.2)) vs) Q E s

noncomputable def nameA (i : Nat) : AF := fun a ρ σ => some (Fm.put ρ i a, σ)
theorem sima_name {x : Str} {p : Pos} (i : Nat) (hx : nm[i]? = some x) (hk : stKind nms x = true) (hnd : nm.Nodup) (hxs : x ∈ xs) : SimA prog w g k nms nm xs (.Name x p) (nameA i) := by
  intro env A s φ ρ σ a va eo hA R F r ρ' σ' e Q E h
  cases e
  exact wpAny_assign_Name (sim_store eo R F r hx hk hnd hxs fun h' tk X F' => h h' tk φ X F')
noncomputable def nilA : AFs := fun as ρ σ => match as with | [] => some (ρ, σ) | _ => none
noncomputable def consA (f : AF) (fs : AFs) : AFs := fun as ρ σ => match as with | a :: as => (f a ρ σ).bind fun p => fs as p.1 p.2 | _ => none
theorem simas_nil : SimAs prog w g k nms nm xs [] nilA := by
  intro env A s φ ρ σ as vs eo hA R F r ρ' σ' e Q E h
  cases r with
  | nil => cases e; exact assignInOrder_nil (h s.heap s.toks φ ((Ext.refl R).toW (F.wkT xs)) F)
  | cons _ _ => cases e
theorem simas_cons {t : Expr} {ts : List Expr} {f : AF} {fs : AFs} (h1 : SimA prog w g k nms nm xs t f) (h2 : SimAs prog w g k nms nm xs ts fs)
    (he : ∀ env, assignEach (t :: ts) env = (false, assign t env) :: assignEach ts env) : SimAs prog w g k nms nm xs (t :: ts) (consA f fs) := by
  intro env A s φ ρ σ as vs eo hA R F r ρ' σ' e Q E h
  cases r with
  | nil => cases e
  | cons r1 r2 =>
    obtain ⟨⟨ρ1, σ1⟩, e1, e2⟩ := obind e
    rw [he]
    refine assignInOrder_cons (h1 env A s φ ρ σ _ _ eo hA R F r1 ρ1 σ1 e1 _ _ fun h₁ tk₁ φ₁ X₁ F₁ => ?_)
    exact h2 env A _ φ₁ ρ1 σ1 _ _ eo hA X₁.rel F₁ (r2.extW X₁) ρ' σ' e2 _ _ fun h₂ tk₂ φ₂ X₂ F₂ => h h₂ tk₂ φ₂ (X₁.trans X₂) F₂
noncomputable def tupA (n : Nat) (fs : AFs) : AF := fun a ρ σ => match a with | .tup vs => if vs.length = n then fs vs ρ σ else none | _ => none
theorem sima_tup {ts : List Expr} {kk : Nat} {p : Pos} {n : Nat} {fs : AFs} (h1 : SimAs prog w g k nms nm xs ts fs) (hn : ∀ env, (assignEach ts env).length = n) (hs : ∀ env, (assignEach ts env).findIdx? (·.1) = none) :
    SimA prog w g k nms nm xs (.Tuple ts kk p) (tupA n fs) := by
  intro env A s φ ρ σ a va eo hA R F r ρ' σ' e Q E h
  unfold tupA at e
  split at e
  · split at e
    · rename_i hl
      cases r with | tup ha hr =>
      rename_i items t kk
      refine assign_Tuple_tuple hA.hd (items := items.toArray) ⟨_, ha, rfl, _, rfl⟩ (by rw [hn]; simp [hr.length, hl]) (hs env) fun h' he => ?_
      have X := Ext.grow (h' := h') R fun b o eb => he b o (Nat.ne_of_lt (Heap.lt_size eb)) eb
      exact h1 env A _ φ ρ σ _ _ eo hA X.rel (F.ext X) (hr.ext X) ρ' σ' e _ _ fun h₂ tk₂ φ₂ X₂ F₂ => h h₂ tk₂ φ₂ ((X.toW (F.wkT xs)).trans X₂) F₂
    · cases e
  · cases e

noncomputable def asgA (f : EF) (t : AF) : SF := fun ρ σ => (f ρ σ).bind fun p => (t p.1 ρ p.2).bind fun q => some (.next, q.1, q.2)
theorem sims_assignTo {t e : Expr} {pos : Pos} {f : EF} {tf : AF} (h1 : SimE prog w g k nms nm e f) (h2 : SimA prog w g k nms nm xs t tf) (hs : ∀ env, swapsWithSole [t] e pos.line env = pure false)
    (hw : ∀ env, EnvOK nms env → swappedStores [t] e env = pure none) (hm : ∀ env, (assignEach [t] env).map (·.2) = [assign t env]) : SimS prog w g k nms nm (.Assign [t] e pos) (asgA f tf) := by
  intro env A s φ ρ σ eo hA R F fl ρ' σ' e Q E h
  obtain ⟨⟨a, σ1⟩, e1, e⟩ := obind e
  obtain ⟨⟨ρ2, σ2⟩, e2, e⟩ := obind e
  cases e
  refine wpAny_Assign_stores (h1 env A s φ ρ σ eo hA R F a _ e1 _ _ fun v h₁ tk₁ φ₁ X₁ r₁ => ?_) (hs env) (hw env eo)
  rw [hm]
  exact h2 env A _ φ₁ ρ σ1 a v eo hA X₁.rel (F.ext X₁) r₁ _ _ e2 _ _ fun h₂ tk₂ φ₂ X₂ F₂ => h _ h₂ tk₂ φ₂ ((X₁.toW F.wk).trans (X₂.up (F.ext X₁).wk)) .next F₂
/-- two local names from a pair just made: the last store first -/
noncomputable def swpS (i j : Nat) (f : EF) : SF := fun ρ σ => (f ρ σ).bind fun p => match p.1 with | .tup [a, b] => some (.next, Fm.put (Fm.put ρ j b) i a, p.2) | _ => none
theorem sims_swap {t e : Expr} {pos : Pos} {f : EF} {x y : Str} (i j : Nat) (h1 : SimE prog w g k nms nm e f) (hs : ∀ env, swapsWithSole [t] e pos.line env = pure false)
    (hw : ∀ env, EnvOK nms env → swappedStores [t] e env = pure (some [x, y])) (hx : nm[i]? = some x) (hkx : stKind nms x = true) (hy : nm[j]? = some y) (hky : stKind nms y = true) (hnd : nm.Nodup) :
    SimS prog w g k nms nm (.Assign [t] e pos) (swpS i j f) := by
  intro env A s φ ρ σ eo hA R F fl ρ' σ' e Q E h
  obtain ⟨⟨a, σ1⟩, e1, e⟩ := obind e
  dsimp only at e
  split at e
  · rename_i a b
    injection e with e
    injection e with e2 e3
    injection e3 with e3 e4
    subst e2 e3 e4
    rw [exec_Assign_arm]
    refine wpAny_bind (wpAny_standAt ?_)
    rw [hs]
    refine wpAny_bind (wpAny_pure ?_)
    rw [if_neg (by decide)]
    refine wpAny_bind (h1 env A s φ ρ σ eo hA R F _ _ e1 _ _ fun v h₁ tk₁ φ₁ X₁ r₁ => ?_)
    rw [hw env eo]
    refine wpAny_bind (wpAny_pure ?_)
    cases r₁ with | tup ha hr =>
    rename_i items tt kk
    cases hr with | cons r1 hr =>
    cases hr with | cons r2 hr =>
    cases hr
    rename_i va vb
    show wpAny _ A (do rule "assign.swapped-stores"; let items ← unpackItems (.ref tt) 2 none; assignInOrder ([y, x].map fun n => bindName env n) items.reverse; pure Flow.next) _ _ _
    refine wpAny_bind (wpAny_rule ?_)
    have hT : IsTup h₁ tt #[va, vb] := ⟨_, ha, rfl, _, rfl⟩
    refine wpAny_bind (unpackItems_tuple (items := #[va, vb]) hA.hd hT fun h' he => ?_)
    have X2 := Ext.grow (h' := h') X₁.rel fun b o eb => he b o (Nat.ne_of_lt (Heap.lt_size eb)) eb
    have X := X₁.trans X2
    refine wpAny_bind (assignInOrder_cons (wpAny_bindName ?_))
    refine sim_store (a := b) eo X.rel (F.ext X) (r2.ext X2) hy hky hnd (List.mem_singleton_self y) fun h₂ tk₂ X₃ F₃ => ?_
    refine assignInOrder_cons (wpAny_bindName ?_)
    have X4 := (X.toW F.wk).trans (X₃.up (F.ext X).wk)
    refine sim_store (a := a) eo X₃.rel F₃ ((r1.ext X2).extW X₃) hx hkx hnd (List.mem_singleton_self x) fun h₃ tk₃ X₅ F₅ => ?_
    exact assignInOrder_nil (wpAny_pure (h _ h₃ tk₃ φ₁ (X4.trans (X₅.up F₃.wk)) .next F₅))
  · cases e

/-! an item stored -/
noncomputable abbrev WF := AV → AV → AV → St → Option St
variable (prog w g k) in
noncomputable def PrimW (op : WF) : Prop :=
  ∀ A s φ σ a b c va vb vc, Rm A k → Rel g φ σ s.heap → Rep g φ σ.length s.heap a va → Rep g φ σ.length s.heap b vb → Rep g φ σ.length s.heap c vc → ∀ σ', op a b c σ = some σ' → ∀ (Q : Unit → Shared → Prop) (E : Value → Shared → Prop),
    (∀ h' tk φ', Ext g φ σ s.heap φ' σ' h' → Q () { s with heap := h', toks := tk }) → wpAny (model prog w) A (setItem va vb vc) Q E s
noncomputable def putS (op : WF) (f fo fi : EF) : SF := fun ρ σ => (f ρ σ).bind fun p => (fo ρ p.2).bind fun q => (fi ρ q.2).bind fun r => (op q.1 r.1 p.1 r.2).bind fun σ' => some (.next, ρ, σ')
theorem sims_put {o i e : Expr} {p pos : Pos} {op : WF} {f fo fi : EF} (h1 : SimE prog w g k nms nm e f) (h2 : SimE prog w g k nms nm o fo) (h3 : SimE prog w g k nms nm i fi) (hp : PrimW prog w g k op)
    (hs : ∀ env, swapsWith e (some (.Subscript o i p)) pos.line env = pure false) : SimS prog w g k nms nm (.Assign [.Subscript o i p] e pos) (putS op f fo fi) := by
  intro env A s φ ρ σ eo hA R F fl ρ' σ' e Q E h
  obtain ⟨⟨c, σ1⟩, e1, e⟩ := obind e
  obtain ⟨⟨a, σ2⟩, e2, e⟩ := obind e
  obtain ⟨⟨b, σ3⟩, e3, e⟩ := obind e
  obtain ⟨σ4, e4, e⟩ := obind e
  cases e
  refine wpAny_Assign_Subscript (h1 env A s φ ρ σ eo hA R F c _ e1 _ _ fun vc h₁ tk₁ φ₁ X₁ r₁ => ?_) (hs env)
  refine h2 env A _ φ₁ ρ σ1 eo hA X₁.rel (F.ext X₁) a _ e2 _ _ fun va h₂ tk₂ φ₂ X₂ r₂ => ?_
  refine h3 env A _ φ₂ ρ σ2 eo hA X₂.rel ((F.ext X₁).ext X₂) b _ e3 _ _ fun vb h₃ tk₃ φ₃ X₃ r₃ => ?_
  have X := (X₁.trans X₂).trans X₃
  exact hp A _ φ₃ σ3 a b c va vb vc hA X₃.rel (r₂.ext X₃) r₃ ((r₁.ext X₂).ext X₃) _ e4 _ _ fun h₄ tk₄ φ₄ X₄ => h _ h₄ tk₄ φ₄ ((X.trans X₄).toW F.wk) .next ((F.ext X).ext X₄)

/-! loops -/
noncomputable def tgtB (tt : Bool) : It → Bool
  | .enumL .. => tt
  | _ => true
noncomputable def forGo (tt : Bool) (tf : AF) (bf ef : SF) : Nat → It → SF
  | 0, _, _, _ => none
  | n + 1, it, ρ, σ => if tgtB tt it = true then (itNext it σ).bind fun r => match r with
      | none => ef ρ σ
      | some (a, it') => (tf a ρ σ).bind fun p => (bf p.1 p.2).bind fun q => match q.1 with
        | .next => forGo tt tf bf ef n it' q.2.1 q.2.2
        | .cont => forGo tt tf bf ef n it' q.2.1 q.2.2
        | .brk => some (.next, q.2)
        | .ret v => some (.ret v, q.2)
    else none
noncomputable def forS (tt : Bool) (fuel : Nat) (tf : AF) (fi : IF) (bf ef : SF) : SF := fun ρ σ => (fi ρ σ).bind fun p => forGo tt tf bf ef fuel p.1 ρ p.2
theorem sims_for {t i : Expr} {b o : List Stmt} {pos : Pos} {tt : Bool} (fuel : Nat) {tf : AF} {fi : IF} {bf ef : SF} (h1 : SimA prog w g k nms nm xs t tf) (h2 : SimI prog w g k nms nm i fi) (h3 : SimSs prog w g k nms nm b bf) (h4 : SimSs prog w g k nms nm o ef)
    (ht : isTup t = tt) (hf : ∀ env x, foldedSetIterable i env x = pure x) : SimS prog w g k nms nm (.For t i b o pos) (forS tt fuel tf fi bf ef) := by
  intro env A s φ ρ σ eo hA R F fl ρ' σ' e Q E h
  obtain ⟨⟨it0, σ0⟩, e1, e⟩ := obind e
  refine wpAny_For (h2 env A s φ ρ σ eo hA R F it0 σ0 e1 _ _ fun I J h₁ tk₁ φ₁ X₁ hit hJ => ?_) (hf env)
  refine codeAny_forLoop_any (fun n s' => ∃ h' tk φ' ρ1 σ1 it, s' = { s with heap := h', toks := tk } ∧ ExtW g (envW env) φ σ s.heap φ' σ1 h' ∧ FrameOK g nm env φ' σ1.length h' ρ1 ∧ ItOK g φ' σ1.length h' it I J ∧
    forGo tt tf bf ef n it ρ1 σ1 = some (fl, ρ', σ')) ?_ fuel ⟨h₁, tk₁, φ₁, ρ, σ0, it0, rfl, X₁.toW F.wk, F.ext X₁, hit, e⟩
  rintro n s' ⟨h', tk, φ', ρ1, σ1, it, rfl, X, F1, hit, e⟩
  cases n with
  | zero => cases e
  | succ n =>
    unfold forGo at e
    split at e
    · rename_i htt
      obtain ⟨r, er, e⟩ := obind e
      have htg : tgtOK it t = true := by
        cases it <;> first | rfl | exact ht.trans htt
      refine it_step (tgt := t) hA X.rel hit er htg (fun hn h₂ tk₂ raw => ?_) (fun a it' hr v h₂ tk₂ raw hit₂ ra => ?_)
      · subst hn
        have X2 := X.raw hit.jok hJ raw
        exact h4 env A _ φ' ρ1 σ1 eo hA X2.rel (F1.raw hit.jok raw) fl ρ' σ' e _ _ fun flc h₃ tk₃ φ₃ X₃ r₃ F₃ => h flc h₃ tk₃ φ₃ (X2.trans X₃) r₃ F₃
      · subst hr
        obtain ⟨⟨ρ2, σ2⟩, e2, e⟩ := obind e
        obtain ⟨⟨c, ρ3, σ3⟩, e3, e⟩ := obind e
        have X2 := X.raw hit.jok hJ raw
        refine h1 env A _ φ' ρ1 σ1 a v eo hA X2.rel (F1.raw hit.jok raw) ra ρ2 σ2 e2 _ _ fun h₃ tk₃ φ₃ X₃ F₃ => ?_
        refine h3 env A _ φ₃ ρ2 σ2 eo hA X₃.rel F₃ c ρ3 σ3 e3 _ _ fun flc h₄ tk₄ φ₄ X₄ r₄ F₄ => ?_
        have X5 := (X₃.up (F1.raw hit.jok raw).wk).trans X₄
        have X6 := X2.trans X5
        cases r₄ with
        | next => exact ⟨n, Nat.lt_succ_self n, h₄, tk₄, φ₄, ρ3, σ3, it', rfl, X6, F₄, hit₂.extW X5, e⟩
        | cont => exact ⟨n, Nat.lt_succ_self n, h₄, tk₄, φ₄, ρ3, σ3, it', rfl, X6, F₄, hit₂.extW X5, e⟩
        | brk => cases e; exact h _ h₄ tk₄ φ₄ X6 .next F₄
        | ret r => cases e; exact h _ h₄ tk₄ φ₄ X6 (.ret r) F₄
    · cases e

noncomputable def whileGo (tf : TF) (bf ef : SF) : Nat → SF
  | 0, _, _ => none
  | n + 1, ρ, σ => (tf ρ σ).bind fun p => if p.1 = true then (bf ρ p.2).bind fun q => match q.1 with
      | .next => whileGo tf bf ef n q.2.1 q.2.2
      | .cont => whileGo tf bf ef n q.2.1 q.2.2
      | .brk => some (.next, q.2)
      | .ret v => some (.ret v, q.2)
    else ef ρ p.2
theorem sims_while {t : Expr} {b o : List Stmt} {pos : Pos} (fuel : Nat) {tf : TF} {bf ef : SF} (h1 : SimT prog w g k nms nm t tf) (h3 : SimSs prog w g k nms nm b bf) (h4 : SimSs prog w g k nms nm o ef) :
    SimS prog w g k nms nm (.While t b o pos) (whileGo tf bf ef fuel) := by
  intro env A s φ ρ σ eo hA R F fl ρ' σ' e Q E h
  refine wpAny_While ?_
  refine codeAny_whileLoop (fun n s' => ∃ h' tk φ' ρ1 σ1, s' = { s with heap := h', toks := tk } ∧ ExtW g (envW env) φ σ s.heap φ' σ1 h' ∧ FrameOK g nm env φ' σ1.length h' ρ1 ∧
    whileGo tf bf ef n ρ1 σ1 = some (fl, ρ', σ')) ?_ fuel ⟨s.heap, s.toks, φ, ρ, σ, rfl, (Ext.refl R).toW F.wk, F, e⟩
  rintro n s' ⟨h', tk, φ', ρ1, σ1, rfl, X, F1, e⟩
  cases n with
  | zero => cases e
  | succ n =>
    unfold whileGo at e
    obtain ⟨⟨c, σ2⟩, e2, e⟩ := obind e
    refine h1 env A _ φ' ρ1 σ1 eo hA X.rel F1 c σ2 e2 _ _ fun h₂ tk₂ φ₂ X₂ => ?_
    have XX := X.trans (X₂.toW F1.wk)
    cases c with
    | false => exact h4 env A _ φ₂ ρ1 σ2 eo hA X₂.rel (F1.ext X₂) fl ρ' σ' e _ _ fun flc h₃ tk₃ φ₃ X₃ r₃ F₃ => h flc h₃ tk₃ φ₃ (XX.trans X₃) r₃ F₃
    | true =>
      obtain ⟨⟨c, ρ3, σ3⟩, e3, e⟩ := obind e
      refine h3 env A _ φ₂ ρ1 σ2 eo hA X₂.rel (F1.ext X₂) c ρ3 σ3 e3 _ _ fun flc h₄ tk₄ φ₄ X₄ r₄ F₄ => ?_
      have X6 := XX.trans X₄
      cases r₄ with
      | next => exact ⟨n, Nat.lt_succ_self n, h₄, tk₄, φ₄, ρ3, σ3, rfl, X6, F₄, e⟩
      | cont => exact ⟨n, Nat.lt_succ_self n, h₄, tk₄, φ₄, ρ3, σ3, rfl, X6, F₄, e⟩
      | brk => cases e; exact h _ h₄ tk₄ φ₄ X6 .next F₄
      | ret r => cases e; exact h _ h₄ tk₄ φ₄ X6 (.ret r) F₄
end
end Mine
end
section
set_option maxRecDepth 100000
namespace Mine

/-! objects that are no part of the state -/
noncomputable def Off (g : Heap) (φ : Nat → Addr) (n : Nat) (h : Heap) (J : List Addr) : Prop := ∀ j ∈ J, (∀ id, id < n → φ id ≠ j) ∧ (∀ items k, h.get? j ≠ some (tupObj items k)) ∧ g.get? j = none
theorem Off.tup {g φ n h h' J} (hJ : Off g φ n h J) (hr : Raw J h h') : ∀ a items k, h.get? a = some (tupObj items k) → h'.get? a = some (tupObj items k) := fun a items k e => hr a _ (fun ha => (hJ a ha).2.1 items k e) e
theorem Rel.off {g φ σ h h' J} (R : Rel g φ σ h) (hJ : Off g φ σ.length h J) (hr : Raw J h h') : Rel g φ σ h' := by
  refine ⟨fun id o e => ?_, R.inj, fun b o e => hr b o (fun hb => by rw [(hJ b hb).2.2] at e; cases e) (R.base b o e), R.fresh⟩
  obtain ⟨ob, hob, hrep⟩ := R.objs id o e
  exact ⟨ob, hr _ _ (fun hb => (hJ _ hb).1 id (List.getElem?_eq_some_iff.mp e).1 rfl) hob, hrep.keeps (fun _ _ => rfl) (Nat.le_refl _) (hJ.tup hr)⟩
theorem FrameOK.off {g nm env φ n h h' ρ J} (F : FrameOK g nm env φ n h ρ) (hJ : Off g φ n h J) (hW : ∀ j ∈ J, ¬ envW env j) (hr : Raw J h h') : FrameOK g nm env φ n h' ρ := by
  have hcell : ∀ {x c ov}, env.kindOf x = some .cell → env.cells.lookup x = some c → h.IsCell c ov → h'.IsCell c ov := fun h1 h2 ⟨o, e, d⟩ => ⟨o, hr _ _ (fun hb => hW _ hb (.inr ⟨_, h1, h2⟩)) e, d⟩
  obtain ⟨m, ⟨oL, es, ep, e1, e2, e3⟩, hv⟩ := F.vars
  refine ⟨⟨m, ⟨oL, es, ep, hr _ _ (fun hb => hW _ hb (.inl rfl)) e1, e2, e3⟩, fun i av e => ?_⟩, fun x hx => ?_, F.lf⟩
  · obtain ⟨x, hx, hk⟩ := hv i av e
    have kr : ∀ {a v}, Rep g φ n h a v → Rep g φ n h' a v := fun r => r.keeps (fun _ _ => rfl) (Nat.le_refl _) (hJ.tup hr)
    exact ⟨x, hx, hk.imp (fun ⟨a, v, b, c⟩ => ⟨a, v, b, kr c⟩) fun ⟨a, c, v, b, d, r⟩ => ⟨a, c, v, b, hcell a b d, kr r⟩⟩
  · obtain ⟨c, ov, h1, h2, h3⟩ := F.cells x hx
    exact ⟨c, ov, h1, hcell hx h1 h2, h3⟩
theorem ExtW.off {g W φ σ h φ' σ' h' h'' J} (X : ExtW g W φ σ h φ' σ' h') (hJ : Off g φ' σ'.length h' J) (h0 : ∀ j ∈ J, h.get? j = none) (hr : Raw J h' h'') : ExtW g W φ σ h φ' σ' h'' := by
  have off : ∀ b o, h.get? b = some o → b ∉ J := fun b o e hb => by rw [h0 b hb] at e; cases e
  refine ⟨X.rel0, X.rel.off hJ hr, X.agree, X.le, fun b o e h1 h2 => hr b o (off b o e) (X.keep b o e h1 h2), X.new, X.wd, fun b o e => ?_⟩
  obtain ⟨o', e'⟩ := X.live b o e
  exact ⟨o', hr b o' (off b o e) e'⟩
/-- a step that turned nothing old but ours -/
theorem ExtW.old {g W φ σ h φ' σ' h'} (X : ExtW g W φ σ h φ' σ' h') (hW : ∀ b o, W b → h.get? b = some o → False) : Ext g φ σ h φ' σ' h' :=
  ⟨X.rel0, X.rel, X.agree, X.le, fun b o e h1 => X.keep b o e h1 fun hw => hW b o hw e, X.new⟩
theorem base_none {g φ σ h} (R : Rel g φ σ h) {a} (e : h.get? a = none) : g.get? a = none := by
  cases e' : g.get? a with
  | none => rfl
  | some o => have := R.base _ _ e'; rw [e] at this; cases this

/-- a list of the heap taken into the state -/
theorem Ext.adopt {g φ σ h φ' σ' h' D xs vs n} (X : Ext g φ σ h φ' σ' h') (hD : h.get? D = none) (hne : ∀ id, id < σ'.length → φ' id ≠ D) (hob : h'.get? D = some (lstObj vs n)) (hr : Reps g φ' σ'.length h' xs vs) :
    Ext g φ σ h (φput φ' σ'.length D) (σ' ++ [.list xs]) h' ∧ Rep g (φput φ' σ'.length D) (σ' ++ [AO.list xs]).length h' (.ref σ'.length) (.ref D) := by
  have hgD := base_none X.rel0 hD
  have R := X.rel
  have keepR : ∀ {a o}, ORep g φ' σ'.length h' a o → ORep g (φput φ' σ'.length D) (σ'.length + 1) h' a o := fun x =>
    x.keeps (fun id hid => φput_old hid) (Nat.le_succ _) fun _ _ _ e => e
  refine ⟨⟨X.rel0, ⟨fun id o e => ?_, fun i j hi hj e => ?_, R.base, fun id hid => ?_⟩, fun id hid => ?_, ?_, X.keep, fun id h1 h2 => ?_⟩, ?_⟩
  · rw [List.length_append, List.length_singleton]
    by_cases hlt : id < σ'.length
    · rw [List.getElem?_append_left hlt] at e
      obtain ⟨ob', hob', hr'⟩ := R.objs id o e
      rw [φput_old hlt]
      exact ⟨ob', hob', keepR hr'⟩
    · have hid : id = σ'.length := by
        have := (List.getElem?_eq_some_iff.mp e).1
        rw [List.length_append, List.length_singleton] at this
        omega
      subst hid
      rw [List.getElem?_append_right (Nat.le_refl _), Nat.sub_self] at e
      cases e
      rw [φput_new]
      exact ⟨_, hob, keepR (.list hr)⟩
  · rw [List.length_append, List.length_singleton] at hi hj
    by_cases h1 : i = σ'.length
    · by_cases h2 : j = σ'.length
      · omega
      · rw [h1, φput_new, φput_old (by omega)] at e
        exact absurd e.symm (hne j (by omega))
    · by_cases h2 : j = σ'.length
      · rw [h2, φput_new, φput_old (by omega)] at e
        exact absurd e (hne i (by omega))
      · rw [φput_old (by omega), φput_old (by omega)] at e
        exact R.inj i j (by omega) (by omega) e
  · rw [List.length_append, List.length_singleton] at hid
    by_cases h1 : id = σ'.length
    · rw [h1, φput_new]; exact hgD
    · rw [φput_old (by omega)]; exact R.fresh id (by omega)
  · rw [φput_old (Nat.lt_of_lt_of_le hid X.le)]; exact X.agree id hid
  · rw [List.length_append]; exact Nat.le_trans X.le (Nat.le_add_right _ _)
  · rw [List.length_append, List.length_singleton] at h2
    by_cases h3 : id = σ'.length
    · rw [h3, φput_new]; exact hD
    · rw [φput_old (by omega)]; exact X.new id h1 (by omega)
  · have := Rep.ref (g := g) (φ := φput φ' σ'.length D) (n := (σ' ++ [AO.list xs]).length) (h := h') σ'.length (by simp)
    rw [φput_new] at this
    exact this

/-! the names of a comprehension's scope -/
noncomputable def relab (nms names : List (Str × NameKind)) : List (Str × NameKind) := names.map fun (n, k) => if (k == .free && nms.lookup n == some .cell) then (n, .cell) else (n, k)
theorem relabel_names {nms env scope} (eo : EnvOK nms env) : (relabel scope env).names = relab nms scope.names := by
  unfold relabel relab
  have h1 : (env.scope.kind == ScopeKind.function) = true := by rw [eo.kind]; rfl
  have h2 : ∀ n, env.kindOf n = nms.lookup n := fun n => by unfold Env.kindOf; rw [eo.names]
  simp only [h1, h2, Bool.and_true]
theorem relab_lookup {nms} : ∀ {names : List (Str × NameKind)} {x k}, (relab nms names).lookup x = some k → (k = .cell ∧ names.lookup x = some .free ∧ nms.lookup x = some .cell) ∨ names.lookup x = some k
  | [], x, k, h => by cases h
  | (n, k0) :: r, x, k, h => by
    have ih := @relab_lookup nms r x k
    unfold relab at h ih
    rw [List.map_cons] at h
    dsimp only at h
    by_cases hc : (k0 == NameKind.free && nms.lookup n == some .cell) = true
    · rw [if_pos hc] at h
      rw [Bool.and_eq_true, beq_iff_eq, beq_iff_eq] at hc
      cases hx : x == n with
      | true =>
        simp only [List.lookup_cons, hx] at h ⊢
        cases h
        exact .inl ⟨rfl, by rw [hc.1], by rw [eq_of_beq hx]; exact hc.2⟩
      | false =>
        simp only [List.lookup_cons, hx] at h ⊢
        exact ih h
    · rw [if_neg hc] at h
      cases hx : x == n with
      | true => simp only [List.lookup_cons, hx] at h ⊢; exact .inr h
      | false => simp only [List.lookup_cons, hx] at h ⊢; exact ih h
theorem relab_free {nms} : ∀ {names : List (Str × NameKind)} {x}, names.lookup x = some .free → nms.lookup x = some .cell → (relab nms names).lookup x = some .cell
  | [], x, h, _ => by cases h
  | (n, k0) :: r, x, h, hn => by
    have ih := @relab_free nms r x
    unfold relab at ih ⊢
    rw [List.map_cons]
    dsimp only
    cases hx : x == n with
    | true =>
      simp only [List.lookup_cons, hx] at h
      injection h with h
      subst h
      have : (NameKind.free == NameKind.free && List.lookup n nms == some NameKind.cell) = true := by rw [← eq_of_beq hx, hn]; rfl
      rw [if_pos this]
      simp only [List.lookup_cons, hx]
    | false =>
      simp only [List.lookup_cons, hx] at h
      by_cases hc : (k0 == NameKind.free && nms.lookup n == some .cell) = true
      · rw [if_pos hc]; simp only [List.lookup_cons, hx]; exact ih h hn
      · rw [if_neg hc]; simp only [List.lookup_cons, hx]; exact ih h hn

noncomputable def clOf (cells : List (Str × Addr)) : List (Str × NameKind) → List (Str × Addr) → List (Str × Addr)
  | [], cs => cs
  | (n, k) :: r, cs => clOf cells r (if k == .free then (n, (cells.lookup n).getD 0) :: cs else cs)
theorem closure_ok {env : Env} : ∀ (names : List (Str × NameKind)) (cs : List (Str × Addr)), (∀ x, (x, NameKind.free) ∈ names → ∃ c, env.cells.lookup x = some c) →
    (do
      let mut cs := cs
      for (name, kind) in names do
        if kind == NameKind.free then cs := (name, ← cellOf env name) :: cs
      return cs : Sem (List (Str × Addr))) = pure (clOf env.cells names cs)
  | [], cs, _ => rfl
  | (n, k) :: r, cs, h => by
    have ih := fun cs => @closure_ok env r cs fun x hx => h x (List.mem_cons_of_mem _ hx)
    by_cases hk : (k == NameKind.free) = true
    · have e := eq_of_beq hk
      subst e
      obtain ⟨c, hc⟩ := h n (List.mem_cons_self ..)
      have h2 : cellOf env n = pure c := by unfold cellOf; rw [hc]
      have h3 : clOf env.cells ((n, NameKind.free) :: r) cs = clOf env.cells r ((n, c) :: cs) := by
        show clOf env.cells r ((n, (env.cells.lookup n).getD 0) :: cs) = _
        rw [hc]; rfl
      rw [h3, ← ih]
      simp only [List.forIn_cons, hk, if_true, h2, pure_bind]
    · have h3 : clOf env.cells ((n, k) :: r) cs = clOf env.cells r cs := by
        show clOf env.cells r (if (k == .free) = true then _ else cs) = _
        rw [if_neg hk]
      rw [h3, ← ih]
      simp only [List.forIn_cons, hk, pure_bind, Bool.false_eq_true, if_false]
theorem clOf_lookup {cells : List (Str × Addr)} : ∀ (names : List (Str × NameKind)) (cs : List (Str × Addr)) {x c}, (∀ x, (x, NameKind.free) ∈ names → ∃ c, cells.lookup x = some c) → (∀ x c, cs.lookup x = some c → cells.lookup x = some c) → (clOf cells names cs).lookup x = some c → cells.lookup x = some c
  | [], cs, x, c, _, h1, h => h1 x c h
  | (n, k) :: r, cs, x, c, h0, h1, h => by
    refine clOf_lookup r _ (fun x hx => h0 x (List.mem_cons_of_mem _ hx)) (fun y d hy => ?_) h
    by_cases hk : (k == NameKind.free) = true
    · rw [if_pos hk] at hy
      have e := eq_of_beq hk
      subst e
      obtain ⟨c', hc⟩ := h0 n (List.mem_cons_self ..)
      cases hx : y == n with
      | true => simp only [List.lookup_cons, hx] at hy; rw [hc] at hy; rw [eq_of_beq hx, hc]; exact hy
      | false => simp only [List.lookup_cons, hx] at hy; exact h1 y d hy
    · rw [if_neg hk] at hy; exact h1 y d hy
theorem clOf_has {cells : List (Str × Addr)} : ∀ (names : List (Str × NameKind)) (cs : List (Str × Addr)) {x}, ((x, NameKind.free) ∈ names ∨ ∃ c, cs.lookup x = some c) → ∃ c, (clOf cells names cs).lookup x = some c
  | [], cs, x, h => by
    rcases h with h | h
    · cases h
    · exact h
  | (n, k) :: r, cs, x, h => by
    refine clOf_has r _ ?_
    rcases h with h | ⟨c, h⟩
    · rcases List.mem_cons.mp h with e | h
      · injection e with e1 e2
        subst e1 e2
        exact .inr ⟨(cells.lookup x).getD 0, by simp [List.lookup_cons]⟩
      · exact .inl h
    · by_cases hk : (k == NameKind.free) = true
      · rw [if_pos hk]
        cases hx : x == n with
        | true => exact .inr ⟨_, by simp only [List.lookup_cons, hx]; rfl⟩
        | false => exact .inr ⟨c, by simp only [List.lookup_cons, hx]; exact h⟩
      · rw [if_neg hk]; exact .inr ⟨c, h⟩
theorem mem_of_lookup {α : Type} : ∀ {l : List (Str × α)} {x k}, l.lookup x = some k → (x, k) ∈ l
  | [], x, k, h => by cases h
  | (n, k0) :: r, x, k, h => by
    cases hx : x == n with
    | true => simp only [List.lookup_cons, hx] at h; cases h; rw [eq_of_beq hx]; exact List.mem_cons_self ..
    | false => simp only [List.lookup_cons, hx] at h; exact List.mem_cons_of_mem _ (mem_of_lookup h)
end Mine
end
section
set_option maxRecDepth 100000
namespace Mine

/-! list comprehensions -/
noncomputable def capρ (cap : List (Option Nat)) (ρ : Fm) : Fm := cap.map fun o => o.bind (Fm.get ρ)
noncomputable def compGo (tt : Bool) (tf : AF) (ts : TF) (ef : EF) : Nat → It → Fm → St → Option (List AV × St)
  | 0, _, _, _ => none
  | n + 1, it, ρ, σ => if tgtB tt it = true then (itNext it σ).bind fun r => match r with
      | none => some ([], σ)
      | some (a, it') => (tf a ρ σ).bind fun p => (ts p.1 p.2).bind fun q => if q.1 = true then (ef p.1 q.2).bind fun r => (compGo tt tf ts ef n it' p.1 r.2).bind fun z => some (r.1 :: z.1, z.2)
        else compGo tt tf ts ef n it' p.1 q.2
    else none
noncomputable def madeL (xs : List AV) (σ : St) : AV × St := (.ref σ.length, σ ++ [.list xs])
noncomputable def compE (tt : Bool) (fuel : Nat) (cap : List (Option Nat)) (fi : IF) (tf : AF) (ts : TF) (ef : EF) : EF := fun ρ σ =>
  (fi ρ σ).bind fun p => (compGo tt tf ts ef fuel p.1 (capρ cap ρ) p.2).bind fun q => some (madeL q.1 q.2)
noncomputable def trueT : TF := fun _ σ => some (true, σ)

section
variable {prog : Program} {w : World} {g : Heap} {k : Nat} {nms : List (Str × NameKind)} {nm : List Str}

variable (prog w g) in
noncomputable def SimIfs (k : Nat) (nms : List (Str × NameKind)) (nm : List Str) (ifs : List Expr) (f : TF) : Prop :=
  ∀ env A s φ ρ σ, EnvOK nms env → Rm A k → Rel g φ σ s.heap → FrameOK g nm env φ σ.length s.heap ρ →
    RunsB prog w g A s φ σ (forIn ifs true fun c r => if r = true then do let ok ← isTrue c env (eval c env); pure (ForInStep.yield ok) else pure (ForInStep.yield r)) (f ρ σ)
theorem simifs_nil : SimIfs prog w g k nms nm [] trueT := by
  intro env A s φ ρ σ eo hA R F b σ' e Q E h
  cases e
  exact wpAny_tests_nil (h s.heap s.toks φ (Ext.refl R))
theorem simifs_one {c : Expr} {t : TF} (h1 : SimT prog w g k nms nm c t) : SimIfs prog w g k nms nm [c] t := by
  intro env A s φ ρ σ eo hA R F b σ' e Q E h
  exact wpAny_tests_one (h1 env A s φ ρ σ eo hA R F b σ' e _ _ h)

structure CompOK (nms : List (Str × NameKind)) (nm : List Str) (scope : Scope) (cnm : List Str) (cap : List (Option Nat)) (xs : List Str) : Prop where
  kind : scope.kind = .function
  nocell : ∀ x ∈ scope.names, x.2 ≠ .cell
  loc : ∀ x ∈ scope.names, x.2 = .local → scope.names.lookup x.1 = some .local
  free : ∀ x ∈ scope.names, x.2 = .free → nms.lookup x.1 = some .cell
  cap : ∀ (j i : Nat), cap[j]? = some (some i) → ∃ x, cnm[j]? = some x ∧ nm[i]? = some x ∧ scope.names.lookup x = some .free
  own : ∀ x ∈ xs, scope.names.lookup x = some .local

theorem it_self {A s φ σ it I J} (x : ItOK g φ σ s.heap it I J) {Q : Value → Shared → Prop} {E : Value → Shared → Prop} (h : Q (.ref I) s) : wpAny (model prog w) A (pyIter (.ref I)) Q E s := by
  cases x with
  | list hid hI => exact wpAny_pyIter_listiter hI h
  | range hI => exact wpAny_pyIter_rangeiter hI h
  | tup hI ht hr => exact wpAny_pyIter_tupleiter hI h
  | enumL hid hE hI hne => exact wpAny_pyIter_enum hE h

theorem codeAny_compLoop_own {R : Result → Shared → Prop} {A : Around} {s : Shared} {elt target iter : Expr} {ifs : List Expr} {scope : Scope} {pos : Pos} {it acc : Value} {env : Env} (I : Nat → Shared → Prop)
    (turn : ∀ n s, I n s → wpAny (model prog w) A (pyNext it) (fun r s₁ => match r with
      | none => R (.ok .next) s₁
      | some v => wpAny (model prog w) A (letOwnedTupleGo target it v) (fun _ s₁' => wpAny (model prog w) A (assign target env v) (fun _ s₂ =>
          wpAny (model prog w) A (forIn ifs true fun c r => if r = true then do let ok ← isTrue c env (eval c env); pure (ForInStep.yield ok) else pure (ForInStep.yield r)) (fun ok s₃ =>
            if ok = true then wpAny (model prog w) A (eval elt env) (fun x s₄ =>
              wpAny (model prog w) A (call (.builtin "list.append") [acc, x]) (fun _ s₅ => ∃ m, m < n ∧ I m s₅) (notedBy (model prog w) A env fun e s' => R (.error e) s') s₄) (notedBy (model prog w) A env fun e s' => R (.error e) s') s₃
            else ∃ m, m < n ∧ I m s₃) (notedBy (model prog w) A env fun e s' => R (.error e) s') s₂) (notedBy (model prog w) A env fun e s' => R (.error e) s') s₁') (notedBy (model prog w) A env fun e s' => R (.error e) s') s₁) (notedBy (model prog w) A env fun e s' => R (.error e) s') s)
    (n : Nat) (h : I n s) : codeAny (model prog w) A (.compLoop (.ListComp elt [⟨target, iter, ifs, 0⟩] scope pos) 0 it acc env) R s := by
  refine codeAny_loop rfl I (fun n s hI => ?_) n h
  show wpAny _ A ((compTurn (.ListComp elt [⟨target, iter, ifs, 0⟩] scope pos) 0 it acc env).onRaise (fun x => do noteFrame x env; theTreesLotGoes x)) _ _ s
  refine wpAny_noted ?_
  rw [compTurn_list]
  refine wpAny_bind (wpAny_standAt (wpAny_bind (wpAny_mono (turn n s hI) (fun r s₁ h₁ => ?_) fun _ _ h' => h')))
  cases r with
  | none => exact wpAny_pure h₁
  | some v =>
    refine wpAny_bind (wpAny_mono h₁ (fun _ s₁' h₁' => ?_) fun _ _ h' => h')
    refine wpAny_bind (wpAny_mono h₁' (fun _ s₂ h₂ => wpAny_bind (wpAny_mono h₂ (fun ok s₃ h₃ => ?_) fun _ _ h' => h')) fun _ _ h' => h')
    cases ok with
    | false => exact wpAny_pure ⟨rfl, h₃⟩
    | true =>
      exact wpAny_bind (wpAny_bind (wpAny_mono h₃ (fun x s₄ h₄ => wpAny_bind (wpAny_mono h₄ (fun _ s₅ h₅ => wpAny_pure (wpAny_pure ⟨rfl, h₅⟩)) fun _ _ h' => h')) fun _ _ h' => h'))

structure Dk (φ : Nat → Addr) (n : Nat) (h : Heap) (D : Addr) (vs : List Value) (kk : Nat) : Prop where
  ob : h.get? D = some (lstObj vs kk)
  ne : ∀ id, id < n → φ id ≠ D
theorem Dk.extW {W φ σ h φ' σ' h' D vs kk} (d : Dk φ σ.length h D vs kk) (X : ExtW g W φ σ h φ' σ' h') (hW : ¬ W D) : Dk φ' σ'.length h' D vs kk := by
  refine ⟨X.keep D _ d.ob d.ne hW, fun id hid he => ?_⟩
  by_cases hlt : id < σ.length
  · exact d.ne id hlt (by rw [← X.agree id hlt]; exact he)
  · have := X.new id (Nat.not_lt.mp hlt) hid
    rw [he, d.ob] at this
    cases this
theorem Dk.ext {φ σ h φ' σ' h' D vs kk} (d : Dk φ σ.length h D vs kk) (X : Ext g φ σ h φ' σ' h') : Dk φ' σ'.length h' D vs kk := by
  refine ⟨X.keep D _ d.ob d.ne, fun id hid he => ?_⟩
  by_cases hlt : id < σ.length
  · exact d.ne id hlt (by rw [← X.agree id hlt]; exact he)
  · have := X.new id (Nat.not_lt.mp hlt) hid
    rw [he, d.ob] at this
    cases this
theorem ItOK.rawD {φ n h h' D vs kk it I J} (d : Dk φ n h D vs kk) (x : ItOK g φ n h it I J) (htup : ∀ a items k, h.get? a = some (tupObj items k) → h'.get? a = some (tupObj items k)) (hr : Raw [D] h h') : ItOK g φ n h' it I J := by
  have ne : ∀ a o vs', h.get? a = some o → o.data = .fields vs' → h'.get? a = some o := fun a o vs' e hd => hr a o (fun ha => by
    rw [List.mem_singleton.mp ha, d.ob] at e; cases e; cases hd) e
  cases x with
  | list hid hI => obtain ⟨o, e, c, dd⟩ := hI; exact .list hid ⟨o, ne _ _ _ e dd, c, dd⟩
  | range hI => exact .range (ne _ _ _ hI rfl)
  | tup hI ht hr => obtain ⟨o, e, c, dd⟩ := hI; exact .tup ⟨o, ne _ _ _ e dd, c, dd⟩ (htup _ _ _ ht) (hr.keeps (fun _ _ => rfl) (Nat.le_refl _) htup)
  | enumL hid hE hI hne => obtain ⟨o, e, c, dd⟩ := hI; exact .enumL hid (ne _ _ _ hE rfl) ⟨o, ne _ _ _ e dd, c, dd⟩ hne

theorem Ext.off {φ σ h φ' σ' h' h'' J} (X : Ext g φ σ h φ' σ' h') (hJ : Off g φ' σ'.length h' J) (h0 : ∀ j ∈ J, h.get? j = none) (hr : Raw J h' h'') : Ext g φ σ h φ' σ' h'' :=
  ((X.toW (W := fun _ => False) fun _ _ hf _ => hf.elim).off hJ h0 hr).old fun _ _ hf _ => hf

theorem comp_block {A s env φ ρ σ0 σ it I J} {elt target iter : Expr} {ifs : List Expr} {scope : Scope} {pos : Pos} {tt : Bool} (fuel : Nat) {cnm : List Str} {cap : List (Option Nat)} {xs : List Str} {tf : AF} {ts : TF} {ef : EF} {s0 : Heap}
    (h2 : SimA prog w g k (relab nms scope.names) cnm xs target tf) (h3 : SimIfs prog w g k (relab nms scope.names) cnm ifs ts) (h4 : SimE prog w g k (relab nms scope.names) cnm elt ef) (ok : CompOK nms nm scope cnm cap xs)
    (ht : isTup target = tt) (hfu : fuel ≤ 65536) (eo : EnvOK nms env) (hA : Rm A k) (R : Rel g φ σ s.heap) (F : FrameOK g nm env φ σ.length s.heap ρ) (hit : ItOK g φ σ.length s.heap it I J) (hJ : ∀ j ∈ J, s0.get? j = none)
    (X00 : Ext g φ0 σ0 s0 φ σ s.heap)
    {avs σ'} (e : compGo tt tf ts ef fuel it (capρ cap ρ) σ = some (avs, σ')) {E : Value → Shared → Prop} {RR : Value → Addr → Result → Shared → Prop}
    (hRR : ∀ D C h' tk φ' vs n m, Ext g φ0 σ0 s0 φ' σ' h' → s.heap.get? C = none → s.heap.get? D = none → D ≠ C → h'.Ns C m → Dk φ' σ'.length h' D vs n → Reps g φ' σ'.length h' avs vs → RR (.ref D) C (.ok .next) { s with heap := h', toks := tk }) :
    wpAny (model prog w) A (newList []) (fun acc s₃ => wpAny (model prog w) A (newFunctionEnv scope env.globals (clOf env.cells scope.names []) [] env.qual none .none (some env)) (fun cenv s₄ =>
      codeAny (model prog w) A (.compStart (.ListComp elt [⟨target, iter, ifs, 0⟩] scope pos) 0 (.ref I) acc { cenv with scope := relabel scope env }) (RR acc cenv.locals) s₄) E s₃) E s := by
  refine wpAny_newObj_type (wpAny_newFunctionEnv ok.nocell (by intro y hy; simp at hy) (fun h₁ hns₁ hsb₁ => ?_) ok.kind)
  dsimp only at hns₁ hsb₁ ⊢
  generalize hH2 : s.heap.push { cls := .type "list", dict := none, data := .seq ([] : List Value).toArray } = H2 at hns₁ hsb₁ ⊢
  have hC : H2.objs.size = s.heap.objs.size + 1 := by rw [← hH2, Heap.size_push]
  have hDC : s.heap.objs.size ≠ H2.objs.size := by rw [hC]; exact Nat.ne_of_lt (Nat.lt_succ_self _)
  have below : ∀ b, b < s.heap.objs.size → b ≠ H2.objs.size := fun b hb => by rw [hC]; exact Nat.ne_of_lt (Nat.lt_succ_of_lt hb)
  have old : ∀ b o, s.heap.get? b = some o → h₁.get? b = some o := fun b o e => hsb₁.extBut b o (below b (Heap.lt_size e)) (Heap.get?_push_of_some _ (hH2 ▸ Heap.get?_push_of_some _ e))
  have hDob : h₁.get? s.heap.objs.size = some (lstObj [] 0) := hsb₁.extBut _ _ hDC (Heap.get?_push_of_some _ (hH2 ▸ Heap.get?_push_size _ rfl))
  have fresh : ∀ a, s.heap.objs.size ≤ a → s.heap.get? a = none := fun a ha => by
    cases e : s.heap.get? a with
    | none => rfl
    | some o' => exact absurd (Heap.lt_size e) (Nat.not_lt.mpr ha)
  generalize hDd : s.heap.objs.size = D at *
  generalize hCc : H2.objs.size = C at *
  have hCf : s.heap.get? C = none := fresh _ (by rw [hC]; exact Nat.le_succ _)
  have hDf : s.heap.get? D = none := fresh _ (Nat.le_refl _)
  have fr0 : ∀ a, s.heap.get? a = none → s0.get? a = none := fun a ha => by
    cases e' : s0.get? a with
    | none => rfl
    | some o => obtain ⟨o', e''⟩ := X00.live _ _ e'; rw [ha] at e''; cases e''
  have hCg := base_none R hCf
  have hDg := base_none R hDf
  have X0 := Ext.grow R old
  -- the comprehension's frame
  have hfree : ∀ x, (x, NameKind.free) ∈ scope.names → ∃ c, env.cells.lookup x = some c := fun x hx => by
    have := ok.free _ hx rfl
    obtain ⟨c, ov, h1, _⟩ := F.cells x (by unfold Env.kindOf; rw [eo.names]; exact this)
    exact ⟨c, h1⟩
  have hcl : ∀ {x c}, (clOf env.cells scope.names []).lookup x = some c → env.cells.lookup x = some c := fun h => clOf_lookup _ [] hfree (fun _ _ h => by cases h) h
  have kO : ∀ x, env.kindOf x = nms.lookup x := fun x => by unfold Env.kindOf; rw [eo.names]
  have cO : ∀ x, (compEnvC scope (clOf env.cells scope.names []) C env).kindOf x = (relab nms scope.names).lookup x := fun x => by
    show (relabel scope env).names.lookup x = _
    rw [relabel_names eo]
  have hcell : ∀ x, (relab nms scope.names).lookup x = some .cell → scope.names.lookup x = some .free ∧ nms.lookup x = some .cell := fun x hx => by
    rcases relab_lookup hx with ⟨_, h1, h2⟩ | h1
    · exact ⟨h1, h2⟩
    · exact absurd rfl (ok.nocell _ (mem_of_lookup h1))
  have ceo : EnvOK (relab nms scope.names) (compEnvC scope (clOf env.cells scope.names []) C env) := by
    refine ⟨?_, relabel_names eo, eo.globals, eo.builtins, fun x y c h1 h2 => eo.apart x y c (hcl h1) (hcl h2)⟩
    show (relabel scope env).kind = _
    unfold relabel
    exact ok.kind
  have F1 := F.ext X0
  have cF : FrameOK g cnm (compEnvC scope (clOf env.cells scope.names []) C env) φ σ.length h₁ (capρ cap ρ) := by
    obtain ⟨m, hn, hm⟩ := F1.vars
    refine ⟨⟨_, hns₁, fun j av hj => ?_⟩, fun x hx => ?_, hCg⟩
    · have hj' : ∃ i, cap[j]? = some (some i) ∧ Fm.get ρ i = some av := by
        unfold capρ Fm.get at hj
        rw [List.getD_eq_getElem?_getD, List.getElem?_map] at hj
        cases hc : cap[j]? with
        | none => rw [hc] at hj; cases hj
        | some o =>
          cases o with
          | none => rw [hc] at hj; cases hj
          | some i => rw [hc] at hj; exact ⟨i, rfl, hj⟩
      obtain ⟨i, hc, hi⟩ := hj'
      obtain ⟨x, hx1, hx2, hx3⟩ := ok.cap j i hc
      have hxc := ok.free _ (mem_of_lookup hx3) rfl
      obtain ⟨x', hx', hv⟩ := hm i av hi
      rw [hx2] at hx'
      cases hx'
      refine ⟨x, hx1, .inr ⟨by rw [cO]; exact relab_free hx3 hxc, ?_⟩⟩
      rcases hv with ⟨h1, _⟩ | ⟨h1, c, v, h2, h3, h4⟩
      · rw [kO, hxc] at h1; cases h1
      · obtain ⟨c', hc'⟩ := clOf_has (cells := env.cells) scope.names [] (.inl (mem_of_lookup hx3))
        have := hcl hc'
        rw [h2] at this
        cases this
        exact ⟨c, v, hc', h3, h4⟩
    · rw [cO] at hx
      obtain ⟨h1, h2⟩ := hcell x hx
      obtain ⟨c, ov, h3, h4, h5⟩ := F1.cells x (by rw [kO]; exact h2)
      obtain ⟨c', hc'⟩ := clOf_has (cells := env.cells) scope.names [] (.inl (mem_of_lookup h1))
      have := hcl hc'
      rw [h3] at this
      cases this
      exact ⟨c, ov, hc', h4, h5⟩
  have hW : ∀ b, tgtW (compEnvC scope (clOf env.cells scope.names []) C env) xs b → b = C := by
    rintro b (rfl | ⟨x, hx, h1, _⟩)
    · rfl
    · rw [cO] at h1
      have h2 := ok.own x hx
      obtain ⟨h3, _⟩ := hcell x h1
      rw [h2] at h3; cases h3
  have hWD : ¬ tgtW (compEnvC scope (clOf env.cells scope.names []) C env) xs D := fun h => hDC (hW D h)
  have main : ∀ s₃ : Shared, s₃ = { s with heap := h₁, toks := s.toks + ([] : List (Str × Value)).length } →
      codeAny (model prog w) A (.compLoop (.ListComp elt [⟨target, iter, ifs, 0⟩] scope pos) 0 (.ref I) (.ref D) (compEnvC scope (clOf env.cells scope.names []) C env))
        (RR (.ref D) C) s₃ := by
    rintro s₃ rfl
    have hDne : ∀ id, id < σ.length → φ id ≠ D := fun id hid he => by
      obtain ⟨ob, hob, _⟩ := R.objs id (σ[id]'hid) (List.getElem?_eq_getElem hid)
      rw [he, hDf] at hob; cases hob
    have wk0 : WD (tgtW (compEnvC scope (clOf env.cells scope.names []) C env) xs) s0 := fun b o hw e => by rw [hW b hw, fr0 _ hCf] at e; cases e
    refine codeAny_compLoop_own (fun n s' => ∃ h' tk φ' ρ1 σ1 it acc vs kk rest, s' = { s with heap := h', toks := tk } ∧ ExtW g (tgtW (compEnvC scope (clOf env.cells scope.names []) C env) xs) φ0 σ0 s0 φ' σ1 h' ∧
      FrameOK g cnm (compEnvC scope (clOf env.cells scope.names []) C env) φ' σ1.length h' ρ1 ∧ ItOK g φ' σ1.length h' it I J ∧ Dk φ' σ1.length h' D vs kk ∧ Reps g φ' σ1.length h' acc vs ∧ acc.length + n ≤ fuel ∧
      avs = acc ++ rest ∧ compGo tt tf ts ef n it ρ1 σ1 = some (rest, σ')) ?_ fuel
      ⟨h₁, _, φ, capρ cap ρ, σ, it, [], [], 0, avs, rfl, (X00.trans X0).toW wk0, cF, hit.extW (X0.toW F.wk), ⟨hDob, hDne⟩, .nil, by simp, rfl, e⟩
    rintro n s' ⟨h', tk, φ', ρ1, σ1, it, acc, vs, kk, rest, rfl, X, cF1, hit1, dk, hacc, hlen, havs, e⟩
    cases n with
    | zero => cases e
    | succ n =>
      unfold compGo at e
      split at e
      · rename_i htt
        obtain ⟨r, er, e⟩ := obind e
        have htg : tgtOK it target = true := by
          cases it <;> first | rfl | exact ht.trans htt
        refine it_step (tgt := target) hA X.rel hit1 er htg (fun hn h₂ tk₂ raw => ?_) (fun a it' hr v h₂ tk₂ raw hit₂ ra => ?_)
        · subst hn
          have hDJ : D ∉ J := hit1.jok.off dk.ob fun vs h => by cases h
          have X2 := X.raw hit1.jok hJ raw
          injection e with e
          injection e with e1 e2
          subst e1 e2
          rw [List.append_nil] at havs
          subst havs
          obtain ⟨m, hm, _⟩ := (cF1.raw hit1.jok raw).vars
          exact hRR D C h₂ tk₂ φ' vs kk m (X2.old fun b o hw e => by rw [hW b hw, fr0 _ hCf] at e; cases e) hCf hDf hDC hm ⟨raw D _ hDJ dk.ob, dk.ne⟩ (hacc.keeps (fun _ _ => rfl) (Nat.le_refl _) (hit1.jok.tup raw))
        · subst hr
          have hDJ : D ∉ J := hit1.jok.off dk.ob fun vs h => by cases h
          obtain ⟨⟨ρ2, σ2⟩, e2, e⟩ := obind e
          obtain ⟨⟨c, σ3⟩, e3, e⟩ := obind e
          have X2 := X.raw hit1.jok hJ raw
          have cF2 := cF1.raw hit1.jok raw
          have dk2 : Dk φ' σ1.length h₂ D vs kk := ⟨raw D _ hDJ dk.ob, dk.ne⟩
          have hacc2 := hacc.keeps (fun _ _ => rfl) (Nat.le_refl _) (hit1.jok.tup raw)
          refine h2 _ A _ φ' ρ1 σ1 a v ceo hA X2.rel cF2 ra ρ2 σ2 e2 _ _ fun h₃ tk₃ φ₃ X₃ F₃ => ?_
          refine h3 _ A _ φ₃ ρ2 σ2 ceo hA X₃.rel F₃ c σ3 e3 _ _ fun h₄ tk₄ φ₄ X₄ => ?_
          have X4 := (X2.trans X₃).trans (X₄.toW (F₃.wkT xs))
          have F4 := F₃.ext X₄
          have dk4 := (dk2.extW X₃ hWD).ext X₄
          have hit4 := (hit₂.extW X₃).extW (X₄.toW (F₃.wkT xs))
          have hacc4 := (hacc2.extW X₃).ext X₄
          cases c with
          | false =>
            rw [if_neg (by decide)]
            dsimp only at e
            rw [if_neg (by decide)] at e
            exact ⟨n, Nat.lt_succ_self n, h₄, tk₄, φ₄, ρ2, σ3, it', acc, vs, kk, rest, rfl, X4, F4, hit4, dk4, hacc4, by omega, havs, e⟩
          | true =>
            rw [if_pos rfl]
            dsimp only at e
            rw [if_pos rfl] at e
            obtain ⟨⟨x, σ4⟩, e4, e⟩ := obind e
            obtain ⟨⟨z, σ5⟩, e5, e⟩ := obind e
            injection e with e
            injection e with e6 e7
            subst e6 e7
            refine h4 _ A _ φ₄ ρ2 σ3 ceo hA X₄.rel F4 x σ4 e4 _ _ fun xv h₅ tk₅ φ₅ X₅ r₅ => ?_
            have X5 := X4.trans (X₅.toW (F4.wkT xs))
            have F5 := F4.ext X₅
            have dk5 := dk4.ext X₅
            have hit5 := hit4.extW (X₅.toW (F4.wkT xs))
            have hacc5 := hacc4.ext X₅
            have hl : h₅.PlainList D vs.toArray := ⟨kk, dk5.ob⟩
            refine wpAny_list_append_plain hl (fun h₆ hl₆ hsb => ?_) (by
              have h1 := hacc5.length
              have h2 : vs.toArray.size = vs.length := by simp
              rw [h2, h1]
              exact szl (by omega))
            obtain ⟨k6, hob6⟩ := hl₆
            have raw6 : Raw [D] h₅ h₆ := fun b o hb e => hsb.extBut b o (by simpa using hb) e
            have off6 : Off g φ₅ σ4.length h₅ [D] := fun j hj => by
              rw [List.mem_singleton.mp hj]
              exact ⟨dk5.ne, (fun items k he => by rw [dk5.ob] at he; have h9 := congrArg Obj.cls (Option.some.inj he); injection h9 with h9; exact absurd h9 (by decide)), hDg⟩
            have hwD : ∀ j ∈ [D], ¬ envW (compEnvC scope (clOf env.cells scope.names []) C env) j := fun j hj hw => by
              rw [List.mem_singleton.mp hj] at hw
              rcases F5.wk D _ hw dk5.ob with ⟨es, ep, hd⟩ | ⟨v, hd⟩ <;> cases hd
            refine ⟨n, Nat.lt_succ_self n, h₆, tk₅, φ₅, ρ2, σ4, it', acc ++ [x], vs ++ [xv], k6, z, rfl, X5.off off6 (fun j hj => by rw [List.mem_singleton.mp hj]; exact fr0 _ hDf) raw6, F5.off off6 hwD raw6,
              hit5.rawD dk5 (off6.tup raw6) raw6, ⟨?_, dk5.ne⟩, (hacc5.snoc r₅).keeps (fun _ _ => rfl) (Nat.le_refl _) (off6.tup raw6), ?_, ?_, e5⟩
            · rw [hob6]; simp
            · rw [List.length_append, List.length_singleton]; omega
            · rw [havs, List.append_assoc]; rfl
      · cases e
  exact codeAny_compStart_list (main _ rfl) (it_self (hit.extW (X0.toW F.wk)) (main _ rfl))

theorem closureFor_ok {env scope} (eo : EnvOK nms env) {φ n h ρ} (F : FrameOK g nm env φ n h ρ) (hf : ∀ x ∈ scope.names, x.2 = .free → nms.lookup x.1 = some .cell) : closureFor scope env = pure (clOf env.cells scope.names []) := by
  unfold closureFor
  refine closure_ok scope.names [] fun x hx => ?_
  have := hf _ hx rfl
  obtain ⟨c, ov, h1, _⟩ := F.cells x (by unfold Env.kindOf; rw [eo.names]; exact this)
  exact ⟨c, h1⟩

theorem comp_any {env A s φ ρ σ} {elt target iter : Expr} {ifs : List Expr} {scope : Scope} {pos p2 : Pos} {tt : Bool} {fuel : Nat} {cnm : List Str} {cap : List (Option Nat)} {xs : List Str} {fi : IF} {tf : AF} {ts : TF} {ef : EF}
    (h1 : SimI prog w g k nms nm iter fi) (h2 : SimA prog w g k (relab nms scope.names) cnm xs target tf) (h3 : SimIfs prog w g k (relab nms scope.names) cnm ifs ts) (h4 : SimE prog w g k (relab nms scope.names) cnm elt ef) (ok : CompOK nms nm scope cnm cap xs)
    (ht : isTup target = tt) (hfu : fuel ≤ 65536) (hf : ∀ env x, foldedSetIterable iter env x = pure x) (eo : EnvOK nms env) (hA : Rm A k) (R : Rel g φ σ s.heap) (F : FrameOK g nm env φ σ.length s.heap ρ)
    {av σ'} (e : compE tt fuel cap fi tf ts ef ρ σ = some (av, σ')) {use : Option (Value → Sem Unit)} {Q E : Value → Shared → Prop}
    (h : ∀ v C h' tk φ', Ext g φ σ s.heap φ' σ' h' → Rep g φ' σ'.length h' av v → s.heap.get? C = none → (∃ m, h'.Ns C m) → compPost (model prog w) A E use Q v C (.ok .next) { s with heap := h', toks := tk }) :
    wpAny (model prog w) A (comprehension (.ListComp elt [⟨target, iter, ifs, 0⟩] scope pos) scope env p2 (newList []) false (eval iter env) use) Q E s := by
  obtain ⟨⟨it, σ1⟩, e1, e⟩ := obind e
  obtain ⟨⟨avs, σ2⟩, e2, e⟩ := obind e
  injection e with e
  unfold madeL at e
  injection e with e3 e4
  subst e3 e4
  refine wpAny_comprehension_free rfl (hf env) (closureFor_ok eo F ok.free) ok.kind ok.loc (h1 env A s φ ρ σ eo hA R F it σ1 e1 _ _ fun I J h₁ tk₁ φ₁ X₁ hit hJ => ?_)
  refine comp_block fuel h2 h3 h4 ok ht hfu eo hA X₁.rel (F.ext X₁) hit hJ X₁ e2 fun D C h' tk φ' vs n m X hC hD hne hm dk hr => ?_
  have f0 : ∀ a, h₁.get? a = none → s.heap.get? a = none := fun a ha => by
    cases e' : s.heap.get? a with
    | none => rfl
    | some o => obtain ⟨o', e''⟩ := X₁.live _ _ e'; rw [ha] at e''; cases e''
  obtain ⟨X2, r2⟩ := X.adopt (f0 D hD) dk.ne dk.ob hr
  exact h _ C h' tk _ X2 r2 (f0 C hC) ⟨m, hm⟩

/-- the comprehension's own frame let go -/
theorem Ext.offC {φ σ h φ' σ' h' h'' C m} (X : Ext g φ σ h φ' σ' h') (hC : h.get? C = none) (hm : h'.Ns C m) (hs : Heap.SameBut C h' h'') : Ext g φ σ h φ' σ' h'' := by
  obtain ⟨o, es, ep, e1, e2, _⟩ := hm
  refine X.off (J := [C]) (fun j hj => ?_) (fun j hj => by rw [List.mem_singleton.mp hj]; exact hC) fun b o hb e => hs.extBut b o (by simpa using hb) e
  rw [List.mem_singleton.mp hj]
  exact ⟨X.rel.apart e1 (not_mut_dict e2), (fun items k he => by rw [e1] at he; cases he; cases e2), base_none X.rel0 hC⟩

theorem sim_comp {elt target iter : Expr} {ifs : List Expr} {scope : Scope} {pos : Pos} (tt : Bool) (fuel : Nat) (cnm : List Str) (cap : List (Option Nat)) (xs : List Str) {fi : IF} {tf : AF} {ts : TF} {ef : EF}
    (ok : CompOK nms nm scope cnm cap xs) (h1 : SimI prog w g k nms nm iter fi) (h2 : SimA prog w g k (relab nms scope.names) cnm xs target tf) (h3 : SimIfs prog w g k (relab nms scope.names) cnm ifs ts) (h4 : SimE prog w g k (relab nms scope.names) cnm elt ef)
    (ht : isTup target = tt) (hfu : fuel ≤ 65536) (hf : ∀ env x, foldedSetIterable iter env x = pure x) : SimE prog w g k nms nm (.ListComp elt [⟨target, iter, ifs, 0⟩] scope pos) (compE tt fuel cap fi tf ts ef) := by
  intro env A s φ ρ σ eo hA R F av σ' e Q E h
  rw [eval_ListComp]
  refine comp_any h1 h2 h3 h4 ok ht hfu hf eo hA R F e fun v C h' tk φ' X r hC hm => ?_
  obtain ⟨m, hm⟩ := hm
  refine ⟨m, hm, fun h'' hs => ?_⟩
  have X2 := X.offC hC hm hs
  refine h v h'' tk φ' X2 (r.keeps (fun _ _ => rfl) (Nat.le_refl _) fun a items k e => hs.extBut a _ (fun hac => ?_) e)
  obtain ⟨o, es, ep, e1, e2, _⟩ := hm
  rw [hac, e1] at e; cases e; cases e2

theorem sims_assignComp {x : Str} {px : Pos} {elt target iter : Expr} {ifs : List Expr} {scope : Scope} {pos ap : Pos} (i : Nat) (tt : Bool) (fuel : Nat) (cnm : List Str) (cap : List (Option Nat)) (xs : List Str) {fi : IF} {tf : AF} {ts : TF} {ef : EF}
    (ok : CompOK nms nm scope cnm cap xs) (h1 : SimI prog w g k nms nm iter fi) (h2 : SimA prog w g k (relab nms scope.names) cnm xs target tf) (h3 : SimIfs prog w g k (relab nms scope.names) cnm ifs ts) (h4 : SimE prog w g k (relab nms scope.names) cnm elt ef)
    (ht : isTup target = tt) (hfu : fuel ≤ 65536) (hf : ∀ env x, foldedSetIterable iter env x = pure x) (hx : nm[i]? = some x) (hk : stKind nms x = true) (hnd : nm.Nodup)
    (hs : ∀ env, EnvOK nms env → swapsWith (.ListComp elt [⟨target, iter, ifs, 0⟩] scope pos) (some (.Name x px)) ap.line env = pure true) :
    SimS prog w g k nms nm (.Assign [.Name x px] (.ListComp elt [⟨target, iter, ifs, 0⟩] scope pos) ap) (asgS i (compE tt fuel cap fi tf ts ef)) := by
  intro env A s φ ρ σ eo hA R F fl ρ' σ' e Q E h
  obtain ⟨⟨a, σ1⟩, e1, e⟩ := obind e
  cases e
  rw [exec_Assign_Name_used _ _ _ _ (hs env eo)]
  refine wpAny_bind (wpAny_standAt ?_)
  refine wpAny_bind ?_
  rw [arm_evalThenUse_ListComp]
  refine wpAny_bind (comp_any h1 h2 h3 h4 ok ht hfu hf eo hA R F e1 fun v C h' tk φ' X r hC hm => ?_)
  refine wpAny_assign_Name (sim_store (xs := [x]) eo X.rel (F.ext X) r hx hk hnd (List.mem_singleton_self x) fun h₂ tk₂ X₂ F₂ => ?_)
  obtain ⟨m, hm⟩ := hm
  obtain ⟨o, es, ep, e1, e2, hme⟩ := id hm
  have hCW : ¬ envW env C := by
    rintro (rfl | ⟨y, hy, hc⟩)
    · obtain ⟨m, ⟨o, es, ep, e, _⟩, _⟩ := F.vars; rw [hC] at e; cases e
    · obtain ⟨c, ov, h1, ⟨o, e, _⟩, _⟩ := F.cells y hy
      rw [hc] at h1; cases h1; rw [hC] at e; cases e
  have e1' := X₂.keep C o e1 (X.rel.apart e1 (not_mut_dict e2)) fun hw => hCW hw.up
  have XX := (X.toW F.wk).trans (X₂.up (F.ext X).wk)
  refine ⟨m, ⟨o, es, ep, e1', e2, hme⟩, fun h₃ hs₃ => ?_⟩
  have off : Off g φ' σ1.length h₂ [C] := fun j hj => by
    rw [List.mem_singleton.mp hj]
    exact ⟨X₂.rel.apart e1' (not_mut_dict e2), (fun items k he => by rw [e1'] at he; cases he; cases e2), base_none X.rel0 hC⟩
  have raw : Raw [C] h₂ h₃ := fun b o hb e => hs₃.extBut b o (by simpa using hb) e
  exact wpAny_pure (wpAny_pure (h _ h₃ tk₂ φ' (XX.off off (fun j hj => by rw [List.mem_singleton.mp hj]; exact hC) raw) .next (F₂.off off (fun j hj => by rw [List.mem_singleton.mp hj]; exact hCW) raw)))
end
end Mine
end
section
set_option maxRecDepth 100000
namespace Mine

/-! functions of the program -/
structure FnOK (g : Heap) (a : Addr) (fd : FuncData) (body : List Stmt) (nms : List (Str × NameKind)) (params : List Str) : Prop where
  ob : ∃ o, g.get? a = some o ∧ o.data = .func fd
  lim : g.NoLimit
  code : g.CodeRec fd.code fd.qualname
  body : fd.body = .stmts body
  names : fd.scope.names = nms
  kind : fd.scope.kind = .function
  coro : fd.scope.isCoroutine = false
  gen : fd.scope.isGenerator = false
  clo : fd.closure = []
  glob : fd.globals = mainGlobals
  bi : fd.builtins = builtinsNs
  par : ∀ x ∈ params, stKind nms x = true

theorem bind_lookup {kindOf : Str → Option NameKind} : ∀ (params : List Str) (vs : List Value) (m cm : Str → Option Value), params.Nodup → (∀ x ∈ params, kindOf x = some .local ∨ kindOf x = some .cell) →
    (∀ x, x ∉ params → bindL kindOf (params.zip vs) m x = m x ∧ bindC kindOf (params.zip vs) cm x = cm x) ∧
    (∀ (i : Nat) x v, params[i]? = some x → vs[i]? = some v → (kindOf x = some .local → bindL kindOf (params.zip vs) m x = some v) ∧ (kindOf x = some .cell → bindC kindOf (params.zip vs) cm x = some v))
  | [], vs, m, cm, _, _ => ⟨fun x _ => ⟨rfl, rfl⟩, fun i x v h => by simp at h⟩
  | p :: ps, [], m, cm, _, _ => ⟨fun x _ => ⟨rfl, rfl⟩, fun i x v _ h => by simp at h⟩
  | p :: ps, u :: vs, m, cm, hn, hk => by
    obtain ⟨hp, hn'⟩ := List.nodup_cons.mp hn
    have ih := fun m cm => bind_lookup (kindOf := kindOf) ps vs m cm hn' fun x hx => hk x (List.mem_cons_of_mem _ hx)
    rcases hk p (List.mem_cons_self ..) with hl | hc
    · have e1 : bindL kindOf ((p :: ps).zip (u :: vs)) m = bindL kindOf (ps.zip vs) (fun y => if y = p then some u else m y) := by
        show bindL kindOf ((p, u) :: ps.zip vs) m = _
        rw [bindL, if_pos hl]
      have e2 : bindC kindOf ((p :: ps).zip (u :: vs)) cm = bindC kindOf (ps.zip vs) cm := by
        show bindC kindOf ((p, u) :: ps.zip vs) cm = _
        rw [bindC, if_pos hl]
      rw [e1, e2]
      obtain ⟨i1, i2⟩ := ih (fun y => if y = p then some u else m y) cm
      refine ⟨fun x hx => ?_, fun i x v hi hv => ?_⟩
      · have h1 := i1 x fun h => hx (List.mem_cons_of_mem _ h)
        have hne : x ≠ p := fun h => hx (h ▸ List.mem_cons_self ..)
        exact ⟨h1.1.trans (if_neg hne), h1.2⟩
      · cases i with
        | zero =>
          simp at hi hv
          subst hi hv
          exact ⟨fun _ => (i1 p hp).1.trans (if_pos rfl), fun h => by rw [hl] at h; cases h⟩
        | succ i => exact i2 i x v (by simpa using hi) (by simpa using hv)
    · have hnl : ¬ kindOf p = some .local := fun h => by rw [hc] at h; cases h
      have e1 : bindL kindOf ((p :: ps).zip (u :: vs)) m = bindL kindOf (ps.zip vs) m := by
        show bindL kindOf ((p, u) :: ps.zip vs) m = _
        rw [bindL, if_neg hnl]
      have e2 : bindC kindOf ((p :: ps).zip (u :: vs)) cm = bindC kindOf (ps.zip vs) (fun y => if y = p then some u else cm y) := by
        show bindC kindOf ((p, u) :: ps.zip vs) cm = _
        rw [bindC, if_neg hnl]
      rw [e1, e2]
      obtain ⟨i1, i2⟩ := ih m (fun y => if y = p then some u else cm y)
      refine ⟨fun x hx => ?_, fun i x v hi hv => ?_⟩
      · have h1 := i1 x fun h => hx (List.mem_cons_of_mem _ h)
        have hne : x ≠ p := fun h => hx (h ▸ List.mem_cons_self ..)
        exact ⟨h1.1, h1.2.trans (if_neg hne)⟩
      · cases i with
        | zero =>
          simp at hi hv
          subst hi hv
          exact ⟨fun h => absurd h hnl, fun _ => (i1 p hp).2.trans (if_pos rfl)⟩
        | succ i => exact i2 i x v (by simpa using hi) (by simpa using hv)

theorem cellsFrom_has : ∀ (names : List (Str × NameKind)) (n : Nat) (acc : List (Str × Addr)) {x}, ((x, NameKind.cell) ∈ names ∨ (acc.lookup x).isSome = true) → ((cellsFrom n names acc).lookup x).isSome = true
  | [], n, acc, x, h => by
    rcases h with h | h
    · cases h
    · exact h
  | (y, k) :: r, n, acc, x, h => by
    unfold cellsFrom
    split
    · rename_i hk
      refine cellsFrom_has r _ _ ?_
      rcases h with h | h
      · rcases List.mem_cons.mp h with e | h
        · injection e with e1 e2
          subst e1
          exact .inr (by simp [List.lookup_cons])
        · exact .inl h
      · refine .inr ?_
        cases hx : x == y with
        | true => simp only [List.lookup_cons, hx]; rfl
        | false => simp only [List.lookup_cons, hx]; exact h
    · rename_i hk
      refine cellsFrom_has r _ _ ?_
      rcases h with h | h
      · rcases List.mem_cons.mp h with e | h
        · injection e with e1 e2
          subst e2
          exact absurd rfl hk
        · exact .inl h
      · exact .inr h

noncomputable def callF (nl : Nat) (bf : SF) : CF := fun as σ => (bf (as.map some ++ List.replicate nl none) σ).bind fun q => match q.1 with
  | .ret v => some (v, q.2.2)
  | .next => some (.con .none, q.2.2)
  | _ => none

section
variable {prog : Program} {w : World} {g : Heap} {k : Nat} {nms : List (Str × NameKind)} {nm : List Str}

theorem Rm.deeper {A : Around} {env : Env} (h : Rm A (k + 1)) : Rm (A.deeper env) k := ⟨h.hd, by have := h.dp; show A.depth + 1 + k < _; omega, by have := h.un; show A.units + 3 + 8 * k + 50 < _; omega⟩

theorem run_fn {A s φ σ} {a : Addr} {fd : FuncData} {body : List Stmt} {params locs : List Str} {vals : List Value} {args : Args} {as : List AV} {bf : SF} (fn : FnOK g a fd body nms params) (hb : BindsTo s fd args (params.zip vals))
    (hr : Reps g φ σ.length s.heap as vals) (hlen : as.length = params.length) (hnm : nm = params ++ locs) (hnd : nm.Nodup) (hs : SimSs prog w g k nms nm body bf) (hA : Rm A (k + 1)) (R : Rel g φ σ s.heap) {nl : Nat} {av σ'} (e : callF nl bf as σ = some (av, σ')) {Q E : Value → Shared → Prop}
    (h : ∀ v h' tk φ', Ext g φ σ s.heap φ' σ' h' → Rep g φ' σ'.length h' av v → Q v { s with heap := h', toks := tk }) :
    wpAny (model prog w) A (call (.ref a) args.pos args.kw) Q E s := by
  obtain ⟨⟨c, ρ', σ2⟩, e1, e⟩ := obind e
  obtain ⟨o, ho, hdata⟩ := fn.ob
  have kd : ∀ x ∈ params, fd.scope.names.lookup x = some .local ∨ fd.scope.names.lookup x = some .cell := fun x hx => by
    have := fn.par x hx
    unfold stKind at this
    rw [Bool.or_eq_true, beq_iff_eq, beq_iff_eq] at this
    rw [fn.names]; exact this
  have hpn : params.Nodup := by rw [hnm] at hnd; exact (List.nodup_append.mp hnd).1
  refine wpAny_call (codeAny_call_function (by have := hA.dp; omega) (R.base _ _ ho) hdata fn.coro fn.gen fn.body (fn.code.keeps R.base) (hb _ _ _ _ ?_))
  rw [fn.clo]
  refine wpAny_newFunctionEnv_cells fn.kind (fun x hx => ?_) fun env he s' x => ?_
  · have hx1 := (List.of_mem_zip hx).1
    rcases kd _ hx1 with h1 | h1
    · exact .inl h1
    · exact .inr ⟨h1, cellsFrom_has _ _ _ (.inl (mem_of_lookup h1))⟩
  · subst he
    obtain ⟨h₁, tk₁, rfl⟩ := x.toInCall.same
    refine ⟨(fn.lim.keeps R.base).keeps x.toInCall.keep, codeAny_func ?_⟩
    have X0 := Ext.grow (h' := h₁) R x.toInCall.keep
    generalize hL : s.heap.objs.size = L at x
    generalize henv : newEnv fd.scope L fd.globals (cellsFrom (L + 1) fd.scope.names []) (fd.qualname ++ ".<locals>.") (some a) fd.code none fd.builtins = env at x
    have eL : env.locals = L := by rw [← henv]; rfl
    have eC : env.cells = cellsFrom (L + 1) fd.scope.names [] := by rw [← henv]; rfl
    have eK : ∀ y, env.kindOf y = fd.scope.names.lookup y := fun y => by rw [← henv]; rfl
    have fresh : ∀ b, L ≤ b → s.heap.get? b = none := fun b hb => by
      cases e : s.heap.get? b with
      | none => rfl
      | some o' => exact absurd (Heap.lt_size e) (Nat.not_lt.mpr (by rw [hL]; exact hb))
    have hW : ∀ b, envW env b → s.heap.get? b = none := by
      rintro b (rfl | ⟨y, hy, hc⟩)
      · exact fresh _ (by rw [eL]; exact Nat.le_refl _)
      · exact fresh _ (Nat.le_of_lt (by have := x.above y b (mem_of_lookup hc); rwa [eL] at this))
    have eo : EnvOK nms env := by
      refine ⟨by rw [← henv]; exact fn.kind, by rw [← henv]; exact fn.names, by rw [← henv]; exact fn.glob, by rw [← henv]; exact fn.bi, fun y z c h1 h2 => ?_⟩
      exact name_of_addr x.apart (mem_of_lookup h1) (mem_of_lookup h2)
    obtain ⟨b1, b2⟩ := bind_lookup (kindOf := env.kindOf) params vals (fun _ => none) (fun _ => none) hpn fun y hy => by rw [eK]; exact kd y hy
    have F : FrameOK g nm env φ σ.length h₁ (as.map some ++ List.replicate nl none) := by
      refine ⟨⟨_, x.toInCall.ns, fun i av' hi => ?_⟩, fun y hy => ?_, base_none R (hW _ (.inl rfl))⟩
      · have hi' : as[i]? = some av' := by
          unfold Fm.get at hi
          rw [List.getD_eq_getElem?_getD] at hi
          by_cases hlt : i < as.length
          · rw [List.getElem?_append_left (by simpa using hlt), List.getElem?_map] at hi
            cases h9 : as[i]? with
            | none => rw [h9] at hi; cases hi
            | some q => rw [h9] at hi; exact congrArg some (by simpa using hi)
          · rw [List.getElem?_append_right (by simpa using Nat.not_lt.mp hlt), List.getElem?_replicate] at hi
            split at hi <;> cases hi
        obtain ⟨v, hv, hrep⟩ := hr.get hi'
        have hip : i < params.length := by rw [← hlen]; exact (List.getElem?_eq_some_iff.mp hi').1
        have hp : params[i]? = some params[i] := List.getElem?_eq_getElem hip
        refine ⟨params[i], by rw [hnm, List.getElem?_append_left hip]; exact hp, ?_⟩
        obtain ⟨c1, c2⟩ := b2 i _ v hp hv
        rcases kd params[i] (List.getElem_mem hip) with h1 | h1
        · exact .inl ⟨by rw [eK]; exact h1, v, c1 (by rw [eK]; exact h1), hrep.ext X0⟩
        · have hk : env.kindOf params[i] = some .cell := by rw [eK]; exact h1
          have := cellsFrom_has fd.scope.names (L + 1) [] (.inl (mem_of_lookup h1))
          rw [← eC] at this
          obtain ⟨cc, hcc⟩ := Option.isSome_iff_exists.mp this
          have h5 := x.cell _ _ hcc
          rw [c2 hk] at h5
          exact .inr ⟨hk, cc, v, hcc, h5, hrep.ext X0⟩
      · have hk := hy
        rw [eK] at hy
        have := cellsFrom_has fd.scope.names (L + 1) [] (.inl (mem_of_lookup hy))
        rw [← eC] at this
        obtain ⟨cc, hcc⟩ := Option.isSome_iff_exists.mp this
        exact ⟨cc, _, hcc, x.cell _ _ hcc, base_none R (hW _ (.inr ⟨y, hk, hcc⟩))⟩
    refine hs env (A.deeper env) { s with heap := h₁, toks := tk₁ } φ _ σ eo hA.deeper X0.rel F c ρ' σ2 e1 _ _ fun flc h₂ tk₂ φ₂ X₂ r₂ F₂ => ?_
    have wk : WD (envW env) s.heap := fun b o hw e => by rw [hW b hw] at e; cases e
    have X : Ext g φ σ s.heap φ₂ σ2 h₂ := ((X0.toW wk).trans X₂).old fun b o hw e => by rw [hW b hw] at e; cases e
    cases r₂ with
    | next => cases e; exact h _ h₂ tk₂ φ₂ X (.con _)
    | brk => cases e
    | cont => cases e
    | ret r => cases e; exact h _ h₂ tk₂ φ₂ X r

/-- called with its parameters, one by one -/
theorem prim_fn {a : Addr} {fd : FuncData} {body : List Stmt} {params : List Str} {locs : List Str} {bf : SF} (fn : FnOK g a fd body nms params) (hs : SimSs prog w g k nms nm body bf) (hnm : nm = params ++ locs) (hnd : nm.Nodup) (nl : Nat)
    (hb : ∀ vs : List Value, vs.length = params.length → bindArgs fd ⟨vs, []⟩ = pure (params.zip vs)) : PrimC prog w g (k + 1) (.ref a) (fun as σ => if as.length = params.length then callF nl bf as σ else none) := by
  intro A s φ σ as vs hA R hr av σ' e Q E h
  dsimp only at e
  split at e
  · rename_i hl
    exact run_fn (args := ⟨vs, []⟩) fn (.of_eq (hb vs (hr.length.trans hl))) hr hl hnm hnd hs hA R e h
  · cases e

theorem sim_callF {x : Str} {a : Addr} {p pos : Pos} {args : List Expr} {fs : EFs} {op : CF} {fd : FuncData} (hk : nms.lookup x = some .globalImplicit) (hd : (x == ("__debug__" : Str)) = false) (hg : GlobIs g x (.ref a))
    (hf : ∃ o, g.get? a = some o ∧ o.data = .func fd) (h1 : SimEs prog w g k nms nm args fs) (pl : Plain args) (hp : PrimC prog w g k (.ref a) op) : SimE prog w g k nms nm (.Call (.Name x p) args [] pos) (callE op fs) := by
  intro env A s φ ρ σ eo hA R F av σ' e Q E h
  obtain ⟨⟨as, σ1⟩, e1, e⟩ := obind e
  obtain ⟨o, ho, hdata⟩ := hf
  refine wpAny_Call_Name_kw (sim_glob (prog := prog) (w := w) (k := k) (nms := nms) (nm := nm) (pos := p) (.ref a) hk hd hg env A s φ ρ σ eo hA R F _ _ rfl _ _ fun v h₁ tk₁ φ₁ X₁ r₁ => ?_)
  cases r₁
  refine Calls.callWith_function (o := o) (fd := fd) ?_
  obtain ⟨e0, es, rfl, hst⟩ := pl.first
  have main := h1 env A { s with heap := h₁, toks := tk₁ } φ₁ ρ σ pos eo hA X₁.rel (F.ext X₁) as σ1 e1 (fun vs s₂ => (s₂.heap.get? a = some o ∧ o.data = .func fd) ∧ wpAny (model prog w) A (call (.ref a) vs) Q E s₂) E
    fun vs h₂ tk₂ φ₂ X₂ r₂ => ⟨⟨X₂.rel.base _ _ ho, hdata⟩, hp A _ φ₂ σ1 as vs hA X₂.rel r₂ av σ' e _ _ fun v h₃ tk₃ φ₃ X₃ r₃ => h v h₃ tk₃ φ₃ ((X₁.trans X₂).trans X₃) r₃⟩
  rw [hst] at main ⊢
  exact evalArgs_plain main
end
end Mine
end
section
set_option maxRecDepth 100000
namespace Mine

/-- a call of the function that a variable holds: only this one -/
noncomputable def callVE (i : Nat) (a : Addr) (op : CF) (fs : EFs) : EF := fun ρ σ => match Fm.get ρ i with
  | some (.con (.ref b)) => if b = a then callE op fs ρ σ else none
  | _ => none
noncomputable abbrev KF := List AV → AV → St → Option (AV × St)
noncomputable def callKE (op : KF) (fs : EFs) (fk : EF) : EF := fun ρ σ => (fs ρ σ).bind fun p => (fk ρ p.2).bind fun q => op p.1 q.1 q.2
noncomputable abbrev MF := AV → List AV → St → Option (AV × St)
section
variable {prog : Program} {w : World} {g : Heap} {k : Nat} {nms : List (Str × NameKind)} {nm : List Str}

theorem sim_callV {x : Str} {a : Addr} {p pos : Pos} {args : List Expr} {fs : EFs} {op : CF} {fd : FuncData} (i : Nat) (hx : nm[i]? = some x) (hd : (x == ("__debug__" : Str)) = false)
    (hf : ∃ o, g.get? a = some o ∧ o.data = .func fd) (h1 : SimEs prog w g k nms nm args fs) (pl : Plain args) (hp : PrimC prog w g k (.ref a) op) : SimE prog w g k nms nm (.Call (.Name x p) args [] pos) (callVE i a op fs) := by
  intro env A s φ ρ σ eo hA R F av σ' e Q E h
  unfold callVE at e
  split at e
  · rename_i b hv
    split at e
    · rename_i hba
      subst hba
      obtain ⟨⟨as, σ1⟩, e1, e⟩ := obind e
      obtain ⟨o, ho, hdata⟩ := hf
      refine wpAny_Call_Name_kw (sim_var (prog := prog) (w := w) (g := g) (k := k) (nms := nms) (nm := nm) (pos := p) i hx hd env A s φ ρ σ eo hA R F (.con (.ref b)) σ (by unfold varE; rw [hv]; rfl) _ _ fun v h₁ tk₁ φ₁ X₁ r₁ => ?_)
      cases r₁
      refine Calls.callWith_function (o := o) (fd := fd) ?_
      obtain ⟨e0, es, rfl, hst⟩ := pl.first
      have main := h1 env A { s with heap := h₁, toks := tk₁ } φ₁ ρ σ pos eo hA X₁.rel (F.ext X₁) as σ1 e1 (fun vs s₂ => (s₂.heap.get? b = some o ∧ o.data = .func fd) ∧ wpAny (model prog w) A (call (.ref b) vs) Q E s₂) E
        fun vs h₂ tk₂ φ₂ X₂ r₂ => ⟨⟨X₂.rel.base _ _ ho, hdata⟩, hp A _ φ₂ σ1 as vs hA X₂.rel r₂ av σ' e _ _ fun v h₃ tk₃ φ₃ X₃ r₃ => h v h₃ tk₃ φ₃ ((X₁.trans X₂).trans X₃) r₃⟩
      rw [hst] at main ⊢
      exact evalArgs_plain main
    · cases e
  · cases e

variable (prog w g k) in
noncomputable def PrimK (f : Value) (kn : Str) (op : KF) : Prop :=
  ∀ A s φ σ as vs b vb, Rm A k → Rel g φ σ s.heap → Reps g φ σ.length s.heap as vs → Rep g φ σ.length s.heap b vb → Runs prog w g A s φ σ (call f vs [(kn, vb)]) (op as b σ)
theorem sim_callK {x kn : Str} {a : Addr} {p pos kp : Pos} {args : List Expr} {ke : Expr} {fs : EFs} {fk : EF} {op : KF} {fd : FuncData} (hk : nms.lookup x = some .globalImplicit) (hd : (x == ("__debug__" : Str)) = false) (hg : GlobIs g x (.ref a))
    (hf : ∃ o, g.get? a = some o ∧ o.data = .func fd) (h1 : SimEs prog w g k nms nm args fs) (pl : Plain args) (h2 : SimE prog w g k nms nm ke fk) (hp : PrimK prog w g k (.ref a) kn op) :
    SimE prog w g k nms nm (.Call (.Name x p) args [⟨some kn, ke, kp⟩] pos) (callKE op fs fk) := by
  intro env A s φ ρ σ eo hA R F av σ' e Q E h
  obtain ⟨⟨as, σ1⟩, e1, e⟩ := obind e
  obtain ⟨⟨b, σ2⟩, e2, e⟩ := obind e
  obtain ⟨o, ho, hdata⟩ := hf
  refine wpAny_Call_Name_kw (sim_glob (prog := prog) (w := w) (k := k) (nms := nms) (nm := nm) (pos := p) (.ref a) hk hd hg env A s φ ρ σ eo hA R F _ _ rfl _ _ fun v h₁ tk₁ φ₁ X₁ r₁ => ?_)
  cases r₁
  refine PySem.callWith_function_kw (o := o) (fd := fd) ?_
  obtain ⟨e0, es, rfl, hst⟩ := pl.first
  have main := h1 env A { s with heap := h₁, toks := tk₁ } φ₁ ρ σ pos eo hA X₁.rel (F.ext X₁) as σ1 e1
    (fun vs s₂ => wpAny (model prog w) A (evalAll ((backToKw pos (keywordEach [⟨some kn, ke, kp⟩] env)).map (·.2))) (fun ks s₃ => (s₃.heap.get? a = some o ∧ o.data = .func fd) ∧ wpAny (model prog w) A (call (.ref a) vs ([kn].zip ks)) Q E s₃) E s₂) E
    fun vs h₂ tk₂ φ₂ X₂ r₂ => ?_
  · rw [hst] at main ⊢
    exact PySem.evalArgs_kw rfl main
  · refine PySem.wpAny_evalAll_cons (wpAny_bind (h2 env A { s with heap := h₂, toks := tk₂ } φ₂ ρ σ1 eo hA X₂.rel ((F.ext X₁).ext X₂) b σ2 e2 _ _ fun vb h₃ tk₃ φ₃ X₃ r₃ => ?_))
    refine wpAny_bind (wpAny_standAt (wpAny_pure (PySem.wpAny_evalAll_nil ⟨⟨X₃.rel.base _ _ ho, hdata⟩, ?_⟩)))
    exact hp A _ φ₃ σ2 as vs b vb hA X₃.rel (r₂.ext X₃) r₃ av σ' e _ _ fun v h₄ tk₄ φ₄ X₄ r₄ => h v h₄ tk₄ φ₄ (((X₁.trans X₂).trans X₃).trans X₄) r₄

/-! methods of built-in values -/
variable (prog w g k) in
structure PrimM (name : Str) (id : String) (ok : AV → St → Bool) (op : MF) : Prop where
  get : ∀ A s φ σ a va (pl : Sem Bool) (Q : Value × List Value → Shared → Prop) (E : Value → Shared → Prop), Rel g φ σ s.heap → Rep g φ σ.length s.heap a va → ok a σ = true → Q (.builtin id, [va]) s → wpAny (model prog w) A (getMethod va name pl) Q E s
  call : ∀ A s φ σ a as va vs, Rm A k → Rel g φ σ s.heap → Rep g φ σ.length s.heap a va → Reps g φ σ.length s.heap as vs → Runs prog w g A s φ σ (call (.builtin id) (va :: vs)) (op a as σ)
noncomputable def methO (ok : AV → St → Bool) (op : MF) (fo : EF) (fs : EFs) : EF := fun ρ σ => (fo ρ σ).bind fun p => if ok p.1 p.2 = true then (fs ρ p.2).bind fun q => op p.1 q.1 q.2 else none
theorem sim_meth {o : Expr} {name : Str} {id : String} {apos pos : Pos} {args : List Expr} {fo : EF} {fs : EFs} {ok : AV → St → Bool} {op : MF} (h1 : SimE prog w g k nms nm o fo) (h2 : SimEs prog w g k nms nm args fs) (pl : Plain args) (hp : PrimM prog w g k name id ok op)
    (he : ∀ env, ∃ pl : Sem Bool, eval (.Call (.Attribute o name apos) args [] pos) env = (do
      let ov ← eval o env
      standAt apos.atName
      let (f, first) ← holding [ov] (getMethod ov name pl)
      callWith pos f first (backTo pos (starEach args env)) [])) :
    SimE prog w g k nms nm (.Call (.Attribute o name apos) args [] pos) (methO ok op fo fs) := by
  intro env A s φ ρ σ eo hA R F av σ' e Q E h
  obtain ⟨⟨a, σ1⟩, e1, e⟩ := obind e
  dsimp only at e
  split at e
  · rename_i hok
    obtain ⟨⟨as, σ2⟩, e2, e⟩ := obind e
    obtain ⟨pl', he⟩ := he env
    refine MethodCall_ (h1 env A s φ ρ σ eo hA R F a σ1 e1 _ _ fun va h₁ tk₁ φ₁ X₁ r₁ => hp.get A _ φ₁ σ1 a va pl' _ _ X₁.rel r₁ hok ?_) he
    refine Calls.callWith_builtin (pl.plain env pos) ?_
    obtain ⟨e0, es, rfl, hst⟩ := pl.first
    have main := h2 env A { s with heap := h₁, toks := tk₁ } φ₁ ρ σ1 pos eo hA X₁.rel (F.ext X₁) as σ2 e2 (fun vs s₂ => wpAny (model prog w) A (call (.builtin id) (va :: vs)) Q E s₂) E
      fun vs h₂ tk₂ φ₂ X₂ r₂ => hp.call A _ φ₂ σ2 a as va vs hA X₂.rel (r₁.ext X₂) r₂ av σ' e _ _ fun v h₃ tk₃ φ₃ X₃ r₃ => h v h₃ tk₃ φ₃ ((X₁.trans X₂).trans X₃) r₃
    rw [hst] at main ⊢
    exact evalArgs_plain main
  · cases e
theorem meth_eq {o : Expr} {name : Str} {apos pos : Pos} {args : List Expr} (hb : ∀ env, attributeBase o name env (eval o env) = eval o env)
    (hf : ∀ env, methodCallForm (args.length + ([] : List Keyword).length) (backTo pos (starEach args env)) (backToKw pos (keywordEach [] env)) = true) (hl : (apos.endLine == pos.line) = true) (env : Env) : ∃ pl : Sem Bool, eval (.Call (.Attribute o name apos) args [] pos) env = (do
      let ov ← eval o env
      standAt apos.atName
      let (f, first) ← holding [ov] (getMethod ov name pl)
      callWith pos f first (backTo pos (starEach args env)) []) := by
  refine ⟨(do return (← importBound o env).getD true), ?_⟩
  rw [arm_eval_Call, hb]
  have hpos : methodCallPos true o env apos pos = pure pos := by unfold methodCallPos; simp [hl]
  unfold methodCall
  rw [hf, hpos]
  simp only [pure_bind]
  rfl
end
end Mine
end
section
set_option maxRecDepth 100000
namespace Mine

theorem upd_list {h : Heap} {a : Addr} {vs : List Value} {n : Nat} (f : Array Value → Array Value) (e : h.get? a = some (lstObj vs n)) : ∃ n', (h.update a (Obj.mapSeq f)).get? a = some { cls := .type "list", data := .seq (f vs.toArray) n' } :=
  ⟨_, Heap.get?_update_self _ e rfl⟩

noncomputable def i64 (x : Int) : Bool := decide (x.natAbs < 18446744073709551616)
theorem i64_lt {x : Int} (h : i64 x = true) : x.natAbs < 2 ^ 64 := of_decide_eq_true h
theorem i64_bits {x : Int} (h : i64 x = true) : Builtin.Int.intBits x ≤ 64 := by
  unfold Builtin.Int.intBits
  split
  · omega
  · rename_i h0
    have hx : x.natAbs ≠ 0 := by
      intro h1
      have : x = 0 := Int.natAbs_eq_zero.mp h1
      simp [this] at h0
    have := (Nat.log2_lt hx).mpr (i64_lt h)
    omega

section
variable {prog : Program} {w : World} {g : Heap} {k : Nat}

/-- an object of ours that is a list -/
theorem Rel.lst {φ σ h id xs} (R : Rel g φ σ h) (e : σ[id]? = some (AO.list xs)) : ∃ items n, h.get? (φ id) = some (lstObj items n) ∧ Reps g φ σ.length h xs items ∧ id < σ.length := by
  obtain ⟨ob, hob, hr⟩ := R.objs id _ e
  cases hr with
  | list hr => exact ⟨_, _, hob, hr, (List.getElem?_eq_some_iff.mp e).1⟩
theorem szl2 {n : Nat} (h : n ≤ 65536) : n ≤ sizeLine + 1 := Nat.le_succ_of_le (szl h)

noncomputable def addO : BF := fun a b σ => match a, b with
  | .int x, .int y => some (.int (x + y), σ)
  | .str x, .str y => if x.length + y.length ≤ 65536 then some (.str (x ++ y), σ) else none
  | .ref i, .ref j => match σ[i]?, σ[j]? with
    | some (.list xs), some (.list ys) => newL (xs ++ ys) σ
    | _, _ => none
  | .tup (x :: xs), .tup (y :: ys) => if (x :: xs).length + (y :: ys).length ≤ 65536 then some (.tup (x :: xs ++ y :: ys), σ) else none
  | _, _ => none
theorem prim_add : PrimB prog w g k (binaryOp .Add) addO := by
  intro A s φ σ a b va vb hA R ra rb av σ' e Q E h
  unfold addO at e
  split at e
  · cases e
    cases ra; cases rb
    exact PyProof.Rows.add_int (h _ s.heap _ φ (Ext.refl R) (.int _ _))
  · split at e
    · rename_i hsz
      cases e
      cases ra; cases rb
      exact SB.add (fun t' k' => h _ s.heap _ φ (Ext.refl R) (.str _ _)) (szl hsz)
    · cases e
  · split at e
    · rename_i xs ys hx hy
      unfold newL at e
      split at e
      · rename_i hsz
        cases e
        cases ra; cases rb
        obtain ⟨v1, n1, h1, r1, _⟩ := R.lst hx
        obtain ⟨v2, n2, h2, r2, _⟩ := R.lst hy
        have rr := r1.append r2
        obtain ⟨X, r⟩ := Ext.newList R 0 rr
        refine PySem.P.add_list h1 h2 ?_ (by rw [List.length_append] at hsz; simp only [List.size_toArray, r1.length, r2.length]; exact szl hsz)
        have := h _ _ s.toks _ X r
        simpa using this
      · cases e
    · cases e
  · split at e
    · rename_i hsz
      cases e
      cases ra with | tup h1 r1 =>
      cases rb with | tup h2 r2 =>
      rename_i v1 a1 n1 v2 a2 n2
      have rr := r1.append r2
      have X := Ext.push R (tupObj (v1 ++ v2) 0)
      have l1 := r1.length
      have l2 := r2.length
      refine PySem.P.add_tuple h1 h2 (by intro h0; simp at h0; subst h0; cases l1) (by intro h0; simp at h0; subst h0; cases l2) ?_ (by simp only [List.size_toArray, l1, l2]; exact szl hsz)
      have := h _ _ s.toks φ X (.tup (Heap.get?_push_size _ rfl) (rr.ext X))
      simpa using this
    · cases e
  · cases e

noncomputable def subO : BF := fun a b σ => match a, b with | .int x, .int y => some (.int (x - y), σ) | _, _ => none
theorem prim_sub : PrimB prog w g k (binaryOp .Sub) subO := by
  intro A s φ σ a b va vb hA R ra rb av σ' e Q E h
  unfold subO at e
  split at e
  · cases e
    cases ra; cases rb
    exact PyProof.Rows.sub_int (h _ s.heap _ φ (Ext.refl R) (.int _ _))
  · cases e
noncomputable def modO : BF := fun a b σ => match a, b with | .int x, .int y => if y = 0 then none else some (.int (x.fmod y), σ) | _, _ => none
theorem prim_mod : PrimB prog w g k (binaryOp .Mod) modO := by
  intro A s φ σ a b va vb hA R ra rb av σ' e Q E h
  unfold modO at e
  split at e
  · split at e
    · cases e
    · rename_i h0
      cases e
      cases ra; cases rb
      exact PyProof.Rows.mod_int h0 (h _ s.heap _ φ (Ext.refl R) (.int _ _))
  · cases e
noncomputable def fdivO : BF := fun a b σ => match a, b with | .int x, .int y => if y = 0 ∨ 1073741824 ≤ y.natAbs then none else some (.int (x.fdiv y), σ) | _, _ => none
theorem prim_fdiv : PrimB prog w g k (binaryOp .FloorDiv) fdivO := by
  intro A s φ σ a b va vb hA R ra rb av σ' e Q E h
  unfold fdivO at e
  split at e
  · split at e
    · cases e
    · rename_i h0
      cases e
      cases ra; cases rb
      exact PyProof.Rows.floordiv_int (fun h1 => h0 (.inl h1)) (h _ s.heap _ φ (Ext.refl R) (.int _ _)) (.inl (PyProof.noPylong_small (by omega)))
  · cases e
noncomputable def powO : BF := fun a b σ => match a, b with | .int x, .int y => if 0 ≤ y ∧ y ≤ 1000 ∧ i64 x = true then some (.int (x ^ y.toNat), σ) else none | _, _ => none
theorem prim_pow : PrimB prog w g k (binaryOp .Pow) powO := by
  intro A s φ σ a b va vb hA R ra rb av σ' e Q E h
  unfold powO at e
  split at e
  · rename_i x y
    split at e
    · rename_i h0
      cases e
      cases ra; cases rb
      refine PyProof.Rows.pow_int h0.1 ?_ (h _ s.heap _ φ (Ext.refl R) (.int _ _))
      have h1 := i64_bits h0.2.2
      have h2 : (Builtin.Int.intBits x : Int) ≤ 64 := by exact_mod_cast h1
      have h3 : (Builtin.Int.intBits x : Int) * y ≤ 64 * 1000 := Int.mul_le_mul h2 h0.2.1 h0.1 (by decide)
      omega
    · cases e
  · cases e
noncomputable def shlO : BF := fun a b σ => match a, b with | .int x, .int y => if 0 ≤ y ∧ y ≤ 1000 ∧ i64 x = true then some (.int (x * 2 ^ y.toNat), σ) else none | _, _ => none
theorem prim_shl : PrimB prog w g k (binaryOp .LShift) shlO := by
  intro A s φ σ a b va vb hA R ra rb av σ' e Q E h
  unfold shlO at e
  split at e
  · split at e
    · rename_i h0
      cases e
      cases ra; cases rb
      exact PyProof.Rows.lshift_int_small h0.1 (by omega) (i64_lt h0.2.2) (h _ s.heap _ φ (Ext.refl R) (.int _ _))
    · cases e
  · cases e
noncomputable def shrO : BF := fun a b σ => match a, b with | .int x, .int y => if 0 ≤ y then some (.int (x.fdiv (2 ^ y.toNat)), σ) else none | _, _ => none
theorem prim_shr : PrimB prog w g k (binaryOp .RShift) shrO := by
  intro A s φ σ a b va vb hA R ra rb av σ' e Q E h
  unfold shrO at e
  split at e
  · split at e
    · rename_i h0
      cases e
      cases ra; cases rb
      exact PyProof.Rows.rshift_int h0 (h _ s.heap _ φ (Ext.refl R) (.int _ _))
    · cases e
  · cases e
noncomputable def andO : BF := fun a b σ => match a, b with | .int x, .int y => some (.int (Builtin.bitAnd x y), σ) | _, _ => none
theorem prim_and : PrimB prog w g k (binaryOp .BitAnd) andO := by
  intro A s φ σ a b va vb hA R ra rb av σ' e Q E h
  unfold andO at e
  split at e
  · cases e
    cases ra; cases rb
    exact PyProof.Rows.and_int (h _ s.heap _ φ (Ext.refl R) (.int _ _))
  · cases e
noncomputable def mulO : BF := fun a b σ => match a, b with
  | .int x, .int y => if i64 x = true then some (.int (x * y), σ) else none
  | .str x, .int y => if 0 ≤ y ∧ y ≤ 1000 ∧ x.length ≤ 60 then some (.str (Txt.mul x y), σ) else none
  | .ref i, .int y => match σ[i]? with
    | some (.list [x]) => if 0 ≤ y ∧ y ≤ 1000 then some (.ref σ.length, σ ++ [.list (List.replicate y.toNat x)]) else none
    | _ => none
  | _, _ => none
theorem mul_ok {x : Str} {y : Int} (h : 0 ≤ y ∧ y ≤ 1000 ∧ x.length ≤ 60) : MulOk x y := by
  obtain ⟨h0, h1, h2⟩ := h
  refine ⟨by simp; omega, fun h3 _ => ?_, fun h3 _ => ?_⟩
  · have h6 : (x.length : Int) ≤ 60 := by exact_mod_cast h2
    have h5 : (60 : Int) ≤ (2 ^ 63 - 1) / y := Int.le_ediv_of_mul_le (by omega) (by omega)
    omega
  · have h4 : x.length * y.toNat ≤ 60 * 1000 := Nat.mul_le_mul h2 (by omega)
    unfold Builtin.Str.tooLong
    have h7 : ¬ (x.length * y.toNat > sizeLine) := by have := szl (n := 60000) (by decide); omega
    simpa using h7
theorem reps_replicate {φ n h a v} (r : Rep g φ n h a v) (m : Nat) : Reps g φ n h (List.replicate m a) (List.replicate m v) := by
  induction m with
  | zero => exact .nil
  | succ m ih => exact .cons r ih
theorem foldl_rep1 (v : Value) : ∀ (m : Nat) (acc : Array Value), List.foldl (fun x1 x2 => x1 ++ x2) acc (List.replicate m #[v]) = (acc.toList ++ List.replicate m v).toArray
  | 0, acc => by simp
  | m + 1, acc => by
    rw [List.replicate_succ, List.foldl_cons, foldl_rep1 v m]
    simp [List.replicate_succ]
theorem prim_mul : PrimB prog w g k (binaryOp .Mult) mulO := by
  intro A s φ σ a b va vb hA R ra rb av σ' e Q E h
  unfold mulO at e
  split at e
  · split at e
    · rename_i h0
      cases e
      cases ra; cases rb
      exact PyProof.Rows.mul_int (h _ s.heap _ φ (Ext.refl R) (.int _ _)) (.of_left (i64_bits h0))
    · cases e
  · split at e
    · rename_i h0
      cases e
      cases ra; cases rb
      exact SB.mul (mul_ok h0) fun t' k' => h _ s.heap _ φ (Ext.refl R) (.str _ _)
    · cases e
  · rename_i i y
    split at e
    · rename_i x hx
      split at e
      · rename_i h0
        cases e
        cases ra; cases rb
        obtain ⟨v1, n1, h1, r1, _⟩ := R.lst hx
        cases r1 with | cons r1 r2 =>
        cases r2
        rename_i v r1
        have X := Ext.newList R 0 (reps_replicate r1 y.toNat)
        refine wpAny_binaryOp_repeat_ref (T := "list") (U := "int") (by decide) ⟨_, h1, rfl⟩ (fun s' => typeIs_int s' _ _) noFill_list_mul PySem.F.fills_int_mul PySem.F.slot_int_rmul repeat_list PySem.F.slot_int_index.lookup
          (call_meets PySem.F.slot_int_rmul (typeIs_int s _ _) PySem.F.entry_int_rmul (PySem.F.args_int_rmul_2 _ _) (int___rmul___int_list _ _ _ _ _)
            ⟨h1, rfl, ⟨_, h1, rfl⟩, call_meets PySem.F.slot_list_mul ⟨_, h1, rfl⟩ PySem.F.entry_list_mul (PySem.F.args_list_mul_2 _ _)
              (AutoListH.list___mul___list_int_3 _ _ _ _ _ (by simp [Builtin.List.listFitsIndex]; omega) (by simp; omega) (by simp [Builtin.List.listTooLong, sizeLine]; omega))
              ⟨h1, ?_⟩⟩)
        have := h _ _ s.toks _ X.1 X.2
        show Q _ _
        rw [foldl_rep1]
        exact this
      · cases e
    · cases e
  · cases e
end
end Mine
end
section
open PySem.AutoSeq1 (wpAny_loadPart')
open PySem.SeqAt
set_option maxRecDepth 100000
namespace Mine

/-! the order of tuples of ints -/
noncomputable def ltL : List Int → List Int → Bool
  | [], [] => false
  | [], _ :: _ => true
  | _ :: _, [] => false
  | x :: xs, y :: ys => if x = y then ltL xs ys else decide (x < y)

theorem tuple_lt_ints (l b : Addr) (items items2 : List Value) (n n2 : Nat) (ns ns2 : List Int) (h1 : Paired (fun v i => ∃ t, v = Value.int i t) items ns) (h2 : Paired (fun v i => ∃ t, v = Value.int i t) items2 ns2) :
    Meets (Builtin.«tuple.__lt__» ⟨[.ref l, .ref b], []⟩)
      (fun _ R s => s.heap.get? l = some (tupObj items n) ∧ s.heap.get? b = some (tupObj items2 n2) ∧ R (.ok (.ret (.bool (ltL ns ns2)))) s) :=
  .of_wp fun prog w A R s h => by
    obtain ⟨hp, g, d, tk, os⟩ := s; obtain ⟨hl, hb, h⟩ := h
    have f2 := AutoSeq1.sub_tuple_tuple
    wp_walk using wpAny_loadPart' hl, wpAny_loadPart' hb, wpAny_forIn_list _ (fun rest b s' => b.1 = none ∧ s' = ⟨hp, g, d, tk, os⟩ ∧ ∃ vs vs2 ms ms2, rest = vs.zip vs2 ∧ Paired (fun v i => ∃ t, v = Value.int i t) vs ms ∧ Paired (fun v i => ∃ t, v = Value.int i t) vs2 ms2 ∧
      items.length + vs2.length = items2.length + vs.length ∧ R (.ok (.ret (.bool (ltL ms ms2)))) ⟨hp, g, d, tk, os⟩) _
    case turn =>
      rintro ⟨y, x⟩ rest b s' ⟨hb', rfl, vs, vs2, ms, ms2, hz, p1, p2, hlen, hR⟩
      cases p1 with
      | nil => cases hz
      | cons q1 p1 =>
        cases p2 with
        | nil => cases hz
        | cons q2 p2 =>
          injection hz with hyx hrest
          injection hyx with e1 e2
          subst e1 e2
          obtain ⟨t1, rfl⟩ := q1
          obtain ⟨t2, rfl⟩ := q2
          rename_i m1 vs' ms' m2 vs2' ms2'
          refine wpAny_bind (MeetsSeq.EqGives.int m1 m2 t1 t2 prog w _ _ _ _ ?_)
          by_cases hm : m1 = m2
          · have e : (m1 == m2) = true := by simpa using hm
            rw [e]
            have e2 : ltL (m1 :: ms') (m2 :: ms2') = ltL ms' ms2' := by rw [ltL, if_pos hm]
            rw [e2] at hR
            wp_walk
            exact ⟨rfl, rfl, vs', vs2', ms', ms2', hrest, p1, p2, by simp only [List.length_cons] at hlen; omega, hR⟩
          · have e : (m1 == m2) = false := by simpa using hm
            rw [e]
            have e2 : ltL (m1 :: ms') (m2 :: ms2') = decide (m1 < m2) := by rw [ltL, if_neg hm]
            rw [e2] at hR
            show wpAny (model prog w) _ (do
              rule "tuple.compare.by-the-first-pair-that-differs"
              let r1 ← richCompare CmpOp.Lt (Value.int m1 t1) (Value.int m2 t2)
              let r2 ← ret r1
              pure (ForInStep.done (some r2, ()))) _ _ _
            refine wpAny_bind (wpAny_rule (wpAny_bind ?_))
            refine PyProof.Rows.lt_int ?_
            exact wpAny_bind (wpAny_pure (wpAny_pure (wpAny_pure ⟨_, rfl, hR⟩)))
    case fin =>
      rintro ⟨b1, b2⟩ s' ⟨hb', rfl, vs, vs2, ms, ms2, hz, p1, p2, hlen, hR⟩
      simp only at hb'
      subst hb'
      wp_walk
      refine ⟨_, rfl, ?_⟩
      unfold Builtin.Tuple.tupleCompareSizes
      simp only [List.size_toArray]
      cases p1 with
      | nil =>
        cases p2 with
        | nil => simpa [ltL, show ¬ items.length < items2.length by simp only [List.length_nil] at hlen; omega] using hR
        | cons q p => simpa [ltL, show items.length < items2.length by simp only [List.length_nil, List.length_cons] at hlen; omega] using hR
      | cons q p =>
        cases p2 with
        | nil => simpa [ltL, show ¬ items.length < items2.length by simp only [List.length_nil, List.length_cons] at hlen; omega] using hR
        | cons q2 p2 => cases hz
    case h =>
      exact ⟨rfl, rfl, items, items2, ns, ns2, by simp, h1, h2, by omega, h⟩

/-! equality of what the heap holds -/
noncomputable def eqLs (f : AV → AV → Option Bool) : List AV → List AV → Option Bool
  | [], [] => some true
  | x :: xs, y :: ys => match f x y, eqLs f xs ys with
    | some b, some c => some (b && c)
    | _, _ => none
  | _, _ => none
noncomputable def eqV : Nat → St → AV → AV → Option Bool
  | 0, _, a, b => match a, b with
    | .int x, .int y => some (x == y)
    | .str x, .str y => some (x.cps.toList == y.cps.toList)
    | _, _ => none
  | d + 1, σ, a, b => match a, b with
    | .int x, .int y => some (x == y)
    | .str x, .str y => some (x.cps.toList == y.cps.toList)
    | .ref i, .ref j => if i = j then some true else match σ[i]?, σ[j]? with
      | some (.list xs), some (.list ys) => if xs.length = ys.length then eqLs (eqV d σ) xs ys else some false
      | _, _ => none
    | _, _ => none
noncomputable def eqL (d : Nat) (σ : St) (xs ys : List AV) : Option Bool := eqLs (eqV d σ) xs ys

section
variable {prog : Program} {w : World} {g : Heap} {k : Nat}
theorem eqLs_at {f : AV → AV → Option Bool} : ∀ {xs ys : List AV} {r}, eqLs f xs ys = some r → ∃ e : Nat → Bool, (List.range xs.length).all e = r ∧ ∀ (j : Nat) x y, xs[j]? = some x → ys[j]? = some y → f x y = some (e j)
  | [], [], r, h => by
    cases h
    exact ⟨fun _ => true, rfl, fun j x y hx => by simp at hx⟩
  | [], _ :: _, r, h => by cases h
  | _ :: _, [], r, h => by cases h
  | x :: xs, y :: ys, r, h => by
    rw [eqLs] at h
    split at h
    · rename_i b c hb hc
      cases h
      obtain ⟨e, he, hj⟩ := eqLs_at hc
      refine ⟨fun j => match j with | 0 => b | j + 1 => e j, ?_, fun j u v hu hv => ?_⟩
      · rw [List.length_cons, List.range_succ_eq_map, List.all_cons, List.all_map, ← he]
        rfl
      · cases j with
        | zero => simp at hu hv; subst hu hv; exact hb
        | succ j => exact hj j u v (by simpa using hu) (by simpa using hv)
    · cases h
theorem eqL_at {d σ} {xs ys : List AV} {r} (h : eqL d σ xs ys = some r) : ∃ e : Nat → Bool, (List.range xs.length).all e = r ∧ ∀ (j : Nat) x y, xs[j]? = some x → ys[j]? = some y → eqV d σ x y = some (e j) := eqLs_at h

theorem lists_at {A s φ σ xs ys d r} {v1 v2 : List Value} (r1 : Reps g φ σ.length s.heap xs v1) (r2 : Reps g φ σ.length s.heap ys v2) (hlen : xs.length = ys.length) (e : eqL d σ xs ys = some r)
    (ih : ∀ {a b va vb r}, eqV d σ a b = some r → Rep g φ σ.length s.heap a va → Rep g φ σ.length s.heap b vb → EqAt A s va vb r) :
    ∃ f : Nat → Bool, (List.range v1.toArray.size).all f = r ∧ ∀ j (h1 : j < v1.toArray.size) (h2 : j < v2.toArray.size), EqAt A s v1.toArray[j] v2.toArray[j] (f j) := by
  obtain ⟨f, hf, hj⟩ := eqL_at e
  refine ⟨f, by rw [List.size_toArray, r1.length]; exact hf, fun j h1 h2 => ?_⟩
  rw [List.size_toArray, r1.length] at h1
  rw [List.size_toArray, r2.length] at h2
  have hx := List.getElem?_eq_getElem h1
  have hy := List.getElem?_eq_getElem h2
  obtain ⟨u1, hu1, q1⟩ := r1.get hx
  obtain ⟨u2, hu2, q2⟩ := r2.get hy
  have e1 : v1.toArray[j] = u1 := by
    have := (List.getElem?_eq_some_iff.mp hu1).2
    simpa using this
  have e2 : v2.toArray[j] = u2 := by
    have := (List.getElem?_eq_some_iff.mp hu2).2
    simpa using this
  rw [e1, e2]
  exact ih (hj j _ _ hx hy) q1 q2

theorem eqV_at {φ σ} : ∀ {d : Nat} {A : Around} {s : Shared} {a b va vb r}, Rel g φ σ s.heap → A.units + d < cLine → eqV d σ a b = some r → Rep g φ σ.length s.heap a va → Rep g φ σ.length s.heap b vb → EqAt A s va vb r
  | 0, A, s, a, b, va, vb, r, R, hu, e, ra, rb => by
    unfold eqV at e
    split at e
    · cases e
      cases ra; cases rb
      exact (MeetsSeq.EqGives.int _ _ _ _).at A s
    · cases e
      cases ra; cases rb
      exact (SeqRoads2.EqGives.str _ _ _ _).at A s
    · cases e
  | d1 + 1, A, s, a, b, va, vb, r, R, hu, e, ra, rb => by
    unfold eqV at e
    split at e
    · cases e
      cases ra; cases rb
      exact (MeetsSeq.EqGives.int _ _ _ _).at A s
    · cases e
      cases ra; cases rb
      exact (SeqRoads2.EqGives.str _ _ _ _).at A s
    · rename_i i j
      split at e
      · rename_i hij
        cases e
        subst hij
        cases ra; cases rb
        exact EqAt.same _
      · rename_i hij
        split at e
        · rename_i xs ys hx hy
          cases ra with | ref _ hi =>
          cases rb with | ref _ hj =>
          obtain ⟨v1, n1, h1, r1, _⟩ := R.lst hx
          obtain ⟨v2, n2, h2, r2, _⟩ := R.lst hy
          have hne : φ i ≠ φ j := fun h => hij (R.inj i j hi hj h)
          have l1 : s.heap.IsList (φ i) v1.toArray := ⟨_, h1, rfl, _, rfl⟩
          have l2 : s.heap.IsList (φ j) v2.toArray := ⟨_, h2, rfl, _, rfl⟩
          split at e
          · rename_i hlen
            obtain ⟨f, hf, hj⟩ := lists_at (A := A.in1) (d := d1) r1 r2 hlen e fun {a b va vb r} h q1 q2 => eqV_at (d := d1) (A := A.in1) R (by show A.units + 1 + d1 < _; omega) h q1 q2
            have := RcAt.lists (A := A) l1 l2 (by rw [List.size_toArray, List.size_toArray, r1.length, r2.length, hlen]) (by omega) hj
            rw [hf] at this
            exact EqAt.of_refs hne this
          · rename_i hlen
            cases e
            refine EqAt.of_refs hne (RcAt.lists_lengths (A := A) l1 l2 ?_ (by omega))
            simp only [List.size_toArray, r1.length, r2.length]
            simpa using hlen
        · cases e
    · cases e
end
end Mine
end
section
open PySem.SeqAt
set_option maxRecDepth 100000
namespace Mine

noncomputable def intsOf : List AV → Option (List Int)
  | [] => some []
  | .int x :: r => (intsOf r).map (x :: ·)
  | _ => none
noncomputable def strsOf : List AV → Option (List Str)
  | [] => some []
  | .str x :: r => (strsOf r).map (x :: ·)
  | _ => none
theorem ints_paired {g φ n h} : ∀ {xs : List AV} {vs : List Value} {ns}, intsOf xs = some ns → Reps g φ n h xs vs → Paired (fun v i => ∃ t, v = Value.int i t) vs ns
  | [], _, _, e, r => by cases r; cases e; exact .nil
  | x :: xs, _, ns, e, r => by
    cases r with | cons r1 r2 =>
    cases x with
    | int i =>
      rw [intsOf] at e
      cases e2 : intsOf xs with
      | none => rw [e2] at e; cases e
      | some ms =>
        rw [e2] at e
        cases e
        cases r1
        exact .cons ⟨_, rfl⟩ (ints_paired e2 r2)
    | _ => cases e
theorem strs_paired {g φ n h} : ∀ {xs : List AV} {vs : List Value} {ns}, strsOf xs = some ns → Reps g φ n h xs vs → Paired (fun v i => ∃ t, v = Value.str i t) vs ns
  | [], _, _, e, r => by cases r; cases e; exact .nil
  | x :: xs, _, ns, e, r => by
    cases r with | cons r1 r2 =>
    cases x with
    | str i =>
      rw [strsOf] at e
      cases e2 : strsOf xs with
      | none => rw [e2] at e; cases e
      | some ms =>
        rw [e2] at e
        cases e
        cases r1
        exact .cons ⟨_, rfl⟩ (strs_paired e2 r2)
    | _ => cases e
noncomputable def isIntV (x : Int) : Value → Bool
  | .int m _ => m == x
  | _ => false
noncomputable def isStrV (x : Str) : Value → Bool
  | .str m _ => m.cps.toList == x.cps.toList
  | _ => false
theorem any_int {x : Int} : ∀ {vs : List Value} {ns}, Paired (fun v i => ∃ t, v = Value.int i t) vs ns → vs.any (isIntV x) = ns.any (· == x)
  | _, _, .nil => rfl
  | _, _, .cons ⟨t, e⟩ p => by subst e; rw [List.any_cons, List.any_cons, any_int p]; rfl
theorem any_str {x : Str} : ∀ {vs : List Value} {ns}, Paired (fun v i => ∃ t, v = Value.str i t) vs ns → vs.any (isStrV x) = ns.any (fun m => m.cps.toList == x.cps.toList)
  | _, _, .nil => rfl
  | _, _, .cons ⟨t, e⟩ p => by subst e; rw [List.any_cons, List.any_cons, any_str p]; rfl
theorem mem_int {x : Int} {t : Tok} : ∀ {vs : List Value} {ns}, Paired (fun v i => ∃ t, v = Value.int i t) vs ns → ∀ y ∈ vs, MeetsSeq.EqGives y (.int x t) (isIntV x y)
  | _, _, .nil, y, h => by cases h
  | _, _, .cons ⟨u, e⟩ p, y, h => by
    rcases List.mem_cons.mp h with rfl | h
    · subst e; exact MeetsSeq.EqGives.int _ _ _ _
    · exact mem_int p y h
theorem mem_str {x : Str} {t : Tok} : ∀ {vs : List Value} {ns}, Paired (fun v i => ∃ t, v = Value.str i t) vs ns → ∀ y ∈ vs, MeetsSeq.EqGives y (.str x t) (isStrV x y)
  | _, _, .nil, y, h => by cases h
  | _, _, .cons ⟨u, e⟩ p, y, h => by
    rcases List.mem_cons.mp h with rfl | h
    · subst e; exact SeqRoads2.EqGives.str _ _ _ _
    · exact mem_str p y h
theorem bytes_inj : ∀ {b c : List Nat}, (∀ x ∈ b, x < 256) → (∀ x ∈ c, x < 256) → ((bytesArr b).toList == (bytesArr c).toList) = (b == c) := by
  intro b c hb hc
  unfold bytesArr
  show (b.map Nat.toUInt8 == c.map Nat.toUInt8) = _
  induction b generalizing c with
  | nil => cases c <;> rfl
  | cons x b ih =>
    cases c with
    | nil => rfl
    | cons y c =>
      rw [List.map_cons, List.map_cons, List.cons_beq_cons, List.cons_beq_cons, ih (fun z hz => hb z (List.mem_cons_of_mem _ hz)) fun z hz => hc z (List.mem_cons_of_mem _ hz)]
      congr 1
      have hx := hb x (List.mem_cons_self ..)
      have hy := hc y (List.mem_cons_self ..)
      rw [Bool.eq_iff_iff, beq_iff_eq, beq_iff_eq]
      constructor
      · intro h
        have := congrArg UInt8.toNat h
        simp only [Nat.toUInt8_eq, UInt8.toNat_ofNat'] at this
        omega
      · intro h; rw [h]

section
variable {prog : Program} {w : World} {g : Heap} {k : Nat}

noncomputable def ltO : BF := fun a b σ => match a, b with
  | .int x, .int y => some (.bool (decide (x < y)), σ)
  | .tup xs, .tup ys => match intsOf xs, intsOf ys with
    | some ns, some ms => some (.bool (ltL ns ms), σ)
    | _, _ => none
  | _, _ => none
theorem prim_lt : PrimB prog w g k (compareOp .Lt) ltO := by
  intro A s φ σ a b va vb hA R ra rb av σ' e Q E h
  unfold ltO at e
  split at e
  · cases e
    cases ra; cases rb
    exact PyProof.Rows.lt_int (h _ s.heap s.toks φ (Ext.refl R) (.bool _))
  · split at e
    · rename_i ns ms h1 h2
      cases e
      cases ra with | tup ha1 r1 =>
      cases rb with | tup ha2 r2 =>
      have hq := h (.bool (ltL ns ms)) s.heap s.toks φ (Ext.refl R) (.bool _)
      have hu : A.units < cLine := by have := hA.un; omega
      exact richCompare_meets_room (op := .Lt) ⟨_, ha1, rfl⟩ ⟨_, ha2, rfl⟩ PySem.F.slot_tuple_lt PySem.F.entry_tuple_lt (PySem.F.args_tuple_lt_2 _ _) (tuple_lt_ints _ _ _ _ _ _ ns ms (ints_paired h1 r1) (ints_paired h2 r2))
        ⟨ha1, ha2, show Value.bool (ltL ns ms) ≠ Value.notImplemented ∧ Q (.bool (ltL ns ms)) s from ⟨(fun x => nomatch x), hq⟩⟩ hu
    · cases e
  · cases e
noncomputable def sameL (σ : St) (i j : Nat) : Option Bool := match σ[i]?, σ[j]? with
  | some (.list xs), some (.list ys) => if xs.length = ys.length then eqL 2 σ xs ys else some false
  | _, _ => none
noncomputable def eqO : BF := fun a b σ => match a, b with
  | .int x, .int y => some (.bool (x == y), σ)
  | .bytes x, .bytes y => some (.bool (x == y), σ)
  | .ref i, .ref j => (sameL σ i j).map fun r => (.bool r, σ)
  | _, _ => none
theorem same_at {A s φ σ i j r} (hA : Rm A k) (R : Rel g φ σ s.heap) (e : sameL σ i j = some r) : RcAt A s (.ref (φ i)) (.ref (φ j)) r ∧ RcNeAt A s (.ref (φ i)) (.ref (φ j)) (!r) := by
  unfold sameL at e
  split at e
  · rename_i xs ys hx hy
    obtain ⟨v1, n1, h1, r1, _⟩ := R.lst hx
    obtain ⟨v2, n2, h2, r2, _⟩ := R.lst hy
    have l1 : s.heap.IsList (φ i) v1.toArray := ⟨_, h1, rfl, _, rfl⟩
    have l2 : s.heap.IsList (φ j) v2.toArray := ⟨_, h2, rfl, _, rfl⟩
    have hu : A.units < cLine := by have := hA.un; omega
    split at e
    · rename_i hlen
      obtain ⟨f, hf, hj⟩ := lists_at (A := A.in1) r1 r2 hlen e fun {a b va vb r} h q1 q2 => eqV_at (A := A.in1) (d := 2) R (by show A.units + 1 + 2 < _; have := hA.un; omega) h q1 q2
      have hz : v1.toArray.size = v2.toArray.size := by rw [List.size_toArray, List.size_toArray, r1.length, r2.length, hlen]
      have q1 := RcAt.lists (A := A) l1 l2 hz hu hj
      have q2 := RcNeAt.lists (A := A) l1 l2 hz hu hj
      rw [hf] at q1 q2
      exact ⟨q1, q2⟩
    · rename_i hlen
      cases e
      have hz : (v1.toArray.size != v2.toArray.size) = true := by
        simp only [List.size_toArray, r1.length, r2.length]
        simpa using hlen
      exact ⟨RcAt.lists_lengths (A := A) l1 l2 hz hu, RcNeAt.lists_lengths (A := A) l1 l2 hz hu⟩
  · cases e
theorem omap {α β : Type} {x : Option α} {f : α → β} {b : β} (h : x.map f = some b) : ∃ a, x = some a ∧ f a = b := by
  cases x with
  | none => cases h
  | some a => exact ⟨a, rfl, Option.some.inj h⟩
theorem prim_eq : PrimB prog w g k (compareOp .Eq) eqO := by
  intro A s φ σ a b va vb hA R ra rb av σ' e Q E h
  unfold eqO at e
  split at e
  · cases e
    cases ra; cases rb
    exact PyProof.Rows.eq_int (h _ s.heap s.toks φ (Ext.refl R) (.bool _))
  · cases e
    cases ra with | bytes _ _ hb =>
    cases rb with | bytes _ _ hc =>
    refine PySem.W.eq_bytes ?_
    rw [bytes_inj hb hc]
    exact h _ s.heap s.toks φ (Ext.refl R) (.bool _)
  · obtain ⟨r, e1, e2⟩ := omap e
    cases e2
    cases ra; cases rb
    exact (same_at hA R e1).1 prog w E Q (h _ s.heap s.toks φ (Ext.refl R) (.bool _))
  · cases e
noncomputable def neO : BF := fun a b σ => match a, b with
  | .int x, .int y => some (.bool (x != y), σ)
  | .bytes x, .bytes y => some (.bool (x != y), σ)
  | .ref i, .ref j => (sameL σ i j).map fun r => (.bool (!r), σ)
  | _, _ => none
theorem prim_ne : PrimB prog w g k (compareOp .NotEq) neO := by
  intro A s φ σ a b va vb hA R ra rb av σ' e Q E h
  unfold neO at e
  split at e
  · cases e
    cases ra; cases rb
    exact PyProof.Rows.ne_int (h _ s.heap s.toks φ (Ext.refl R) (.bool _))
  · cases e
    cases ra with | bytes _ _ hb =>
    cases rb with | bytes _ _ hc =>
    refine PySem.W.ne_bytes ?_
    unfold bne
    rw [bytes_inj hb hc]
    exact h _ s.heap s.toks φ (Ext.refl R) (.bool _)
  · obtain ⟨r, e1, e2⟩ := omap e
    cases e2
    cases ra; cases rb
    exact (same_at hA R e1).2 prog w E Q (h _ s.heap s.toks φ (Ext.refl R) (.bool _))
  · cases e
noncomputable def inO : BF := fun a b σ => match b with
  | .ref i => match σ[i]? with
    | some (.list ys) => match a with
      | .int x => (intsOf ys).map fun ns => (.bool (ns.any (· == x)), σ)
      | .str x => (strsOf ys).map fun ns => (.bool (ns.any fun m => m.cps.toList == x.cps.toList), σ)
      | _ => none
    | _ => none
  | _ => none
theorem prim_in : PrimB prog w g k (compareOp .In) inO := by
  intro A s φ σ a b va vb hA R ra rb av σ' e Q E h
  unfold inO at e
  split at e
  · split at e
    · rename_i ys hy
      cases rb with | ref _ hid =>
      obtain ⟨v1, n1, h1, r1, _⟩ := R.lst hy
      split at e
      · obtain ⟨ns, e1, e2⟩ := omap e
        cases e2
        cases ra
        have p := ints_paired e1 r1
        refine SeqRoads2.in_list (isIntV _) (fun y hy => mem_int p y (by simpa using hy)) h1 ?_
        have := h _ s.heap s.toks φ (Ext.refl R) (.bool _)
        rw [List.any_toArray, any_int p]
        exact this
      · obtain ⟨ns, e1, e2⟩ := omap e
        cases e2
        cases ra
        have p := strs_paired e1 r1
        refine SeqRoads2.in_list (isStrV _) (fun y hy => mem_str p y (by simpa using hy)) h1 ?_
        have := h _ s.heap s.toks φ (Ext.refl R) (.bool _)
        rw [List.any_toArray, any_str p]
        exact this
      · cases e
    · cases e
  · cases e
/-- is None -/
noncomputable def isO : BF := fun a b σ => match b with
  | .con .none => match a with
    | .con .none => some (.bool true, σ)
    | .con (.ref _) => some (.bool false, σ)
    | .int _ => some (.bool false, σ)
    | _ => none
  | _ => none
theorem prim_is : PrimB prog w g k (compareOp .Is) isO := by
  intro A s φ σ a b va vb hA R ra rb av σ' e Q E h
  unfold isO at e
  split at e
  · cases rb
    split at e
    · cases e; cases ra; exact is_none_none (h _ s.heap s.toks φ (Ext.refl R) (.bool _))
    · cases e; cases ra; exact is_ref_none (h _ s.heap s.toks φ (Ext.refl R) (.bool _))
    · cases e; cases ra; exact is_int_none (h _ s.heap s.toks φ (Ext.refl R) (.bool _))
    · cases e
  · cases e

/-! in place -/
theorem seq_list_iadd : seqSlot? (.type "list") (dunderI "add") = pure (some (.builtin "list.__iadd__")) := PySem.seqSlot_of PySem.F.slot_list_iadd.lookup (by decide +kernel)
theorem inplace_list {A s} {l b : Addr} {E : Value → Shared → Prop} {Q : Value → Shared → Prop} (ha : s.TypeIs (.ref l) "list") (hb : s.TypeIs (.ref b) "list") (hc : wpAny (model prog w) A (call (.builtin "list.__iadd__") [.ref l, .ref b]) Q E s) :
    wpAny (model prog w) A (inplaceOp .Add (.ref l) (.ref b)) Q E s := by
  unfold inplaceOp
  refine wpAny_holding ?_
  have hfi : fillsInplaceSlot (.type "list") "add" (Operator.Add == .Add) = pure false := by
    unfold fillsInplaceSlot
    show (typeLookup (.type "list") (dunderI "add") >>= fun fi => pure (fi.isSome && !isSeqSlot fi)) = pure false
    rw [PySem.F.slot_list_iadd.lookup]
    show (pure (true && !isSeqSlot (some (.builtin "list.__iadd__"))) : Sem Bool) = pure false
    rw [show isSeqSlot (some (.builtin "list.__iadd__")) = true by decide +kernel]
    rfl
  refine wpAny_bind (wpAny_typeOf ha (wpAny_bind (wpAny_of_eq hfi ?_)))
  show wpAny _ A (if false = true then _ else _) Q E s
  rw [if_neg Bool.false_ne_true]
  refine wpAny_bind (wpAny_binaryOp1_none (nm := "add") ha hb noFill_list_add ?_)
  refine wpAny_bind (wpAny_of_eq seq_list_iadd ?_)
  exact wpAny_bind (wpAny_rule hc)
/-- a list of ours turned -/
theorem Ext.updList {φ σ h id} (R : Rel g φ σ h) (hid : id < σ.length) {v1 v2 : List Value} {n1 : Nat} {ys : List AV} (h1 : h.get? (φ id) = some (lstObj v1 n1)) (f : Array Value → Array Value) (hf : f v1.toArray = v2.toArray) (r : Reps g φ σ.length h ys v2) :
    Ext g φ σ h φ (σ.set id (.list ys)) (h.update (φ id) (Obj.mapSeq f)) := by
  obtain ⟨n', hob⟩ := upd_list f h1
  rw [hf] at hob
  exact Ext.upd (ao := .list ys) R hid (fun b o hb e => (Heap.SameBut.update ..).extBut b o hb e) hob
    (.list (r.keeps (fun _ _ => rfl) (Nat.le_refl _) fun a items k e => (Heap.SameBut.update (a := φ id) (f := Obj.mapSeq f) (h := h)).extBut a _ (fun ha => R.apart e (not_mut_tup _ _) _ hid ha.symm) e))
theorem rep_ref {φ : Nat → Addr} {n id : Nat} {h : Heap} (hid : id < n) : Rep g φ n h (.ref id) (.ref (φ id)) := .ref id hid
noncomputable def iaddO : BF := fun a b σ => match a, b with
  | .ref i, .ref j => if i = j then none else match σ[i]?, σ[j]? with
    | some (.list xs), some (.list ys) => if xs.length + ys.length ≤ 65536 then some (.ref i, σ.set i (.list (xs ++ ys))) else none
    | _, _ => none
  | _, _ => none
theorem prim_iadd : PrimB prog w g k (inplaceOp .Add) iaddO := by
  intro A s φ σ a b va vb hA R ra rb av σ' e Q E h
  unfold iaddO at e
  split at e
  · split at e
    · cases e
    · rename_i hij
      split at e
      · rename_i xs ys hx hy
        split at e
        · rename_i hsz
          cases e
          cases ra with | ref _ hi =>
          cases rb with | ref _ hj =>
          obtain ⟨v1, n1, h1, r1, _⟩ := R.lst hx
          obtain ⟨v2, n2, h2, r2, _⟩ := R.lst hy
          refine inplace_list ⟨_, h1, rfl⟩ ⟨_, h2, rfl⟩ (call_meets PySem.F.slot_list_iadd ⟨_, h1, rfl⟩ PySem.F.entry_list_iadd (PySem.F.args_list_iadd_2 _ _) (AutoSeq1.list___iadd___list_list_0 _ v1.toArray n1 _ v2.toArray n2 ?_ ?_ ?_) ⟨h1, h2, ?_⟩)
          · have : ¬ (v1.toArray.size + v2.toArray.size > sizeLine) := by simp only [List.size_toArray, r1.length, r2.length]; have := szl hsz; omega
            unfold Builtin.List.listTooLong
            simp only [Bool.and_eq_true, not_and]
            intro _
            simpa using this
          · simp only [List.size_toArray, r1.length]; exact szl (by omega)
          · simp only [List.size_toArray, r1.length, r2.length]; exact szl2 hsz
          · have X := Ext.updList R hi h1 (fun x => x ++ v2.toArray) (by simp) (r1.append r2)
            exact h _ _ s.toks φ X (rep_ref (by rw [List.length_set]; exact hi))
        · cases e
      · cases e
  · cases e
end
end Mine
end
section
set_option maxRecDepth 100000
namespace Mine
section
variable {prog : Program} {w : World} {g : Heap} {k : Nat} {nms : List (Str × NameKind)} {nm : List Str}

theorem prim_ixor : PrimB prog w g k (inplaceOp .BitXor) (fun a b σ => match a, b with | .int x, .int y => some (.int (Builtin.bitXor x y), σ) | _, _ => none) := by
  intro A s φ σ a b va vb hA R ra rb av σ' e Q E h
  dsimp only at e
  split at e
  · cases e
    cases ra; cases rb
    exact PyProof.Rows.ixor_int (h _ s.heap _ φ (Ext.refl R) (.int _ _))
  · cases e

theorem tail_own {A s} {value slice : Expr} {o i : Value} {ops : List Value} {T id : String} {Q E : Value → Shared → Prop} (hl : typeLookup (.type T) "__getitem__" = pure (some (.builtin id))) (hT : s.TypeIs o T) (hg : wpAny (model prog w) A (getItem o i) Q E s)
    (hs : subscripted slice false o i = operate ops (getItem o i)) : wpAny (model prog w) A (subscriptTail value slice o i) Q E s := by
  unfold subscriptTail
  refine wpAny_bind ?_
  rw [getitemInPython_of_ne hT.not_modules]
  refine wpAny_bind (wpAny_specialOf hT hl ?_)
  have fin : wpAny (model prog w) A (subscripted slice false o i) (fun r s₃ => wpAny (model prog w) A (letTemporaryGo value o r >>= fun _ => pure r) Q E s₃) E s := by
    rw [hs]
    exact wpAny_operating (wpAny_mono hg (fun r s₃ h₃ => wpAny_bind (wpAny_letTemporaryGo (wpAny_pure h₃))) fun _ _ x => x)
  first
    | exact wpAny_pure (wpAny_bind fin)
    | exact wpAny_bind (wpAny_pure (wpAny_bind fin))
    | exact wpAny_bind fin

noncomputable def idxN (i : Int) (n : Nat) : Option Nat := if i < 0 then (if 0 ≤ i + n ∧ -65536 ≤ i then some (i + n).toNat else none) else if i < n ∧ i < 65536 then some i.toNat else none
theorem idxN_seq {i n k} (h : idxN i n = some k) : seqIndex? i n = some k ∧ -65536 ≤ i ∧ i < 65536 := by
  unfold idxN at h
  split at h
  · split at h
    · rename_i h1 h2
      cases h
      refine ⟨MeetsSeq.seqIndex_neg h1 h2.1, h2.2, by omega⟩
    · cases h
  · split at h
    · rename_i h1 h2
      cases h
      have hn : ¬ i < 0 := h1
      have h0 : 0 ≤ i := by omega
      exact ⟨by simp [seqIndex?, hn, h0, h2.1], by omega, h2.2⟩
    · cases h
noncomputable def getO : BF := fun a b σ => match b with
  | .int i => match a with
    | .ref id => match σ[id]? with
      | some (.list xs) => (idxN i xs.length).bind fun k => (xs[k]?).map fun v => (v, σ)
      | _ => none
    | .tup xs => (idxN i xs.length).bind fun k => (xs[k]?).map fun v => (v, σ)
    | .str x => (idxN i x.length).bind fun _ => some (.str (Txt.item x i), σ)
    | .bytes b => if 0 ≤ i ∧ i < b.length ∧ b.length ≤ 65536 then some (.int (b.getD i.toNat 0 : Nat), σ) else none
    | _ => none
  | _ => none
theorem prim_get {v i : Expr} (hs : ∀ o x, subscripted i false o x = operate [o, x] (getItem o x)) : PrimB prog w g k (subscriptTail v i) getO := by
  intro A s φ σ a b va vb hA R ra rb av σ' e Q E h
  unfold getO at e
  split at e
  · rename_i j
    cases rb with | int _ t =>
    split at e
    · split at e
      · rename_i xs hx
        obtain ⟨k1, e1, e⟩ := obind e
        obtain ⟨x, e2, e3⟩ := omap e
        cases e3
        cases ra with | ref _ hid =>
        obtain ⟨v1, n1, h1, r1, _⟩ := R.lst hx
        obtain ⟨hq, hlo, hhi⟩ := idxN_seq e1
        obtain ⟨xv, hxv, rx⟩ := r1.get e2
        have hl : s.heap.IsList (φ _) v1.toArray := ⟨_, h1, rfl, _, rfl⟩
        refine tail_own PySem.F.slot_list_getitem.lookup ⟨_, h1, rfl⟩ ?_ (hs _ _)
        have fin := h xv s.heap s.toks φ (Ext.refl R) rx
        have hsz : v1.toArray.size = xs.length := by rw [List.size_toArray, r1.length]
        unfold idxN at e1
        split at e1
        · rename_i hneg
          split at e1
          · rename_i h0
            cases e1
            exact wpAny_getItem_list_neg hl hneg (by rw [hsz]; omega) (by omega) (by rw [hsz]; simpa using hxv) fin
          · cases e1
        · rename_i hneg
          split at e1
          · cases e1
            exact wpAny_getItem_list hl (by omega) (by omega) (by simpa using hxv) fin
          · cases e1
      · cases e
    · obtain ⟨k1, e1, e⟩ := obind e
      obtain ⟨x, e2, e3⟩ := omap e
      cases e3
      cases ra with | tup ha hr =>
      obtain ⟨hq, hlo, hhi⟩ := idxN_seq e1
      obtain ⟨xv, hxv, rx⟩ := hr.get e2
      refine tail_own PySem.F.slot_tuple_getitem.lookup ⟨_, ha, rfl⟩ ?_ (hs _ _)
      exact PySem.P.getItem_tuple ha (by omega) (by omega) (by rw [List.size_toArray, hr.length]; exact hq) (by simpa using hxv) (h xv s.heap s.toks φ (Ext.refl R) rx)
    · rename_i x
      obtain ⟨k1, e1, e⟩ := obind e
      cases e
      cases ra
      obtain ⟨hq, hlo, hhi⟩ := idxN_seq e1
      refine tail_own PySem.F.slot_str_getitem.lookup (typeIs_str _ _ _) ?_ (hs _ _)
      have hk : k1 < x.length := by
        unfold idxN at e1
        split at e1 <;> split at e1 <;> first | (cases e1; omega) | cases e1
      refine SB.getItem ?_ ?_ (h _ s.heap _ φ (Ext.refl R) (.str _ _))
      · simp [fitsSsize]; omega
      · unfold Txt.charAt
        rw [hq]
        show (x.cps[k1]?).isSome = true
        have : k1 < x.cps.size := hk
        simp [this]
    · split at e
      · rename_i b h0
        cases e
        cases ra with | bytes _ _ hb =>
        refine tail_own PySem.W.FB.slot_bytes_getitem.lookup (PySem.W.typeIs_bytes _ _ _) ?_ (hs _ _)
        unfold bytesArr
        refine PySem.W.getItem_bytes (by rw [List.length_map]; omega) h0.1 (by rw [List.length_map]; exact h0.2.1) ?_
        have hlt : j.toNat < b.length := by omega
        have e2 : ((b.map Nat.toUInt8).getD j.toNat 0).toNat = b.getD j.toNat 0 := by
          rw [List.getD_eq_getElem?_getD, List.getD_eq_getElem?_getD, List.getElem?_map, List.getElem?_eq_getElem hlt]
          have := hb _ (List.getElem_mem hlt)
          simp only [Option.map_some, Option.getD_some, Nat.toUInt8_eq, UInt8.toNat_ofNat']
          omega
        rw [e2]
        exact h _ s.heap _ φ (Ext.refl R) (.int _ _)
      · cases e
    · cases e
  · cases e
end
end Mine
end
section
set_option maxRecDepth 100000
namespace Mine

noncomputable def cutL {α : Type} (xs : List α) (lo hi : Option Int) : List α := (xs.drop (lo.elim 0 (clipAt xs.length))).take (hi.elim xs.length (clipAt xs.length) - lo.elim 0 (clipAt xs.length))
noncomputable abbrev PF := Fm → St → Option (Option Int × St)
noncomputable def noPart : PF := fun _ σ => some (none, σ)
noncomputable def intPart (f : EF) : PF := fun ρ σ => (f ρ σ).bind fun p => match p.1 with | .int i => some (some i, p.2) | _ => none
noncomputable def cutO (a : AV) (lo hi : Option Int) (σ : St) : Option (AV × St) := match a with
  | .ref id => match σ[id]? with
    | some (.list xs) => if xs.length ≤ 65536 then some (.ref σ.length, σ ++ [.list (cutL xs lo hi)]) else none
    | _ => none
  | .blist xs => if xs.length ≤ 65536 then some (.ref σ.length, σ ++ [.list (cutL xs lo hi)]) else none
  | .tup xs => if lo = some 1 ∧ hi = some (-1) ∧ 2 ≤ xs.length ∧ xs.length ≤ 65536 then some (.tup ((xs.drop 1).take (xs.length - 2)), σ) else none
  | .bytes b => if b.length ≤ 65536 then some (.bytes (cutL b lo hi), σ) else none
  | _ => none
noncomputable def cutE (fv : EF) (fl fu : PF) : EF := fun ρ σ => (fv ρ σ).bind fun p => (fl ρ p.2).bind fun q => (fu ρ q.2).bind fun r => cutO p.1 q.1 r.1 r.2

section
variable {prog : Program} {w : World} {g : Heap} {k : Nat} {nms : List (Str × NameKind)} {nm : List Str}
variable (prog w g) in
noncomputable def SimP (k : Nat) (nms : List (Str × NameKind)) (nm : List Str) (e : Option Expr) (f : PF) : Prop :=
  ∀ env A s φ ρ σ, EnvOK nms env → Rm A k → Rel g φ σ s.heap → FrameOK g nm env φ σ.length s.heap ρ → ∀ o σ', f ρ σ = some (o, σ') → ∀ (Q E : Value → Shared → Prop),
    (∀ v h' tk φ', Ext g φ σ s.heap φ' σ' h' → IsPart v o → Q v { s with heap := h', toks := tk }) → wpAny (model prog w) A (evalPart e env) Q E s
theorem simp_none : SimP prog w g k nms nm none noPart := by
  intro env A s φ ρ σ eo hA R F o σ' e Q E h
  cases e
  rw [evalPart_none]
  exact wpAny_pure (h _ s.heap s.toks φ (Ext.refl R) .none)
theorem simp_some {x : Expr} {f : EF} (h1 : SimE prog w g k nms nm x f) : SimP prog w g k nms nm (some x) (intPart f) := by
  intro env A s φ ρ σ eo hA R F o σ' e Q E h
  obtain ⟨⟨a, σ1⟩, e1, e⟩ := obind e
  dsimp only at e
  split at e
  · injection e with e
    injection e with e2 e3
    subst e2 e3
    rw [evalPart_some]
    refine h1 env A s φ ρ σ eo hA R F _ _ e1 _ _ fun v h₁ tk₁ φ₁ X₁ r₁ => ?_
    cases r₁
    exact h _ h₁ tk₁ φ₁ X₁ (.int _ _)
  · cases e

theorem tuple_mid {A s} {t sl : Addr} {vs : List Value} {n : Nat} {i j : Value} {E : Value → Shared → Prop} {Q : Value → Shared → Prop} (ht : s.heap.get? t = some (tupObj vs n)) (hs : s.heap.IsSliceOf sl i j .none) (pi : IsPart i (some 1)) (pj : IsPart j (some (-1)))
    (h2 : 2 ≤ vs.length) (hsz : vs.length ≤ 65536) (h : Q (.ref s.heap.objs.size) { s with heap := s.heap.push (tupObj ((vs.drop 1).take (vs.length - 2)) 0) }) :
    wpAny (model prog w) A (getItem (.ref t) (.ref sl)) Q E s := by
  have hT : IsTup s.heap t vs.toArray := ⟨_, ht, rfl, _, rfl⟩
  have hdrop : sizeOk (.seq ((vs.drop 1).take (vs.length - 2)).toArray) := by
    show ((vs.drop 1).take (vs.length - 2)).toArray.size ≤ sizeLine
    rw [List.size_toArray, List.length_take, List.length_drop]
    exact szl (by omega)
  obtain ⟨os, hos, hcs, hds⟩ := id hs
  have hTs : s.TypeIs (.ref sl) "slice" := ⟨os, hos, hcs⟩
  cases pi with | int _ ti =>
  cases pj with | int _ tj =>
  unfold getItem
  refine wpAny_holding ?_
  refine wpAny_bind (wpAny_sequenceKey hT.typeIs (by decide) ?_)
  refine wpAny_bind (wpAny_callSpecial?_slot (name := Str.ofString "__getitem__") hT.typeIs PySem.F.slot_tuple_getitem
    (wpAny_call_entry PySem.F.slot_tuple_getitem hT.typeIs PySem.F.entry_tuple_getitem ?_ (PySem.F.args_tuple_getitem_2 _ _)))
  show wpAny _ _ (Builtin.Tuple.tupleItemsOf (.ref t) >>= _) _ _ s
  refine wpAny_bind (tupleItemsOf_ hT ?_)
  refine wpAny_bind (wpAny_typeOf hTs ?_)
  rw [if_pos (by decide)]
  have go : ∀ {Q' : Int × Int × Nat → Shared → Prop} {E'}, Q' ((1 : Int), 1, vs.length - 2) s → wpAny (model prog w) A.in1 (Builtin.Slice.sliceApplied (.ref sl) (pure (vs.toArray.size : Int))) Q' E' s := by
    intro Q' E' hq
    unfold Builtin.Slice.sliceApplied Builtin.Slice.sliceFields
    refine wpAny_bind (wpAny_bind (wpAny_field hos hds (x := .int 1 ti) rfl (wpAny_bind (wpAny_field hos hds (x := .int (-1) tj) rfl (wpAny_bind (wpAny_field hos hds (x := .none) rfl (wpAny_pure ?_)))))))
    refine wpAny_bind (slicePart_none ?_)
    show wpAny _ _ (if ((1 : Int) == 0) = true then _ else _) _ _ s
    rw [if_neg (by decide)]
    refine wpAny_bind (slicePart_int (wpAny_bind (slicePart_int (wpAny_bind (wpAny_pure ?_)))))
    show wpAny _ _ (match Builtin.Slice.sliceAdjust (some (1 : Int)) (some (-1)) 1 (vs.toArray.size : Int) with | (lo, hi) => pure (lo, (1 : Int), Builtin.Slice.slicePlaces lo hi 1)) _ _ s
    have e1 : Builtin.Slice.sliceAdjust (some (1 : Int)) (some (-1)) 1 (vs.toArray.size : Int) = (1, (vs.length : Int) - 1) := by
      unfold Builtin.Slice.sliceAdjust
      rw [List.size_toArray]
      simp
      omega
    rw [e1]
    have e2 : Builtin.Slice.slicePlaces (1 : Int) ((vs.length : Int) - 1) 1 = vs.length - 2 := by
      unfold Builtin.Slice.slicePlaces
      have h1 : (1 : Int) > 0 := by omega
      simp only [h1, if_true, Int.ediv_one]
      split <;> omega
    show wpAny _ _ (pure ((1 : Int), (1 : Int), Builtin.Slice.slicePlaces (1 : Int) ((vs.length : Int) - 1) 1)) _ _ s
    rw [e2]
    exact wpAny_pure hq
  refine wpAny_bind (go ?_)
  show wpAny _ _ (if ((1 : Int) == 0 && (1 : Int) == 1 && (vs.length - 2) == vs.toArray.size) = true then _ else _) _ _ s
  rw [if_neg (by simp)]
  have pick : ((List.range (vs.length - 2)).filterMap fun (k : Nat) => vs.toArray[((1 : Int) + (k : Int) * 1).toNat]?).toArray = ((vs.drop 1).take (vs.length - 2)).toArray := by
    have e : (fun (k : Nat) => vs.toArray[((1 : Int) + (k : Int) * 1).toNat]?) = fun k => vs.toArray[1 + k]? := by
      funext k
      have : ((1 : Int) + (k : Int) * 1).toNat = 1 + k := by omega
      rw [this]
    rw [e]
    have := pick_run vs.toArray 1 (vs.length - 2)
    rw [List.filterMap_map] at this
    have e2 : ((fun x => vs.toArray[x]?) ∘ fun x => 1 + x) = fun k => vs.toArray[1 + k]? := rfl
    rw [e2] at this
    rw [this]
  rw [pick]
  first
    | exact wpAny_bind (m := Builtin.Tuple.tupleExact _) (wpAny_newObj_type (wpAny_pure ⟨_, rfl, wpAny_pure h⟩) hdrop)
    | exact wpAny_bind (m := Builtin.Tuple.tupleExact _) (wpAny_newObj_type (wpAny_bind (wpAny_pure (wpAny_pure ⟨_, rfl, wpAny_pure h⟩))) hdrop)
    | exact wpAny_bind (wpAny_bind (m := Builtin.Tuple.tupleExact _) (wpAny_newObj_type (wpAny_pure (wpAny_pure ⟨_, rfl, wpAny_pure h⟩)) hdrop))
    | exact wpAny_bind (wpAny_bind (m := Builtin.Tuple.tupleExact _) (wpAny_newObj_type (wpAny_pure ⟨_, rfl, wpAny_pure h⟩) hdrop))

theorem reps_cut {φ n h xs vs} (r : Reps g φ n h xs vs) (lo hi : Option Int) : Reps g φ n h (cutL xs lo hi) (cutL vs lo hi) := by
  unfold cutL
  rw [r.length]
  exact (r.drop _).take _
theorem slicePick_cut (vs : List Value) (lo hi : Option Int) : slicePick vs.toArray lo hi none = (cutL vs lo hi).toArray := by
  rw [slicePick_plain, List.size_toArray]
  rfl
theorem picked_cut (b : List Nat) (lo hi : Option Int) : KBy.picked (bytesArr b) lo hi = bytesArr (cutL b lo hi) := by
  rw [KBc.picked_eq]
  unfold bytesArr cutL
  rw [List.size_toArray, List.length_map]
  show ((b.map Nat.toUInt8).drop _ |>.take _).toArray = _
  rw [← List.map_drop, ← List.map_take]

theorem sim_slice {v : Expr} {l u : Option Expr} {p pos : Pos} {fv : EF} {fl fu : PF} (h1 : SimE prog w g k nms nm v fv) (h2 : SimP prog w g k nms nm l fl) (h3 : SimP prog w g k nms nm u fu) :
    SimE prog w g k nms nm (.Subscript v (.Slice l u none p) pos) (cutE fv fl fu) := by
  intro env A s φ ρ σ eo hA R F av σ' e Q E h
  obtain ⟨⟨a, σ1⟩, e1, e⟩ := obind e
  obtain ⟨⟨lo, σ2⟩, e2, e⟩ := obind e
  obtain ⟨⟨hi, σ3⟩, e3, e⟩ := obind e
  refine Subscript_ (h1 env A s φ ρ σ eo hA R F a σ1 e1 _ _ fun va h₁ tk₁ φ₁ X₁ r₁ => wpAny_Slice ?_)
  refine h2 env A _ φ₁ ρ σ1 eo hA X₁.rel (F.ext X₁) lo σ2 e2 _ _ fun lv h₂ tk₂ φ₂ X₂ p₂ => ?_
  refine h3 env A _ φ₂ ρ σ2 eo hA X₂.rel ((F.ext X₁).ext X₂) hi σ3 e3 _ _ fun uv h₃ tk₃ φ₃ X₃ p₃ => ?_
  rw [evalPart_none]
  refine wpAny_pure ?_
  have XP := Ext.push X₃.rel { cls := .type "slice", data := .fields #[lv, uv, .none] }
  have X := ((X₁.trans X₂).trans X₃).trans XP
  have ra := ((r₁.ext X₂).ext X₃).ext XP
  have hsl := Heap.IsSliceOf.new h₃ lv uv .none
  unfold cutO at e
  dsimp only at e hsl ⊢
  split at e
  · split at e
    · rename_i xs hx
      split at e
      · rename_i hsz
        cases e
        cases ra with | ref _ hid =>
        obtain ⟨v1, n1, g1, q1, _⟩ := XP.rel.lst hx
        refine tail_own (o := .ref _) PySem.F.slot_list_getitem.lookup ⟨_, g1, rfl⟩ ?_ rfl
        refine wpAny_getItem_list_slice (l := φ₃ _) (items := v1.toArray) ⟨_, g1, rfl, _, rfl⟩ hsl p₂ p₃ .none (by intro hh; cases hh) ?_ (by rw [List.size_toArray, q1.length]; exact szl hsz)
        rw [slicePick_cut]
        obtain ⟨XN, rN⟩ := Ext.newList XP.rel 0 (reps_cut q1 lo hi)
        exact h _ _ _ _ (X.trans XN) rN
      · cases e
    · cases e
  · split at e
    · rename_i xs hsz
      cases e
      cases ra with | blist hb hr =>
      rename_i items la
      obtain ⟨ob, hob, hc, n, hd⟩ := id hb
      have hl : (h₃.push { cls := .type "slice", data := .fields #[lv, uv, .none] }).IsList la items.toArray := ⟨ob, XP.rel.base _ _ hob, hc, n, hd⟩
      refine tail_own (o := .ref _) PySem.F.slot_list_getitem.lookup hl.typeIs ?_ rfl
      refine wpAny_getItem_list_slice (l := la) (items := items.toArray) hl hsl p₂ p₃ .none (by intro hh; cases hh) ?_ (by rw [List.size_toArray, hr.length]; exact szl hsz)
      rw [slicePick_cut]
      obtain ⟨XN, rN⟩ := Ext.newList XP.rel 0 (reps_cut hr lo hi)
      exact h _ _ _ _ (X.trans XN) rN
    · cases e
  · split at e
    · rename_i xs hc
      obtain ⟨hlo, hhi, h2', hsz⟩ := hc
      cases e
      subst hlo hhi
      cases ra with | tup ha hr =>
      refine tail_own (o := .ref _) PySem.F.slot_tuple_getitem.lookup ⟨_, ha, rfl⟩ ?_ rfl
      refine tuple_mid ha hsl p₂ p₃ (by rw [hr.length]; exact h2') (by rw [hr.length]; exact hsz) ?_
      rename_i its adr kn
      have XT := Ext.push XP.rel (tupObj (List.take (its.length - 2) (List.drop 1 its)) 0)
      have q := (((hr.drop 1).take (its.length - 2)).ext XT)
      rw [hr.length] at q XT ⊢
      exact h _ _ _ φ₃ (X.trans XT) (.tup (Heap.get?_push_size _ rfl) q)
    · cases e
  · split at e
    · rename_i b hsz
      cases e
      cases ra with | bytes _ t hb =>
      refine tail_own (T := "bytes") FB.slot_bytes_getitem.lookup (PySem.W.typeIs_bytes _ _ _) ?_ rfl
      refine getItem_meets (PySem.W.typeIs_bytes _ _ _) (by decide) FB.slot_bytes_getitem FB.entry_bytes_getitem (FB.args_bytes_getitem_2 _ _) (KBc.meets_slice2 _ _ _ p₂ p₃) ⟨hsl, ?_, fun t' k' => ?_⟩
      · refine Nat.le_trans (KBc.size_picked_le _ _ _) ?_
        unfold bytesArr
        rw [List.size_toArray, List.length_map]
        exact szl hsz
      · rw [picked_cut]
        refine h _ _ _ φ₃ X (.bytes _ _ fun x hx => hb x ?_)
        unfold cutL at hx
        exact List.mem_of_mem_drop (List.mem_of_mem_take hx)
    · cases e
  · cases e
end
end Mine
end
section
set_option maxRecDepth 100000
namespace Mine
section
variable {prog : Program} {w : World} {g : Heap} {k : Nat} {nms : List (Str × NameKind)} {nm : List Str}

noncomputable def lenO : CF := fun as σ => match as with
  | [.ref id] => match σ[id]? with
    | some (.list xs) => if xs.length ≤ 65536 then some (.int xs.length, σ) else none
    | _ => none
  | [.bytes b] => if b.length ≤ 65536 then some (.int b.length, σ) else none
  | _ => none
theorem prim_len : PrimC prog w g k (.builtin "len") lenO := by
  intro A s φ σ as vs hA R r av σ' e Q E h
  unfold lenO at e
  split at e
  · split at e
    · rename_i xs hx
      split at e
      · rename_i hsz
        cases e
        cases r with | cons r1 r2 =>
        cases r2
        cases r1 with | ref _ hid =>
        obtain ⟨v1, n1, h1, q1, _⟩ := R.lst hx
        refine call_len_meets ⟨_, h1, rfl⟩ PySem.F.slot_list_len PySem.F.entry_list_len (PySem.F.args_list_len_1 _) (AutoListH.list___len___list_0 _ v1.toArray n1) (by omega) (by rw [List.size_toArray, q1.length]; omega) (fun _ hq => ⟨h1, hq⟩) ?_
        rw [List.size_toArray, q1.length]
        exact h _ s.heap _ φ (Ext.refl R) (.int _ _)
      · cases e
    · cases e
  · split at e
    · rename_i b hsz
      cases e
      cases r with | cons r1 r2 =>
      cases r2
      cases r1 with | bytes _ t hb =>
      have hz : (bytesArr b).size = b.length := by unfold bytesArr; simp
      refine PySem.W.len_bytes (by rw [hz]; omega) ?_
      rw [hz]
      exact h _ s.heap _ φ (Ext.refl R) (.int _ _)
    · cases e
  · cases e

theorem ints_are : ∀ {vs : List Value} {ns}, Paired (fun v i => ∃ t, v = Value.int i t) vs ns → IntsAre vs ns
  | _, _, .nil => .nil
  | _, _, .cons ⟨t, e⟩ p => by subst e; exact .cons _ _ (ints_are p)
noncomputable def sumO : CF := fun as σ => match as with
  | [.ref id] => match σ[id]? with
    | some (.list xs) => (intsOf xs).map fun ns => (.int ns.sum, σ)
    | _ => none
  | _ => none
theorem prim_sum : PrimC prog w g k (.builtin "sum") sumO := by
  intro A s φ σ as vs hA R r av σ' e Q E h
  unfold sumO at e
  split at e
  · split at e
    · rename_i xs hx
      obtain ⟨ns, e1, e2⟩ := omap e
      cases e2
      cases r with | cons r1 r2 =>
      cases r2
      cases r1 with | ref _ hid =>
      obtain ⟨v1, n1, h1, q1, _⟩ := R.lst hx
      have p := ints_are (ints_paired e1 q1)
      obtain ⟨zs, hz⟩ := p.allInts.items
      have hl : s.heap.IsList (φ _) (intItems zs) := ⟨_, h1, rfl, _, by rw [← hz]⟩
      refine sum_intListG hA.hd hl fun h' tk t' hk => ?_
      have e3 : preSum (numAt zs) zs.size = ns.sum := by
        rw [preSum_eq, List.take_of_length_le (by simp), ← nums_intItems, ← hz]
        show (numsOf v1).sum = _
        rw [p.numsOf]
      rw [e3]
      exact h _ h' tk φ (Ext.grow R hk) (.int _ _)
    · cases e
  · cases e

noncomputable def hexS (i : Int) : Str := PySem.baseText "0x" 16 i
noncomputable def hexO : CF := fun as σ => match as with
  | [.int i] => if (hexS i).length ≤ 65536 then some (.str (hexS i), σ) else none
  | _ => none
theorem prim_hex : PrimC prog w g k (.builtin "hex") hexO := by
  intro A s φ σ as vs hA R r av σ' e Q E h
  unfold hexO at e
  split at e
  · split at e
    · rename_i i hsz
      cases e
      cases r with | cons r1 r2 =>
      cases r2
      cases r1
      exact PySem.P.hex_of_int (h _ s.heap _ φ (Ext.refl R) (.str _ _)) (szl hsz)
    · cases e
  · cases e
noncomputable def intO : CF := fun as σ => match as with | [.int i] => some (.int i, σ) | _ => none
theorem prim_int : PrimC prog w g k (.type "int") intO := by
  intro A s φ σ as vs hA R r av σ' e Q E h
  unfold intO at e
  split at e
  · cases e
    cases r with | cons r1 r2 =>
    cases r2
    cases r1
    exact PySem.call_int_int (h _ s.heap s.toks φ (Ext.refl R) (.int _ _))
  · cases e
/-- isinstance(x, bytes), of bytes -/
noncomputable def isbO : CF := fun as σ => match as with | [.bytes _, .con (.type T)] => if T = "bytes" then some (.bool true, σ) else none | _ => none
theorem prim_isb : PrimC prog w g k (.builtin "isinstance") isbO := by
  intro A s φ σ as vs hA R r av σ' e Q E h
  unfold isbO at e
  split at e
  · split at e
    · rename_i hT
      subst hT
      cases e
      cases r with | cons r1 r2 =>
      cases r2 with | cons r2 r3 =>
      cases r3
      cases r2
      cases r1
      exact call_isinstance (isinstance_true (Tx := "bytes") PySem.F.isi_meta_bytes PySem.F.sub_bytes_bytes) ⟨rfl, h _ s.heap s.toks φ (Ext.refl R) (.bool _)⟩
    · cases e
  · cases e

/-! methods of lists -/
noncomputable def okL : AV → St → Bool := fun a σ => match a with | .ref id => (match σ[id]? with | some (.list _) => true | _ => false) | _ => false
theorem get_list {name : Str} {id : String} (slot : Slot "list" name id) (hty : typeOf (.builtin id) = pure (.type "method_descriptor")) : ∀ A s φ σ a va (pl : Sem Bool) (Q : Value × List Value → Shared → Prop) (E : Value → Shared → Prop), Rel g φ σ s.heap → Rep g φ σ.length s.heap a va → okL a σ = true → Q (.builtin id, [va]) s → wpAny (model prog w) A (getMethod va name pl) Q E s := by
  intro A s φ σ a va pl Q E R r hok hq
  unfold okL at hok
  split at hok
  · split at hok
    · rename_i xs hx
      cases r with | ref _ hid =>
      obtain ⟨v1, n1, h1, q1, _⟩ := R.lst hx
      exact getMethod_builtin ⟨_, h1, rfl⟩ PySem.F.plainAttrs_list slot hty (fun a e => by cases e; exact ⟨_, h1, rfl⟩) hq
    · cases hok
  · cases hok
noncomputable def appO : MF := fun a as σ => match a, as with
  | .ref id, [x] => match σ[id]? with
    | some (.list xs) => if xs.length ≤ 65536 then some (.con .none, σ.set id (.list (xs ++ [x]))) else none
    | _ => none
  | _, _ => none
theorem prim_append : PrimM prog w g k "append" "list.append" okL appO := by
  refine ⟨get_list PySem.F.slot_list_append PySem.F.type_list_append, ?_⟩
  intro A s φ σ a as va vs hA R ra r av σ' e Q E h
  unfold appO at e
  split at e
  · split at e
    · rename_i xs hx
      split at e
      · rename_i hsz
        cases e
        cases ra with | ref _ hid =>
        cases r with | cons r1 r2 =>
        cases r2
        obtain ⟨v1, n1, h1, q1, _⟩ := R.lst hx
        refine call_meets PySem.F.slot_list_append ⟨_, h1, rfl⟩ PySem.F.entry_list_append (PySem.F.args_list_append_2 _ _) (PySem.list_append _ v1.toArray n1 _ (by rw [List.size_toArray, q1.length]; exact szl hsz)) ⟨h1, ?_⟩
        exact h _ _ s.toks φ (Ext.updList R hid h1 _ (by simp) (q1.snoc r1)) (.con _)
      · cases e
    · cases e
  · cases e
noncomputable def insL (xs : List AV) (i : Nat) (x : AV) : List AV := xs.take i ++ x :: xs.drop i
noncomputable def insO : MF := fun a as σ => match a, as with
  | .ref id, [.int i, x] => match σ[id]? with
    | some (.list xs) => if xs.length ≤ 65536 ∧ 0 ≤ i ∧ i ≤ xs.length then some (.con .none, σ.set id (.list (insL xs i.toNat x))) else none
    | _ => none
  | _, _ => none
theorem prim_insert : PrimM prog w g k "insert" "list.insert" okL insO := by
  refine ⟨get_list PySem.F.slot_list_insert PySem.F.type_list_insert, ?_⟩
  intro A s φ σ a as va vs hA R ra r av σ' e Q E h
  unfold insO at e
  split at e
  · split at e
    · rename_i i x _ xs hx
      split at e
      · rename_i hc
        cases e
        cases ra with | ref _ hid =>
        cases r with | cons r1 r2 =>
        cases r2 with | cons r2 r3 =>
        cases r3
        cases r1
        obtain ⟨v1, n1, h1, q1, _⟩ := R.lst hx
        have hl := q1.length
        refine call_meets PySem.F.slot_list_insert ⟨_, h1, rfl⟩ PySem.F.entry_list_insert (PySem.F.args_list_insert_3 _ _ _) (AutoListH.list_insert_list_int_val_1 _ v1.toArray n1 i _ _ (by simp [Builtin.List.listFitsIndex]; omega) (by rw [List.size_toArray, hl]; exact szl hc.1)) ⟨h1, ?_⟩
        refine h _ _ s.toks φ (Ext.updList (v2 := v1.take i.toNat ++ _ :: v1.drop i.toNat) R hid h1 _ ?_ ((q1.take i.toNat).append (.cons r2 (q1.drop i.toNat)))) (.con _)
        have hn : ¬ i < 0 := by omega
        have hm : min i.toNat v1.length = i.toNat := by omega
        apply Array.toList_inj.mp
        simp [hn, hm]
        exact List.take_of_length_le (by simp)
      · cases e
    · cases e
  · cases e
noncomputable def popO : MF := fun a as σ => match a, as with
  | .ref id, [.int i] => match σ[id]? with
    | some (.list xs) => if xs.length ≤ 65536 ∧ 0 ≤ i ∧ i < xs.length then (xs[i.toNat]?).map fun x => (x, σ.set id (.list (xs.eraseIdx i.toNat))) else none
    | _ => none
  | _, _ => none
theorem Reps.erase {φ n h} {as : List AV} {vs : List Value} (x : Reps g φ n h as vs) (j : Nat) : Reps g φ n h (as.eraseIdx j) (vs.eraseIdx j) := by
  rw [List.eraseIdx_eq_take_drop_succ, List.eraseIdx_eq_take_drop_succ]
  exact (x.take j).append (x.drop (j + 1))
theorem prim_pop : PrimM prog w g k "pop" "list.pop" okL popO := by
  refine ⟨get_list PySem.F.slot_list_pop PySem.F.type_list_pop, ?_⟩
  intro A s φ σ a as va vs hA R ra r av σ' e Q E h
  unfold popO at e
  split at e
  · split at e
    · rename_i i _ xs hx
      split at e
      · rename_i hc
        obtain ⟨x, e1, e2⟩ := omap e
        cases e2
        cases ra with | ref _ hid =>
        cases r with | cons r1 r2 =>
        cases r2
        cases r1
        obtain ⟨v1, n1, h1, q1, _⟩ := R.lst hx
        have hl := q1.length
        obtain ⟨y, hy, ry⟩ := q1.get e1
        have hn : ¬ i < 0 := by omega
        refine call_meets PySem.F.slot_list_pop ⟨_, h1, rfl⟩ PySem.F.entry_list_pop (PySem.F.args_list_pop_2 _ _) (MeetsSeq.list_pop_at _ v1.toArray n1 i _ i.toNat y (by simp [Builtin.List.listFitsIndex]; omega) (by simp [seqIndex?, hn, hl, hc.2.1, hc.2.2]) (by simpa using hy)
          (by rw [List.size_toArray, hl]; exact szl hc.1)) ⟨h1, ?_⟩
        have X := Ext.updList R hid h1 (fun xs => xs.eraseIdxIfInBounds i.toNat) (v2 := v1.eraseIdx i.toNat) (by
          have hb : i.toNat < v1.toArray.size := by rw [List.size_toArray, hl]; omega
          unfold Array.eraseIdxIfInBounds
          rw [dif_pos hb]
          apply Array.toList_inj.mp
          rw [Array.toList_eraseIdx]) (q1.erase i.toNat)
        exact h _ _ s.toks φ X (by have := ry.ext X; exact this)
      · cases e
    · cases e
  · cases e

/-! methods of strings -/
noncomputable def okS : AV → St → Bool := fun a _ => match a with | .str _ => true | _ => false
theorem get_str {name : Str} {id : String} (slot : Slot "str" name id) (hty : typeOf (.builtin id) = pure (.type "method_descriptor")) : ∀ A s φ σ a va (pl : Sem Bool) (Q : Value × List Value → Shared → Prop) (E : Value → Shared → Prop), Rel g φ σ s.heap → Rep g φ σ.length s.heap a va → okS a σ = true → Q (.builtin id, [va]) s → wpAny (model prog w) A (getMethod va name pl) Q E s := by
  intro A s φ σ a va pl Q E R r hok hq
  unfold okS at hok
  split at hok
  · cases r
    exact getMethod_builtin (typeIs_str _ _ _) PySem.F.plainAttrs_str slot hty (fun a e => by cases e) hq
  · cases hok
theorem reps_strs {φ n h} : ∀ (l : List (Str × Tok)), Reps g φ n h (l.map fun p => .str p.1) (strValues l)
  | [] => .nil
  | p :: l => .cons (.str _ _) (reps_strs l)
noncomputable def splO : MF := fun a as σ => match a, as with
  | .str x, [.str y] => if (y.length == 0) = false ∧ x.length ≤ 65536 then some (.ref σ.length, σ ++ [.list ((Txt.split x y).map .str)]) else none
  | _, _ => none
theorem prim_split : PrimM prog w g k "split" "str.split" okS splO := by
  refine ⟨get_str PySem.F.slot_str_split PySem.F.type_str_split, ?_⟩
  intro A s φ σ a as va vs hA R ra r av σ' e Q E h
  unfold splO at e
  split at e
  · split at e
    · rename_i x y hc
      obtain ⟨hy, hx⟩ := hc
      cases e
      cases ra with | str _ t =>
      cases r with | cons r1 r2 =>
      cases r2
      cases r1 with | str _ u =>
      have main : ∀ (l : List (Str × Tok)) (n : Nat) (tk : Tok), l.map (·.1) = Txt.split x y → Q (.ref s.heap.objs.size) { s with heap := s.heap.push (lstObj (strValues l) n), toks := tk } := fun l n tk hl => by
        have q := reps_strs (g := g) (φ := φ) (n := σ.length) (h := s.heap) l
        have e2 : (l.map fun p => AV.str p.1) = (Txt.split x y).map .str := by rw [← hl, List.map_map]; rfl
        rw [e2] at q
        obtain ⟨X, rr⟩ := Ext.newList R n q
        exact h _ _ tk _ X rr
      cases h1 : (decide (x.length < y.length) || decide (Builtin.Str.strKind x < Builtin.Str.strKind y))
      · cases hf : (Builtin.Str.occurrences x y 0 x.length (x.length + 1)).isEmpty
        · have hsp : Txt.split x y = Builtin.Str.partsBetween x (Builtin.Str.occurrences x y 0 x.length (x.length + 1)) y.length := (if_neg (ne_true_of_eq_false h1)).trans (if_neg (ne_true_of_eq_false hf))
          have hn : (Builtin.Str.partsBetween x (Builtin.Str.occurrences x y 0 x.length (x.length + 1)) y.length).length ≤ sizeLine := by
            rw [← hsp]
            have := (fact_split x y).2
            exact Nat.le_trans this (by have : (65538 : Nat) ≤ sizeLine := by decide +kernel
                                        omega)
          refine call_meets PySem.F.slot_str_split (typeIs_str _ _ _) PySem.F.entry_str_split (PySem.F.args_str_split_2 _ _) (meets_str_split_sep x y t u h1 hy hf (szl hx) hn) ?_
          show wants Q E _ { s with toks := _, heap := s.heap.push { cls := .type "list", data := .seq (strsFrom s.toks (Builtin.Str.partsBetween x (Builtin.Str.occurrences x y 0 x.length (x.length + 1)) y.length)).toArray } }
          rw [strsFrom_eq]
          exact main _ 0 _ ((numbered_texts _ _).trans hsp.symm)
        · exact call_meets PySem.F.slot_str_split (typeIs_str _ _ _) PySem.F.entry_str_split (PySem.F.args_str_split_2 _ _) (meets_str_split_not_found x y t u h1 hy hf) (main [(x, t)] 0 s.toks ((if_neg (ne_true_of_eq_false h1)).trans (if_pos hf)).symm)
      · exact call_meets PySem.F.slot_str_split (typeIs_str _ _ _) PySem.F.entry_str_split (PySem.F.args_str_split_2 _ _) (meets_str_split_cannot_occur x y t u h1) (main [(x, t)] 0 s.toks (if_pos h1).symm)
    · cases e
  · cases e
theorem strs_pairs : ∀ {vs : List Value} {ns : List Str}, Paired (fun v i => ∃ t, v = Value.str i t) vs ns → ∃ l : List (Str × Tok), vs = strValues l ∧ l.map (·.1) = ns
  | _, _, .nil => ⟨[], rfl, rfl⟩
  | _, _, .cons ⟨t, e⟩ p => by
    obtain ⟨l, h1, h2⟩ := strs_pairs p
    subst e h1 h2
    exact ⟨(_, t) :: l, rfl, rfl⟩
noncomputable def joinO : MF := fun a as σ => match a, as with
  | .str x, [.ref id] => match σ[id]? with
    | some (.list xs) => match strsOf xs with
      | some ss => if Builtin.Str.tooLong (ss.toArray.foldl (· + ·.length + x.length) 0) = false then some (.str (Builtin.Str.glued x ss), σ) else none
      | none => none
    | _ => none
  | _, _ => none
theorem prim_join : PrimM prog w g k "join" "str.join" okS joinO := by
  refine ⟨get_str PySem.F.slot_str_join PySem.F.type_str_join, ?_⟩
  intro A s φ σ a as va vs hA R ra r av σ' e Q E h
  unfold joinO at e
  split at e
  · split at e
    · split at e
      · rename_i x _ _ xs hx _ ss hss
        split at e
        · rename_i hl
          cases e
          cases ra with | str _ t =>
          cases r with | cons r1 r2 =>
          cases r2
          cases r1 with | ref _ hid =>
          obtain ⟨v1, n1, h1, q1, _⟩ := R.lst hx
          obtain ⟨l, e1, e2⟩ := strs_pairs (strs_paired hss q1)
          subst e1 e2
          refine call_meets PySem.F.slot_str_join (typeIs_str _ _ _) PySem.F.entry_str_join (PySem.F.args_str_join_2 _ _) (meets_str_join_list x t _ l hl) ⟨⟨_, h1, rfl, _, rfl⟩, ?_⟩
          have hfit := joinFit_length hl
          have fin : ∀ t' tk, Q (.str (Builtin.Str.glued x (l.map (·.1))) t') { s with toks := tk } := fun t' tk => h _ s.heap tk φ (Ext.refl R) (.str _ _)
          match l, hfit, fin with
          | [], hfit, fin => exact ⟨hfit, fin _ _⟩
          | [p], hfit, fin => exact fin _ s.toks
          | p :: q :: l, hfit, fin => exact ⟨hfit, fin _ _⟩
        · cases e
      · cases e
    · cases e
  · cases e

/-! look-up in a dictionary of ints and strings -/
noncomputable def tabGet (T : List (Int × Str)) (i : Int) : Option Str := (T.find? fun p => p.1 == i).map (·.2)
noncomputable def okD (d : Addr) : AV → St → Bool := fun a _ => match a with | .con (.ref b) => b == d | _ => false
noncomputable def getD (T : List (Int × Str)) : MF := fun _ as σ => match as with | [.int i, .str x] => some (.str ((tabGet T i).getD x), σ) | _ => none
theorem prim_dget {d : Addr} {T : List (Int × Str)} (hT : ∀ (prog : Program) (w : World), IntTab prog w g d (T.map fun p => (PyData.int p.1, PyData.str p.2))) : PrimM prog w g k "get" "dict.get" (okD d) (fun a as σ => match a with | .con (.ref b) => if b = d then getD T a as σ else none | _ => none) := by
  refine ⟨?_, ?_⟩
  · intro A s φ σ a va pl Q E R r hok hq
    unfold okD at hok
    split at hok
    · rename_i b
      have : b = d := eq_of_beq hok
      subst this
      cases r
      exact getMethod_intTab_get ((hT prog w).keep R.base) hq
    · cases hok
  · intro A s φ σ a as va vs hA R ra r av σ' e Q E h
    split at e
    · split at e
      · rename_i b hb
        subst hb
        cases ra
        unfold getD at e
        split at e
        · rename_i i x
          cases e
          cases r with | cons r1 r2 =>
          cases r2 with | cons r2 r3 =>
          cases r3
          cases r1
          cases r2
          refine call_get2_intTab ((hT prog w).keep R.base) (PyProof.V.Flat.str _ _) fun v hv => ?_
          have e3 : (lookup (.int i) (T.map fun p => (PyData.int p.1, PyData.str p.2))).getD (.str x) = .str ((tabGet T i).getD x) := by
            clear hT hv h
            induction T with
            | nil => rfl
            | cons p T ih =>
              rw [List.map_cons, PySem.Spec.lookup]
              have hs : PySem.Spec.same (PyData.int p.1) (PyData.int i) = (p.1 == i) := by unfold PySem.Spec.same; rfl
              rw [hs]
              unfold tabGet
              rw [List.find?_cons]
              cases hp : p.1 == i with
              | true => simp
              | false => simpa [tabGet] using ih
          rw [e3] at hv
          obtain ⟨t', rfl⟩ := hv.str_inv
          exact h _ s.heap _ φ (Ext.refl R) (.str _ _)
        · cases e
      · cases e
    · cases e
end
end Mine
end
section
set_option maxRecDepth 100000
namespace Mine

theorem slot_ba_setitem : Slot "bytearray" "__setitem__" "bytearray.__setitem__" :=
  .of (owner := "bytearray") (n := "__setitem__") (by rw [typeLookup_type, builtinLookup_eq_fast]; kernel_rfl) (by decide +kernel) (by decide +kernel) (by decide +kernel)
    (by first | exact .inl (by decide +kernel) | exact .inr (by decide +kernel)) (by rw [isSubtype_type]; kernel_rfl)
theorem entry_ba_setitem : entryFor table "bytearray.__setitem__" = some Builtin.«bytearray.__setitem__» := entryFor_of_tree (by kernel_rfl)
theorem args_ba_setitem (a b c : Value) : argsOk "bytearray.__setitem__" ⟨[a, b, c], []⟩ := by unfold argsOk; kernel_rfl
theorem ba_no_bytes : typeLookup (.type "bytearray") "__bytes__" = pure none := by rw [typeLookup_type, builtinLookup_eq_fast]; kernel_rfl
theorem ba_no_index : typeLookup (.type "bytearray") "__index__" = pure none := by rw [typeLookup_type, builtinLookup_eq_fast]; kernel_rfl
theorem ba_buffer : typeLookup (.type "bytearray") "__buffer__" = pure (some (.builtin "bytearray.__buffer__")) := by rw [typeLookup_type, builtinLookup_eq_fast]; kernel_rfl
theorem ba_release : typeLookup (.type "bytearray") "__release_buffer__" = pure (some (.builtin "bytearray.__release_buffer__")) := by rw [typeLookup_type, builtinLookup_eq_fast]; kernel_rfl
theorem ba_sub : isSubtype (.type "bytearray") (.type "bytearray") = pure true := by rw [isSubtype_type]; kernel_rfl

section
variable {prog : Program} {w : World} {g : Heap} {k : Nat}
theorem typ_ba {s : Shared} {a : Addr} {b : List Nat} (h : s.heap.get? a = some (barObj b)) : s.TypeIs (.ref a) "bytearray" := ⟨_, h, rfl⟩

theorem set_ba {A s} {a : Addr} {b : List Nat} {i x : Int} {t u : Tok} {E : Value → Shared → Prop} {Q : Unit → Shared → Prop} (ha : s.heap.get? a = some (barObj b)) (h0 : 0 ≤ i) (h1 : i < b.length) (hsz : b.length ≤ 65536) (hx : 0 ≤ x ∧ x < 256)
    (h : Q () { s with heap := s.heap.update a (Obj.mapBytearray (·.setIfInBounds i.toNat x.toNat.toUInt8)) }) : wpAny (model prog w) A (setItem (.ref a) (.int i t) (.int x u)) Q E s := by
  have hT := typ_ba ha
  unfold setItem
  refine wpAny_holding ?_
  refine wpAny_bind (wpAny_sequenceKey hT (by decide) ?_)
  refine wpAny_bind (wpAny_callSpecial?_slot (name := Str.ofString "__setitem__") hT slot_ba_setitem
    (wpAny_call_entry slot_ba_setitem hT entry_ba_setitem ?_ (args_ba_setitem _ _ _)))
  show wpAny _ _ (Builtin.Bytes.subscript? (.int i t) >>= _) _ _ s
  refine wpAny_bind ?_
  unfold Builtin.Bytes.subscript?
  refine wpAny_bind (wpAny_specialOf (typeIs_int s i t) PySem.F.slot_int_index.lookup ?_)
  have hf : Builtin.Bytes.fitsIndex i = true := by simp only [Builtin.Bytes.fitsIndex, Bool.and_eq_true, decide_eq_true_eq]; omega
  show wpAny _ _ (if (!Builtin.Bytes.fitsIndex i) = true then _ else pure (some i)) _ _ s
  rw [hf]
  refine wpAny_pure ?_
  show wpAny _ _ (Builtin.Bytes.byteValue (.int x u) >>= _) _ _ s
  refine wpAny_bind ?_
  unfold Builtin.Bytes.byteValue
  refine wpAny_bind (wpAny_of_eq (rfl : asIndex (.int x u) = pure x) ?_)
  refine wpAny_ite ?_
  rw [if_neg (by simp; omega)]
  refine wpAny_pure ?_
  refine wpAny_bind ?_
  unfold Builtin.Bytes.payload Builtin.Bytes.payload?
  refine wpAny_bind (wpAny_bind (wpAny_load ha ?_))
  refine wpAny_pure (wpAny_pure ?_)
  have hs : seqIndex? i (bytesArr b).size = some i.toNat := by
    have hn : ¬ i < 0 := by omega
    have hz : (bytesArr b).size = b.length := by unfold bytesArr; simp
    simp [seqIndex?, hn, h0, hz, h1]
  rw [hs]
  show wpAny _ _ (updateBytearray a (·.setIfInBounds i.toNat x.toNat.toUInt8) >>= _) _ _ s
  refine wpAny_bind ?_
  unfold updateBytearray
  refine wpAny_bind (wpAny_load ha ?_)
  show wpAny _ _ (update a (Obj.mapBytearray (·.setIfInBounds i.toNat x.toNat.toUInt8)) >>= fun _ => lookBehind a) _ _ _
  refine wpAny_bind (wpAny_update ha ?_)
  have hS := Heap.get?_update_self (Obj.mapBytearray (·.setIfInBounds i.toNat x.toNat.toUInt8)) ha rfl
  refine wpAny_lookBehind hS ?_ ?_
  · show (if ((bytesArr b).setIfInBounds i.toNat x.toNat.toUInt8).size > sizeLine then some "bytearray:memory" else none) = none
    rw [if_neg]
    rw [Array.size_setIfInBounds]
    have hz : (bytesArr b).size = b.length := by unfold bytesArr; simp
    have := szl hsz
    omega
  · first
      | exact wpAny_pure ⟨.none, rfl, wpAny_pure h⟩
      | exact wpAny_bind (wpAny_pure (wpAny_pure ⟨.none, rfl, wpAny_pure h⟩))

theorem Rel.bar {φ σ h id b} (R : Rel g φ σ h) (e : σ[id]? = some (AO.barr b)) : h.get? (φ id) = some (barObj b) ∧ (∀ x ∈ b, x < 256) ∧ id < σ.length := by
  obtain ⟨ob, hob, hr⟩ := R.objs id _ e
  cases hr with
  | barr hb => exact ⟨hob, hb, (List.getElem?_eq_some_iff.mp e).1⟩

theorem set_list {A s} {l : Addr} {vs : List Value} {n : Nat} {i : Int} {t : Tok} {v : Value} {E : Value → Shared → Prop} {Q : Unit → Shared → Prop} (ho : s.heap.get? l = some (lstObj vs n)) (h0 : 0 ≤ i) (h1 : i < vs.length) (hsz : vs.length ≤ 65536)
    (h : Q () { s with heap := s.heap.update l (Obj.mapSeq (·.setIfInBounds i.toNat v)) }) : wpAny (model prog w) A (setItem (.ref l) (.int i t) v) Q E s := by
  have hl : s.heap.IsList l vs.toArray := ⟨_, ho, rfl, _, rfl⟩
  unfold setItem
  refine wpAny_holding ?_
  refine wpAny_bind (wpAny_sequenceKey hl.typeIs (by decide) ?_)
  refine wpAny_bind (wpAny_callSpecial?_slot (name := Str.ofString "__setitem__") hl.typeIs slot_list_setitem
    (wpAny_call_entry slot_list_setitem hl.typeIs entry_list_setitem ?_ (args_list_setitem _ _ _)))
  show wpAny _ _ (Builtin.List.listSubscript? (.int i t) >>= _) _ _ s
  refine wpAny_bind (wpAny_listSubscript_int (fitsIndex_of h0 (by omega)) ?_)
  obtain ⟨j, rfl⟩ := Int.eq_ofNat_of_zero_le h0
  have hj : j < vs.toArray.size := by rw [List.size_toArray]; omega
  have hx' : vs.toArray[j]? = some vs.toArray[j] := Array.getElem?_eq_getElem hj
  show wpAny _ _ ((seqItemAt l j >>= fun r => pure (r.map (j, ·))) >>= _) _ _ s
  refine wpAny_bind (wpAny_bind (wpAny_seqItemAt ho rfl (wpAny_pure ?_)))
  rw [hx']
  show wpAny _ _ (setSeqItemAt l j v >>= _) _ _ s
  refine wpAny_bind (wpAny_setSeqItemAt ho rfl ?_)
  first
    | exact wpAny_bind (wpAny_pure (wpAny_pure ⟨.none, rfl, wpAny_pure h⟩))
    | exact wpAny_pure ⟨.none, rfl, wpAny_pure h⟩

noncomputable def setO : WF := fun a b c σ => match a, b with
  | .ref id, .int i => match σ[id]? with
    | some (.list xs) => if 0 ≤ i ∧ i < xs.length ∧ xs.length ≤ 65536 then some (σ.set id (.list (xs.set i.toNat c))) else none
    | some (.barr bs) => match c with
      | .int x => if 0 ≤ i ∧ i < bs.length ∧ bs.length ≤ 65536 ∧ 0 ≤ x ∧ x < 256 then some (σ.set id (.barr (bs.set i.toNat x.toNat))) else none
      | _ => none
    | _ => none
  | _, _ => none
theorem prim_set : PrimW prog w g k setO := by
  intro A s φ σ a b c va vb vc hA R ra rb rc σ' e Q E h
  unfold setO at e
  split at e
  · split at e
    · rename_i id i _ xs hx
      split at e
      · rename_i hc
        cases e
        cases ra with | ref _ hid =>
        cases rb
        obtain ⟨v1, n1, h1, q1, _⟩ := R.lst hx
        refine set_list h1 hc.1 (by rw [q1.length]; exact hc.2.1) (by rw [q1.length]; exact hc.2.2) ?_
        exact h _ s.toks φ (Ext.updList R hid h1 _ (v2 := v1.set i.toNat _) (by simp) (q1.set rc i.toNat))
      · cases e
    · rename_i id i _ bs hx
      split at e
      · rename_i x
        split at e
        · rename_i hc
          obtain ⟨h0, h1, h2, h3, h4⟩ := hc
          cases e
          cases ra with | ref _ hid =>
          cases rb
          cases rc
          obtain ⟨hob, hb, _⟩ := R.bar hx
          refine set_ba hob h0 h1 h2 ⟨h3, h4⟩ ?_
          have hS := Heap.get?_update_self (Obj.mapBytearray (·.setIfInBounds i.toNat x.toNat.toUInt8)) hob rfl
          have hb' : ∀ y ∈ bs.set i.toNat x.toNat, y < 256 := fun y hy => by
            rcases List.mem_or_eq_of_mem_set hy with hy | rfl
            · exact hb y hy
            · omega
          have X := Ext.upd (ao := .barr (bs.set i.toNat x.toNat)) R hid (fun b o hb e => (Heap.SameBut.update ..).extBut b o hb e) hS (by
            have e9 : Obj.mapBytearray (·.setIfInBounds i.toNat x.toNat.toUInt8) (barObj bs) = barObj (bs.set i.toNat x.toNat) := by
              show ({ cls := .type "bytearray", data := .bytearray ((bytesArr bs).setIfInBounds i.toNat x.toNat.toUInt8) 0 } : Obj) = _
              have : (bytesArr bs).setIfInBounds i.toNat x.toNat.toUInt8 = bytesArr (bs.set i.toNat x.toNat) := by
                unfold bytesArr
                rw [List.map_set]
                simp
              rw [this]
            rw [e9]
            exact .barr hb')
          exact h _ s.toks φ X
        · cases e
      · cases e
    · cases e
  · cases e

/-! bytes of ints -/
noncomputable def bytO : CF := fun as σ => match as with
  | [.ref id] => match σ[id]? with
    | some (.list xs) => match intsOf xs with
      | some ns => if ns.all (fun n => decide (0 ≤ n) && decide (n < 256)) = true ∧ xs.length ≤ 65536 then some (.bytes (ns.map Int.toNat), σ) else none
      | none => none
    | some (.barr b) => if b.length ≤ 65536 then some (.bytes b, σ) else none
    | _ => none
  | _ => none
theorem byteArr_nat {ns : List Int} : PySem.byteArr ns = bytesArr (ns.map Int.toNat) := by
  unfold PySem.byteArr bytesArr
  rw [List.map_map]
  rfl
theorem bytes_of_ba {A s} {a : Addr} {b : List Nat} {E : Value → Shared → Prop} {Q : Value → Shared → Prop} (ha : s.heap.get? a = some (barObj b)) (hsz : b.length ≤ 65536)
    (hQ : ∀ t k, Q (.bytes (bytesArr b) t) { s with toks := k }) : codeAny (model prog w) A (.call (.builtin "bytes.__new__") ⟨[.type "bytes", .ref a], []⟩) (wants Q E) s := by
  refine codeAny_of_tree ?_
  show wpAny _ A.in1 (do checkBuiltinCall "bytes.__new__" ⟨[.type "bytes", .ref a], []⟩; again (.builtin "bytes.__new__" ⟨[.type "bytes", .ref a], []⟩)) _ _ s
  refine wpAny_bind (wpAny_of_eq (PySem.F.bm_newCall _) (wpAny_pure ⟨plainId_quiet PySem.F.bm_plain _, codeAny_builtin PySem.F.bm_entry ?_⟩))
  rw [Around.under_plainId PySem.F.bm_plain _]
  have hT := typ_ba ha
  unfold Builtin.«bytes.__new__»
  refine wpAny_bind (wpAny_of_eq (a := true) rfl ?_)
  refine bm_if_false rfl ?_
  refine wpAny_bind (wpAny_of_eq PySem.F.bm_sub ?_)
  refine bm_if_false rfl ?_
  refine wpAny_bind (wpAny_of_eq (PySem.F.bm_bind _) ?_)
  refine wpAny_bind (wpAny_of_eq (a := ()) rfl ?_)
  refine wpAny_bind (wpAny_of_eq (a := ()) rfl ?_)
  refine bm_if_false rfl ?_
  refine wpAny_bind (wpAny_specialOf hT ba_no_bytes ?_)
  refine wpAny_bind (wpAny_bind ?_)
  show wpAny _ _ (load a >>= _) _ _ _
  refine wpAny_bind (wpAny_load ha ?_)
  refine wpAny_pure (wpAny_pure ?_)
  refine bm_if_false rfl ?_
  refine wpAny_bind (wpAny_specialOf hT ba_no_index ?_)
  refine bm_if_true rfl ?_
  first
    | show wpAny _ _ (Builtin.Bytes.buffer? "bytes.__new__" (.ref a) true >>= _) _ _ _
    | (refine wpAny_bind ?_; show wpAny _ _ (Builtin.Bytes.buffer? "bytes.__new__" (.ref a) true >>= _) _ _ _)
  have buf : ∀ {Q' : Option (Array UInt8) → Shared → Prop} {E'}, Q' (some (bytesArr b)) s → wpAny (model prog w) A.in1 (Builtin.Bytes.buffer? "bytes.__new__" (.ref a) true) Q' E' s := by
    intro Q' E' hq
    have inst : ∀ {Q'' : Bool → Shared → Prop} {E''} , Q'' true s → ∀ T : String, T = "bytearray" → wpAny (model prog w) A.in1 (isInstance (.ref a) (.type T)) Q'' E'' s := by
      intro Q'' E'' hq T hT'
      subst hT'
      exact wpAny_isInstance hT ba_sub hq
    unfold Builtin.Bytes.buffer?
    refine wpAny_bind (wpAny_specialOf hT ba_buffer ?_)
    refine wpAny_bind ?_
    · unfold Builtin.Bytes.slotIsOwn
      refine wpAny_bind (wpAny_specialOf hT ba_buffer ?_)
      refine wpAny_ite ?_
      rw [if_neg (by decide +kernel)]
      refine inst ?_ _ (by decide +kernel)
      refine bm_if_false rfl ?_
      refine wpAny_bind (wpAny_specialOf hT ba_buffer ?_)
      refine wpAny_bind ?_
      unfold Builtin.Bytes.ownRelease Builtin.Bytes.slotIsOwn
      refine wpAny_bind (wpAny_bind (wpAny_specialOf hT ba_release ?_))
      refine wpAny_ite ?_
      rw [if_neg (by decide +kernel)]
      refine inst ?_ _ (by decide +kernel)
      refine wpAny_pure ?_
      refine bm_if_false rfl ?_
      refine wpAny_bind ?_
      unfold Builtin.Bytes.payload Builtin.Bytes.payload?
      refine wpAny_bind (wpAny_bind (wpAny_load ha ?_))
      exact wpAny_pure (wpAny_pure (wpAny_pure hq))
  refine wpAny_bind (buf ?_)
  have hz : (bytesArr b).size ≤ sizeLine := by
    unfold bytesArr
    rw [List.size_toArray, List.length_map]
    exact szl hsz
  refine wpAny_bind (wpAny_rule (wpAny_bind (wpAny_mkBytes ?_ hz)))
  first
    | (refine wpAny_bind ?_
       show wpAny _ _ (if (Value.type "bytes" == Value.type "bytes") = true then _ else _) _ _ _
       refine bm_if_true (by decide) ?_
       first
         | exact wpAny_pure (wpAny_pure (hQ _ _))
         | exact wpAny_bind (wpAny_pure (wpAny_pure (wpAny_pure (hQ _ _)))))
    | (show wpAny _ _ (if (Value.type "bytes" == Value.type "bytes") = true then _ else _) _ _ _
       refine bm_if_true (by decide) ?_
       first
         | exact wpAny_pure (hQ _ _)
         | exact wpAny_bind (wpAny_pure (wpAny_pure (hQ _ _))))
theorem prim_bytes : PrimC prog w g k (.type "bytes") bytO := by
  intro A s φ σ as vs hA R r av σ' e Q E h
  unfold bytO at e
  split at e
  · split at e
    · rename_i xs hx
      split at e
      · rename_i ns hns
        split at e
        · rename_i hc
          cases e
          cases r with | cons r1 r2 =>
          cases r2
          cases r1 with | ref _ hid =>
          obtain ⟨v1, n1, h1, q1, _⟩ := R.lst hx
          have hin : ∀ n ∈ ns, 0 ≤ n ∧ n < 256 := fun n hn => by
            have := List.all_eq_true.mp hc.1 n hn
            simpa using this
          refine PySem.call_bytes_ints (ns := ns) (vs := v1) ⟨_, h1, rfl, _, rfl⟩ (ints_are (ints_paired hns q1)) hin (by rw [q1.length]; exact szl hc.2) hA.hd fun h' t k' hk => ?_
          rw [byteArr_nat]
          refine h _ h' k' φ (Ext.grow R hk) (.bytes _ _ fun y hy => ?_)
          obtain ⟨n, hn, rfl⟩ := List.mem_map.mp hy
          have := hin n hn
          omega
        · cases e
      · cases e
    · rename_i b hx
      split at e
      · rename_i hsz
        cases e
        cases r with | cons r1 r2 =>
        cases r2
        cases r1 with | ref _ hid =>
        obtain ⟨hob, hb, _⟩ := R.bar hx
        refine callType_codes (Q₁ := fun obj s₁ => s₁.TypeIs obj "bytes" ∧ Q obj s₁) PySem.F.bm_called (PySem.F.bm_typeCall _) PySem.F.entry_object_init
          (bytes_of_ba (A := A.in1) hob hsz fun t k' => ⟨PySem.W.typeIs_bytes _ _ _, h _ s.heap k' φ (Ext.refl R) (.bytes _ _ hb)⟩) fun obj s₁ h₁ => ?_
        exact ⟨h₁.1, PySem.F.args_object_init_2 obj _, object_init_meets PySem.F.bm_called.init.lookup PySem.F.bm_called.made (by decide) prog w A.in1 _ s₁ ⟨h₁.1, rfl, h₁.2⟩⟩
      · cases e
    · cases e
  · cases e
end
end Mine
end
section
open PySem.AutoSeq1 (wpAny_loadPart')
set_option maxRecDepth 100000
namespace Mine

theorem bytes_len_lookup : typeLookup (.type "bytes") "__len__" = pure (some (.builtin "bytes.__len__")) := FB.slot_bytes_len.lookup
noncomputable def ByteAt (b : Array UInt8) (i : Nat) (v : Value) : Prop := ∃ c u, b[i]? = some c ∧ v = .int ((c : UInt8).toNat : Int) u
section
variable {prog : Program} {w : World} {A : Around} {E : Value → Shared → Prop} {s : Shared}
theorem collect_bytes {Q : List Value → Shared → Prop} (hh : A.handled = none) (x : Array UInt8) (t : Tok)
    (hQ : ∀ s' acc, (∀ b o, s.heap.get? b = some o → s'.heap.get? b = some o) → s'.gens = s.gens → s'.drawn = s.drawn → s'.os = s.os → ItemsOf (ByteAt x) acc x.size → Q acc.toList s') (hn : x.size ≤ sizeLine) :
    wpAny (model prog w) A (collect (.bytes x t)) Q E s := by
  unfold collect
  refine wpAny_bind (wpAny_runValue (codeAny_builtin PySem.F.entry_proto_collect ?_))
  rw [Around.under_plainId PySem.F.plain_proto_collect _]
  show wpAny _ A.in1 (newList [] >>= fun l => again (.builtin "list.__iadd__" ⟨[l, .bytes x t], []⟩)) _ _ s
  refine wpAny_bind (wpAny_newObj_type ?_)
  refine wpAny_pure ⟨plainId_quiet PySem.F.plain_list_iadd _, codeAny_builtin PySem.F.entry_list_iadd ?_⟩
  rw [Around.under_plainId PySem.F.plain_list_iadd _]
  show wpAny _ A.in1 (Builtin.List.listExtendWith (.ref s.heap.objs.size) (.bytes x t) (.ref s.heap.objs.size)) _ _ _
  unfold Builtin.List.listExtendWith
  refine wpAny_bind (wpAny_typeOf (T := "bytes") (v := .bytes x t) rfl ?_)
  have h1 : Builtin.List.listSameRef (.ref s.heap.objs.size) (.bytes x t) = false := rfl
  have h2 : (Value.type "bytes" == Value.type "list") = false := by decide
  have h3 : (Value.type "bytes" == Value.type "tuple") = false := by decide
  simp only [h1, h2, h3, Bool.or_false, Bool.false_eq_true, if_false]
  refine wpAny_bind (KBw.pyIter_bytes ?_)
  refine wpAny_bind (wpAny_holding ?_)
  unfold Builtin.List.listLengthHint
  refine wpAny_bind (wpAny_specialOf (T := "bytes") (v := .bytes x t) rfl bytes_len_lookup ?_)
  wp_delta
  refine wpAny_bind (wpAny_isInstance (T := "bytes") (v := .bytes x t) (b := true) rfl (by rw [isSubtype_type]; kernel_rfl) ?_)
  show wpAny _ A.in1 (typeOf (Value.bytes x t) >>= _) _ _ _
  refine wpAny_bind (wpAny_typeOf (T := "bytes") (v := .bytes x t) rfl ?_)
  refine wpAny_pure ?_
  rw [if_neg (by decide)]
  dsimp only
  generalize hH : s.heap.push { cls := .type "list", data := .seq ([] : List Value).toArray } = H
  have hHs : H.objs.size = s.heap.objs.size + 1 := by rw [← hH, Heap.size_push]
  have hSf : s.heap.objs.size ∉ [H.objs.size] := fun hm => by rw [List.mem_singleton.mp hm] at hHs; exact absurd hHs (Nat.ne_of_lt (Nat.lt_succ_self _))
  have hS : (H.push { cls := .type "bytes_iterator", data := .fields #[.bytes x t, .int 0 0] }).get? s.heap.objs.size = some { cls := .type "list", data := .seq ([] : List Value).toArray } := Heap.get?_push_of_some _ (hH ▸ Heap.get?_push_size _ rfl)
  have W := KBw.walks (prog := prog) (w := w) (A := A.in1) hh H.objs.size x t
  refine wpAny_pure ⟨plainId_quiet PySem.F.plain_extend_loop _, codeAny_extend_loopS W.toS hn _ hSf _ x.size 0 _ _ _ rfl (Nat.zero_le _) ⟨_, Heap.get?_push_size _ rfl, rfl, rfl⟩ hS (ItemsOf.nil _) fun s' acc' c' hm hS' hacc => ?_⟩
  show wpAny _ A (load s.heap.objs.size >>= _) _ _ s'
  refine wpAny_bind (wpAny_load hS' ?_)
  refine wpAny_pure (hQ s' acc' (fun b ob e => hm.heap b ob (fun hb => ?_) (Heap.get?_push_of_some _ (hH ▸ Heap.get?_push_of_some _ e))) hm.gens hm.drawn hm.os hacc)
  have hlt := Heap.lt_size e
  rcases List.mem_cons.mp hb with h | h
  · exact absurd hlt (h ▸ Nat.lt_irrefl _)
  · rw [List.mem_singleton.mp h, hHs] at hlt; exact absurd hlt (Nat.not_lt.mpr (Nat.le_succ _))
end
theorem meets_tuple_bytes (x : Array UInt8) (t : Tok) (hsz : x.size ≤ sizeLine) :
    Meets (Builtin.«tuple.__new__» ⟨[.type "tuple", .bytes x t], []⟩)
      (fun A R s => A.handled = none ∧ ∀ (s' : Shared) (acc : Array Value), (∀ b o, s.heap.get? b = some o → s'.heap.get? b = some o) → s'.gens = s.gens → s'.drawn = s.drawn → s'.os = s.os → ItemsOf (ByteAt x) acc x.size →
        R (.ok (.ret (.ref s'.heap.objs.size))) { s' with heap := s'.heap.push { cls := .type "tuple", data := .seq acc } }) :=
  .of_wp fun prog w A R s h => by
    obtain ⟨hh, h⟩ := h
    have hsub := sub_tuple_self
    have hinit := init_tuple_lookup
    have hmh := madeHere_tuple
    have hT : s.TypeIs (.bytes x t) "bytes" := rfl
    have hh1 : A.in1.handled = none := hh
    wp_walk using wpAny_typeOf hT, collect_bytes (hn := hsz) hh1 x t
    intro s' acc hk hg hd hos hacc
    show wpAny _ _ (Builtin.Tuple.tupleExact acc.toList.toArray >>= fun v => ret v) _ _ _
    unfold Builtin.Tuple.tupleExact
    refine wpAny_bind (wpAny_newObj_type ?_ (show acc.toList.toArray.size ≤ sizeLine by simp only [Array.toArray_toList]; rw [hacc.1]; exact hsz))
    refine wpAny_pure ⟨_, rfl, ?_⟩
    have e : acc.toList.toArray = acc := by simp
    rw [e]
    exact h s' acc hk hg hd hos hacc
section
variable {prog : Program} {w : World} {g : Heap} {k : Nat}
theorem call_tuple_bytes {A s} {E Q : Value → Shared → Prop} (hh : A.handled = none) (x : Array UInt8) (t : Tok)
    (h : ∀ (h' : Heap) (tk : Nat) (acc : Array Value), (∀ b o, s.heap.get? b = some o → h'.get? b = some o) → ItemsOf (ByteAt x) acc x.size → Q (.ref h'.objs.size) { s with heap := h'.push { cls := .type "tuple", data := .seq acc }, toks := tk })
    (hsz : x.size ≤ sizeLine) : wpAny (model prog w) A (call (.type "tuple") [.bytes x t]) Q E s := by
  refine callType_new PySem.F.called_tuple (by decide) (PySem.F.typeCall_tuple_1 _) (PySem.F.newCall_tuple_1 _) (fun obj => PySem.F.args_object_init_2 obj _) PySem.F.entry_tuple_new
    (meets_tuple_bytes x t hsz) ⟨hh, fun s' acc hk hg hd hos hacc => ⟨⟨_, Heap.get?_push_size _ rfl, rfl⟩, ?_⟩⟩
  obtain ⟨h', g', d', tk', os'⟩ := s'
  have e1 : g' = s.gens := hg
  have e2 : d' = s.drawn := hd
  have e3 : os' = s.os := hos
  subst e1 e2 e3
  exact h h' tk' acc hk hacc
theorem byte_reps {φ n h} {b : List Nat} (hb : ∀ x ∈ b, x < 256) {vs : List Value} (hv : ItemsOf (ByteAt (bytesArr b)) vs.toArray (bytesArr b).size) : Reps g φ n h (b.map fun x => .int (x : Nat)) vs := by
  obtain ⟨hl, hi⟩ := hv
  have hz : (bytesArr b).size = b.length := by unfold bytesArr; simp
  rw [hz, List.size_toArray] at hl
  have key : ∀ (b : List Nat) (vs : List Value), (∀ x ∈ b, x < 256) → vs.length = b.length → (∀ (j : Nat) v, vs[j]? = some v → ByteAt (bytesArr b) j v) → Reps g φ n h (b.map fun x => .int (x : Nat)) vs := by
    intro b
    induction b with
    | nil =>
      intro vs _ hl _
      cases vs with
      | nil => exact .nil
      | cons _ _ => simp at hl
    | cons x b ih =>
      intro vs hb hl hi
      cases vs with
      | nil => simp at hl
      | cons v vs =>
        have h0 := hi 0 v rfl
        obtain ⟨c, u, hc, rfl⟩ := h0
        have e : c.toNat = x := by
          have hx := hb x (List.mem_cons_self ..)
          unfold bytesArr at hc
          simp at hc
          subst hc
          simp only [UInt8.toNat_ofNat']
          omega
        rw [e]
        refine .cons (.int _ _) (ih vs (fun y hy => hb y (List.mem_cons_of_mem _ hy)) (by simpa using hl) fun j v hj => ?_)
        obtain ⟨c', u', hc', e'⟩ := hi (j + 1) v (by simpa using hj)
        refine ⟨c', u', ?_, e'⟩
        unfold bytesArr at hc' ⊢
        simpa using hc'
  exact key b vs hb hl fun j v hj => hi j v (by simpa using hj)
noncomputable def tupO : CF := fun as σ => match as with
  | [.bytes b] => if b.length ≤ 65536 then some (.tup (b.map fun x => .int (x : Nat)), σ) else none
  | _ => none
theorem prim_tuple : PrimC prog w g k (.type "tuple") tupO := by
  intro A s φ σ as vs hA R r av σ' e Q E h
  unfold tupO at e
  split at e
  · split at e
    · rename_i b hsz
      cases e
      cases r with | cons r1 r2 =>
      cases r2
      cases r1 with | bytes _ t hb =>
      refine call_tuple_bytes hA.hd _ t (fun h' tk acc hk hi => ?_) (by unfold bytesArr; rw [List.size_toArray, List.length_map]; exact szl hsz)
      have X := (Ext.grow R hk).trans (Ext.push (Ext.grow R hk).rel (tupObj acc.toList 0))
      have q := byte_reps (g := g) (φ := φ) (n := σ.length) (h := h'.push (tupObj acc.toList 0)) hb (vs := acc.toList) (by simpa using hi)
      have := h _ _ tk φ X (.tup (Heap.get?_push_size _ rfl) q)
      simpa using this
    · cases e
  · cases e
end
end Mine
end
section
set_option maxRecDepth 100000
namespace Mine

/-! the text's defs, by their place -/
noncomputable def stAt (p : Program) (i : Nat) : Stmt := (p.main.body[i]?).getD (.Pass default)
noncomputable def bodyOf : Stmt → List Stmt
  | .FunctionDef _ _ b _ _ _ _ _ _ _ => b
  | _ => []
noncomputable def scopeOf : Stmt → Scope
  | .FunctionDef _ _ _ _ _ _ s _ _ _ => s
  | _ => default
noncomputable def namesOf (st : Stmt) : List (Str × NameKind) := (scopeOf st).names

theorem inter_false {nms env} (eo : EnvOK nms env) : interactive env = false := by
  unfold interactive
  rw [eo.kind]
  rfl

noncomputable def capB (nm cnm : List Str) (cap : List (Option Nat)) (names : List (Str × NameKind)) : Bool := (List.range cap.length).all fun j => match cap[j]? with
  | some (some i) => (match cnm[j]?, nm[i]? with
    | some x, some y => x == y && names.lookup x == some .free
    | _, _ => false)
  | _ => true
noncomputable def compB (nms : List (Str × NameKind)) (nm : List Str) (scope : Scope) (cnm : List Str) (cap : List (Option Nat)) (xs : List Str) : Bool :=
  scope.kind == .function && scope.names.all (fun x => x.2 != .cell) && scope.names.all (fun x => x.2 != .local || scope.names.lookup x.1 == some .local) && scope.names.all (fun x => x.2 != .free || nms.lookup x.1 == some .cell) && capB nm cnm cap scope.names && xs.all fun x => scope.names.lookup x == some .local
theorem CompOK.of {nms nm scope cnm cap xs} (h : compB nms nm scope cnm cap xs = true) : CompOK nms nm scope cnm cap xs := by
  unfold compB at h
  simp only [Bool.and_eq_true] at h
  obtain ⟨⟨⟨⟨⟨h1, h2⟩, h3⟩, h4⟩, h5⟩, h6⟩ := h
  refine ⟨eq_of_beq h1, fun x hx hc => ?_, fun x hx hc => ?_, fun x hx hc => ?_, fun j i hj => ?_, fun x hx => ?_⟩
  · have := List.all_eq_true.mp h2 x hx
    rw [hc] at this; cases this
  · have := List.all_eq_true.mp h3 x hx
    rw [hc] at this
    simpa using this
  · have := List.all_eq_true.mp h4 x hx
    rw [hc] at this
    simpa using this
  · unfold capB at h5
    have hlt : j < cap.length := (List.getElem?_eq_some_iff.mp hj).1
    have := List.all_eq_true.mp h5 j (List.mem_range.mpr hlt)
    rw [hj] at this
    dsimp only at this
    split at this
    · rename_i x y e1 e2
      rw [Bool.and_eq_true] at this
      have exy := eq_of_beq this.1
      subst exy
      exact ⟨x, e1, e2, by simpa using this.2⟩
    · cases this
  · have := List.all_eq_true.mp h6 x hx
    simpa using this

section
variable {prog : Program} {w : World} {g : Heap} {k : Nat} {nms : List (Str × NameKind)} {nm : List Str}

theorem PrimC.up {k k' : Nat} {f : Value} {op : CF} (h : PrimC prog w g k f op) (hk : k ≤ k') : PrimC prog w g k' f op :=
  fun A s φ σ as vs hA R r => h A s φ σ as vs (hA.mono hk) R r
theorem PrimK.up {k k' : Nat} {f : Value} {kn : Str} {op : KF} (h : PrimK prog w g k f kn op) (hk : k ≤ k') : PrimK prog w g k' f kn op :=
  fun A s φ σ as vs b vb hA R r q => h A s φ σ as vs b vb (hA.mono hk) R r q

noncomputable def negO : UF := fun a σ => match a with | .int x => some (.int (-x), σ) | _ => none
theorem prim_neg : PrimU prog w g k (unaryOp .USub) negO := by
  intro A s φ σ a va hA R r av σ' e Q E h
  unfold negO at e
  split at e
  · cases e
    cases r
    exact PyProof.Rows.neg_int (h _ s.heap _ φ (Ext.refl R) (.int _ _))
  · cases e

/-- the comprehension that is stored in a local name of its line -/
noncomputable def swapB (nms : List (Str × NameKind)) (x : Str) (sc : Scope) (px vp : Pos) : Bool := nms.lookup x == some .local && px.line == vp.line && !(sc.names.any fun (n, k) => n == x && (k == .local || k == .cell))
theorem swaps_of {env} {x : Str} {px vp : Pos} {elt : Expr} {gs : List Comprehension} {sc : Scope} {l : Nat} (eo : EnvOK nms env) : swapsWith (.ListComp elt gs sc vp) (some (.Name x px)) l env = pure (swapB nms x sc px vp) := by
  unfold swapsWith swapB
  have h1 : env.blockKind = .function := by unfold Env.blockKind; rw [eo.kind]; rfl
  have h2 : env.kindOf x = nms.lookup x := by unfold Env.kindOf; rw [eo.names]
  simp only [h1, h2]
  rfl
end
end Mine
end
section
set_option maxRecDepth 100000
namespace Mine
section
variable {prog : Program} {w : World} {g : Heap} {k : Nat} {nms : List (Str × NameKind)} {nm : List Str}

/-! functions with defaults -/
noncomputable def fillF (n nl : Nat) (bf : SF) (fill : List AV) : CF := fun as σ => if as.length = n then callF nl bf (as ++ fill) σ else none
noncomputable def fillK (n nl : Nat) (bf : SF) : KF := fun as b σ => if as.length = n then callF nl bf (as ++ [b]) σ else none
/-- plain values stand for themselves in every heap -/
noncomputable def Plain2 (fill : List AV) (ws : List Value) : Prop := ∀ (g : Heap) φ n h, Reps g φ n h fill ws
theorem prim_fnD {a : Addr} {fd : FuncData} {body : List Stmt} {params locs : List Str} {bf : SF} (n : Nat) {fill : List AV} (fn : FnOK g a fd body nms params) (hs : SimSs prog w g k nms nm body bf) (hnm : nm = params ++ locs) (hnd : nm.Nodup) (nl : Nat)
    (hp : params.length = n + fill.length) (hb : ∀ (s : Shared) (vs : List Value), (∀ b o, g.get? b = some o → s.heap.get? b = some o) → vs.length = n → ∃ ws, BindsTo s fd ⟨vs, []⟩ (params.zip (vs ++ ws)) ∧ Plain2 fill ws) :
    PrimC prog w g (k + 1) (.ref a) (fillF n nl bf fill) := by
  intro A s φ σ as vs hA R hr av σ' e Q E h
  unfold fillF at e
  split at e
  · rename_i hl
    obtain ⟨ws, h1, h2⟩ := hb s vs R.base (hr.length.trans hl)
    exact run_fn (args := ⟨vs, []⟩) fn h1 (hr.append (h2 g φ σ.length s.heap)) (by rw [List.length_append, hl, hp]) hnm hnd hs hA R e h
  · cases e
theorem prim_fnK {a : Addr} {fd : FuncData} {body : List Stmt} {params locs : List Str} {bf : SF} {kn : Str} (n : Nat) (fn : FnOK g a fd body nms params) (hs : SimSs prog w g k nms nm body bf) (hnm : nm = params ++ locs) (hnd : nm.Nodup) (nl : Nat)
    (hp : params.length = n + 1) (hb : ∀ (s : Shared) (vs : List Value) (v : Value), (∀ b o, g.get? b = some o → s.heap.get? b = some o) → vs.length = n → BindsTo s fd ⟨vs, [(kn, v)]⟩ (params.zip (vs ++ [v]))) :
    PrimK prog w g (k + 1) (.ref a) kn (fillK n nl bf) := by
  intro A s φ σ as vs b vb hA R hr rb av σ' e Q E h
  unfold fillK at e
  split at e
  · rename_i hl
    exact run_fn (args := ⟨vs, [(kn, vb)]⟩) fn (hb s vs vb R.base (hr.length.trans hl)) (hr.append (.cons rb .nil)) (by rw [List.length_append, hl, hp]; rfl) hnm hnd hs hA R e h
  · cases e
/-- insort with a default for its middle parameters and a keyword -/
noncomputable def fillDK (n nl : Nat) (bf : SF) (fill : List AV) : KF := fun as b σ => if as.length = n then callF nl bf (as ++ (fill ++ [b])) σ else none
theorem prim_fnDK {a : Addr} {fd : FuncData} {body : List Stmt} {params locs : List Str} {bf : SF} {kn : Str} (n : Nat) {fill : List AV} (fn : FnOK g a fd body nms params) (hs : SimSs prog w g k nms nm body bf) (hnm : nm = params ++ locs) (hnd : nm.Nodup) (nl : Nat)
    (hp : params.length = n + fill.length + 1) (hb : ∀ (s : Shared) (vs : List Value) (v : Value), (∀ b o, g.get? b = some o → s.heap.get? b = some o) → vs.length = n → ∃ ws, BindsTo s fd ⟨vs, [(kn, v)]⟩ (params.zip (vs ++ (ws ++ [v]))) ∧ Plain2 fill ws) :
    PrimK prog w g (k + 1) (.ref a) kn (fillDK n nl bf fill) := by
  intro A s φ σ as vs b vb hA R hr rb av σ' e Q E h
  unfold fillDK at e
  split at e
  · rename_i hl
    obtain ⟨ws, h1, h2⟩ := hb s vs vb R.base (hr.length.trans hl)
    exact run_fn (args := ⟨vs, [(kn, vb)]⟩) fn h1 (hr.append ((h2 g φ σ.length s.heap).append (.cons rb .nil))) (by rw [List.length_append, List.length_append, hl, hp]; simp; omega) hnm hnd hs hA R e h
  · cases e
theorem plain_0nn (t : Tok) : Plain2 [.int 0, .con .none] [.int 0 t, .none] := fun _ _ _ _ => .cons (.int _ _) (.cons (.con _) .nil)
theorem plain_0nnn (t : Tok) : Plain2 [.int 0, .con .none, .con .none] [.int 0 t, .none, .none] := fun _ _ _ _ => .cons (.int _ _) (.cons (.con _) (.cons (.con _) .nil))
theorem plain_n : Plain2 [.con .none] [.none] := fun _ _ _ _ => .cons (.con _) .nil
noncomputable def plainF (n nl : Nat) (bf : SF) : CF := fun as σ => if as.length = n then callF nl bf as σ else none
theorem prim_fnP {a : Addr} {fd : FuncData} {body : List Stmt} {params locs : List Str} {bf : SF} (n : Nat) (fn : FnOK g a fd body nms params) (hs : SimSs prog w g k nms nm body bf) (hnm : nm = params ++ locs) (hnd : nm.Nodup) (nl : Nat)
    (hp : params.length = n) (hb : ∀ vs : List Value, vs.length = n → bindArgs fd ⟨vs, []⟩ = pure (params.zip vs)) : PrimC prog w g (k + 1) (.ref a) (plainF n nl bf) := by
  subst hp
  exact prim_fn fn hs hnm hnd nl hb

/-! a pair of names from a pair -/
noncomputable def ixorO : BF := fun a b σ => match a, b with | .int x, .int y => some (.int (Builtin.bitXor x y), σ) | _, _ => none

noncomputable def starB : Expr → Bool
  | .Starred .. => true
  | _ => false
noncomputable def swB (nms : List (Str × NameKind)) (x y : Str) (px py : Pos) (v1 v2 : Expr) : Bool :=
  nms.lookup x == some .local && nms.lookup y == some .local && py.line == px.line && !(y == x) && !starB v1 && !starB v2 && !([v1, v2].all (foldedForSure 8)) && !([v1, v2].all (constantsAlone 8))
theorem pos_name (x : Str) (p : Pos) : (Expr.Name x p).pos = p := rfl
theorem swapped_of {x y : Str} {px py tp vp : Pos} {kk kv : Nat} {v1 v2 : Expr} (h : swB nms x y px py v1 v2 = true) : ∀ env, EnvOK nms env →
    swappedStores [.Tuple [.Name x px, .Name y py] kk tp] (.Tuple [v1, v2] kv vp) env = pure (some [x, y]) := by
  intro env eo
  have h1 : env.blockKind = .function := by unfold Env.blockKind; rw [eo.kind]; rfl
  have h2 : ∀ x, env.kindOf x = nms.lookup x := fun x => by unfold Env.kindOf; rw [eo.names]
  unfold swB at h
  simp only [Bool.and_eq_true, beq_iff_eq, Bool.not_eq_true'] at h
  obtain ⟨⟨⟨⟨⟨⟨⟨a1, a2⟩, a3⟩, a4⟩, a5⟩, a6⟩, a7⟩, a8⟩ := h
  have s1 : ([v1, v2].any fun | .Starred .. => true | _ => false) = false := by
    show (starB v1 || (starB v2 || false)) = false
    rw [a5, a6]; rfl
  have a9 : (x == y) = false := by
    rw [beq_eq_false_iff_ne] at a4 ⊢
    exact fun e => a4 e.symm
  unfold swappedStores
  simp [h1, h2, a1, a2, a3, pos_name]
  have b1 : ¬ (starB v1 = true ∨ starB v2 = true) := by rw [a5, a6]; simp
  have b2 : [x, y].eraseDups.length = 2 := by simp [List.eraseDups, List.eraseDupsBy, List.eraseDupsBy.loop, a4]
  have b3 : ¬ (foldedForSure 8 v1 = true ∧ foldedForSure 8 v2 = true) := by
    intro hh
    simp [hh.1, hh.2] at a7
  have b4 : ¬ (constantsAlone 8 v1 = true ∧ constantsAlone 8 v2 = true) := by
    intro hh
    simp [hh.1, hh.2] at a8
  show (if (starB v1 = true ∨ starB v2 = true) then pure none else _) = _
  rw [if_neg b1, if_pos b2, if_neg b3, if_neg b4]
end
end Mine
end
section
set_option maxRecDepth 100000
namespace Mine

/-! a loop over zip of two lists, where no tuple is held -/
noncomputable def noTup : AV → Bool
  | .tup _ => false
  | .blist _ => false
  | _ => true
noncomputable def flatF (ρ : Fm) : Bool := ρ.all fun o => match o with | some a => noTup a | none => true
noncomputable def flatO : AO → Bool
  | .list xs => xs.all noTup
  | .barr _ => true
noncomputable def flatS (σ : St) : Bool := σ.all flatO
noncomputable def zipGo (tf : AF) (bf ef : SF) : Nat → Nat → Nat → Nat → SF
  | 0, _, _, _, _, _ => none
  | n + 1, id1, id2, i, ρ, σ => if flatF ρ = true ∧ flatS σ = true then match σ[id1]?, σ[id2]? with
      | some (.list xs), some (.list ys) => match xs[i]?, ys[i]? with
        | some x, some y => (tf (.tup [x, y]) ρ σ).bind fun p => (bf p.1 p.2).bind fun q => match q.1 with
          | .next => zipGo tf bf ef n id1 id2 (i + 1) q.2.1 q.2.2
          | _ => none
        | _, _ => ef ρ σ
      | _, _ => none
    else none
noncomputable def zipS (fuel : Nat) (fs : EFs) (tf : AF) (bf ef : SF) : SF := fun ρ σ => (fs ρ σ).bind fun p => match p.1 with
  | [.ref i, .ref j] => match p.2[i]?, p.2[j]? with
    | some (.list _), some (.list _) => zipGo tf bf ef fuel i j 0 ρ p.2
    | _, _ => none
  | _ => none

theorem Rep.flat {g φ n h h' a v} (x : Rep g φ n h a v) (hf : noTup a = true) : Rep g φ n h' a v := by
  cases x with
  | con v => exact .con v
  | bool b => exact .bool b
  | int i t => exact .int i t
  | str s t => exact .str s t
  | bytes b t hb => exact .bytes b t hb
  | tup ha hr => cases hf
  | blist ha hr => cases hf
  | ref id hid => exact .ref id hid
theorem Reps.flat {g φ n h h'} : ∀ {as : List AV} {vs : List Value}, Reps g φ n h as vs → as.all noTup = true → Reps g φ n h' as vs
  | [], _, r, _ => by cases r; exact .nil
  | a :: as, _, r, hf => by
    rw [List.all_cons, Bool.and_eq_true] at hf
    cases r with | cons r1 r2 => exact .cons (r1.flat hf.1) (Reps.flat r2 hf.2)
theorem flat_get {ρ : Fm} {i : Nat} {a : AV} (hf : flatF ρ = true) (h : Fm.get ρ i = some a) : noTup a = true := by
  unfold Fm.get at h
  rw [List.getD_eq_getElem?_getD] at h
  cases e : ρ[i]? with
  | none => rw [e] at h; cases h
  | some o =>
    rw [e] at h
    have h' : o = some a := h
    subst h'
    exact List.all_eq_true.mp hf _ (List.mem_of_getElem? e)

/-- a change of objects that are no part of a flat state -/
structure OffF (g : Heap) (φ : Nat → Addr) (n : Nat) (J : List Addr) : Prop where
  ne : ∀ j ∈ J, ∀ id, id < n → φ id ≠ j
  base : ∀ j ∈ J, g.get? j = none
theorem Rel.offF {g φ σ h h' J} (R : Rel g φ σ h) (hf : flatS σ = true) (hJ : OffF g φ σ.length J) (hr : Raw J h h') : Rel g φ σ h' := by
  refine ⟨fun id o e => ?_, R.inj, fun b o e => hr b o (fun hb => by rw [hJ.base b hb] at e; cases e) (R.base b o e), R.fresh⟩
  obtain ⟨ob, hob, hrep⟩ := R.objs id o e
  refine ⟨ob, hr _ _ (fun hb => hJ.ne _ hb id (List.getElem?_eq_some_iff.mp e).1 rfl) hob, ?_⟩
  have hfo := List.all_eq_true.mp hf o (List.mem_of_getElem? e)
  cases hrep with
  | list q => exact .list (q.flat hfo)
  | barr hb => exact .barr hb
theorem FrameOK.offF {g nm env φ n h h' ρ J} (F : FrameOK g nm env φ n h ρ) (hf : flatF ρ = true) (hW : ∀ j ∈ J, ¬ envW env j) (hr : Raw J h h') : FrameOK g nm env φ n h' ρ := by
  have hcell : ∀ {x c ov}, env.kindOf x = some .cell → env.cells.lookup x = some c → h.IsCell c ov → h'.IsCell c ov := fun h1 h2 ⟨o, e, d⟩ => ⟨o, hr _ _ (fun hb => hW _ hb (.inr ⟨_, h1, h2⟩)) e, d⟩
  obtain ⟨m, ⟨oL, es, ep, e1, e2, e3⟩, hv⟩ := F.vars
  refine ⟨⟨m, ⟨oL, es, ep, hr _ _ (fun hb => hW _ hb (.inl rfl)) e1, e2, e3⟩, fun i av e => ?_⟩, fun x hx => ?_, F.lf⟩
  · obtain ⟨x, hx, hk⟩ := hv i av e
    have hn := flat_get hf e
    exact ⟨x, hx, hk.imp (fun ⟨a, v, b, c⟩ => ⟨a, v, b, c.flat hn⟩) fun ⟨a, c, v, b, d, r⟩ => ⟨a, c, v, b, hcell a b d, r.flat hn⟩⟩
  · obtain ⟨c, ov, h1, h2, h3⟩ := F.cells x hx
    exact ⟨c, ov, h1, hcell hx h1 h2, h3⟩
theorem ExtW.offF {g W φ σ h φ' σ' h' h'' J} (X : ExtW g W φ σ h φ' σ' h') (hf : flatS σ' = true) (hJ : OffF g φ' σ'.length J) (h0 : ∀ j ∈ J, h.get? j = none) (hr : Raw J h' h'') : ExtW g W φ σ h φ' σ' h'' := by
  have off : ∀ b o, h.get? b = some o → b ∉ J := fun b o e hb => by rw [h0 b hb] at e; cases e
  refine ⟨X.rel0, X.rel.offF hf hJ hr, X.agree, X.le, fun b o e h1 h2 => hr b o (off b o e) (X.keep b o e h1 h2), X.new, X.wd, fun b o e => ?_⟩
  obtain ⟨o', e'⟩ := X.live b o e
  exact ⟨o', hr b o' (off b o e) e'⟩

structure ZipOK (g : Heap) (φ : Nat → Addr) (n : Nat) (h : Heap) (z TI TO i1 i2 : Addr) (id1 id2 i : Nat) : Prop where
  lt1 : id1 < n
  lt2 : id2 < n
  iz : IsZip h z TI TO .none
  ti : IsPair h TI (.ref i1) (.ref i2)
  to : ∃ a b, IsPair h TO a b
  l1 : h.IsListIter i1 (φ id1) i
  l2 : h.IsListIter i2 (φ id2) i
  zTI : TI ≠ z
  zTO : TO ≠ z
  zi1 : i1 ≠ z
  zi2 : i2 ≠ z
  tt : TI ≠ TO
  t1 : TI ≠ i1
  t2 : TI ≠ i2
  o1 : TO ≠ i1
  o2 : TO ≠ i2
  i12 : i1 ≠ i2
theorem pair_tup {h : Heap} {T : Addr} {a b : Value} (e : IsPair h T a b) : h.get? T = some (tupObj [a, b] 0) := e
theorem ZipOK.extW {g W φ σ h φ' σ' h' z TI TO i1 i2 id1 id2 i} (X : ExtW g W φ σ h φ' σ' h') (q : ZipOK g φ σ.length h z TI TO i1 i2 id1 id2 i) : ZipOK g φ' σ'.length h' z TI TO i1 i2 id1 id2 i := by
  obtain ⟨a, b, hto⟩ := q.to
  obtain ⟨o1, e1, c1, d1⟩ := q.l1
  obtain ⟨o2, e2, c2, d2⟩ := q.l2
  exact ⟨Nat.lt_of_lt_of_le q.lt1 X.le, Nat.lt_of_lt_of_le q.lt2 X.le, X.fields q.iz rfl, X.tup (pair_tup q.ti), ⟨a, b, X.tup (pair_tup hto)⟩, ⟨o1, X.fields e1 d1, c1, by rw [X.agree _ q.lt1]; exact d1⟩, ⟨o2, X.fields e2 d2, c2, by rw [X.agree _ q.lt2]; exact d2⟩,
    q.zTI, q.zTO, q.zi1, q.zi2, q.tt, q.t1, q.t2, q.o1, q.o2, q.i12⟩

section
variable {prog : Program} {w : World} {g : Heap} {k : Nat} {nms : List (Str × NameKind)} {nm : List Str}

theorem ZipOK.apart {φ : Nat → Addr} {σ : St} {h : Heap} {z TI TO i1 i2 : Addr} {id1 id2 i : Nat} (R : Rel g φ σ h) (q : ZipOK g φ σ.length h z TI TO i1 i2 id1 id2 i) : ZipApart z TI TO i1 i2 (φ id1) (φ id2) := by
  obtain ⟨a, b, hto⟩ := q.to
  obtain ⟨o1, e1, c1, d1⟩ := q.l1
  obtain ⟨o2, e2, c2, d2⟩ := q.l2
  have f : ∀ id, id < σ.length → φ id ≠ z ∧ φ id ≠ TO ∧ φ id ≠ i1 ∧ φ id ≠ i2 := fun id hid =>
    ⟨R.apart q.iz (not_mut_fields rfl) id hid, R.apart (pair_tup hto) (not_mut_tup _ _) id hid, R.apart e1 (not_mut_fields d1) id hid, R.apart e2 (not_mut_fields d2) id hid⟩
  obtain ⟨p1, p2, p3, p4⟩ := f _ q.lt1
  obtain ⟨r1, r2, r3, r4⟩ := f _ q.lt2
  exact ⟨q.zTI, q.zTO, q.zi1, q.zi2, q.tt, q.t1, q.t2, q.o1, q.o2, q.i12, p1, p2, p3, p4, r1, r2, r3, r4⟩

theorem tup_of {t : Expr} (h : isTup t = true) : ∃ es kk pos, t = .Tuple es kk pos := by
  cases t <;> first | (cases h; done) | exact ⟨_, _, _, rfl⟩
theorem not4 {α : Type} {b z t i j : α} (h : b ∉ [z, t, i, j]) : b ≠ z ∧ b ≠ t ∧ b ≠ i ∧ b ≠ j := by simpa using h
theorem all4 {α : Type} {P : α → Prop} {z t i j : α} (a : P z) (b : P t) (c : P i) (d : P j) : ∀ x ∈ [z, t, i, j], P x := by
  intro x hx
  simp only [List.mem_cons, List.not_mem_nil, or_false] at hx
  rcases hx with h | h | h | h <;> subst h <;> assumption
theorem addNe (n a b : Nat) (h : a ≠ b) : n + a ≠ n + b := by omega
theorem addNe0 (n b : Nat) (h : b ≠ 0) : n ≠ n + b := by omega
theorem zip_loop {env : Env} {A : Around} {s : Shared} {φ φ₁ : Nat → Addr} {ρ ρ' : Fm} {σ σ0 σ' : St} {h₂ : Heap} {tk₂ : Nat} {fl : Fl} {t : Expr} {b o : List Stmt} {z TI TO i1 i2 : Addr} {id1 id2 : Nat} (fuel : Nat) {xs : List Str} {tf : AF} {bf ef : SF} (h2 : SimA prog w g k nms nm xs t tf) (h3 : SimSs prog w g k nms nm b bf) (h4 : SimSs prog w g k nms nm o ef)
    (ht : isTup t = true) (eo : EnvOK nms env) (hA : Rm A k) (R : Rel g φ σ s.heap) (F : FrameOK g nm env φ σ.length s.heap ρ) (X : Ext g φ σ s.heap φ₁ σ0 h₂)
    (fJ : ∀ j ∈ [z, TO, i1, i2], s.heap.get? j = none) (gJ : ∀ j ∈ [z, TO, i1, i2], g.get? j = none) (q0 : ZipOK g φ₁ σ0.length h₂ z TI TO i1 i2 id1 id2 0) (e : zipGo tf bf ef fuel id1 id2 0 ρ σ0 = some (fl, ρ', σ'))
    {Q : Flow → Shared → Prop} {E : Value → Shared → Prop} (h : ∀ flc h' tk φ', ExtW g (envW env) φ σ s.heap φ' σ' h' → FlRep g φ' σ'.length h' fl flc → FrameOK g nm env φ' σ'.length h' ρ' → Q flc { s with heap := h', toks := tk }) :
    codeAny (model prog w) A (.forLoop t (.ref z) b o env) (fun r s' => match r with | .ok f => Q f s' | .error e => cameBackBy (model prog w) A env E e s') { s with heap := h₂, toks := tk₂ } := by
  obtain ⟨tes, tkk, tpos, rfl⟩ := tup_of ht
  refine codeAny_forLoop_any (fun n s' => ∃ h' tk φ' ρ1 σ1 i, s' = { s with heap := h', toks := tk } ∧ ExtW g (envW env) φ σ s.heap φ' σ1 h' ∧ FrameOK g nm env φ' σ1.length h' ρ1 ∧ ZipOK g φ' σ1.length h' z TI TO i1 i2 id1 id2 i ∧
    zipGo tf bf ef n id1 id2 i ρ1 σ1 = some (fl, ρ', σ')) ?_ fuel ⟨h₂, tk₂, φ₁, ρ, σ0, 0, rfl, X.toW F.wk, F.ext X, q0, e⟩
  rintro n s' ⟨h', tk, φ', ρ1, σ1, i, rfl, X, F1, q, e⟩
  cases n with
  | zero => cases e
  | succ n =>
    unfold zipGo at e
    split at e
    · rename_i hfl
      obtain ⟨hfρ, hfσ⟩ := hfl
      have D := q.apart X.rel
      obtain ⟨ta, tb, hto'⟩ := q.to
      have neJ : ∀ j ∈ [z, TO, i1, i2], ∀ id, id < σ1.length → φ' id ≠ j := by
        obtain ⟨o1, e1, c1, d1⟩ := q.l1
        obtain ⟨o2, e2, c2, d2⟩ := q.l2
        exact all4 (X.rel.apart q.iz (not_mut_fields rfl)) (X.rel.apart (pair_tup hto') (not_mut_tup _ _)) (X.rel.apart e1 (not_mut_fields d1)) (X.rel.apart e2 (not_mut_fields d2))
      have hJ : OffF g φ' σ1.length [z, TO, i1, i2] := ⟨neJ, gJ⟩
      have hWJ : ∀ j ∈ [z, TO, i1, i2], ¬ envW env j := fun j hj hw => by
        rcases hw with rfl | ⟨y, hy, hc⟩
        · obtain ⟨m, ⟨o, es, ep, e, _⟩, _⟩ := F.vars; rw [fJ _ hj] at e; cases e
        · obtain ⟨c, ov, h1, ⟨o, e, _⟩, _⟩ := F.cells y hy
          rw [hc] at h1; cases h1; rw [fJ _ hj] at e; cases e
      split at e
      · rename_i xs1 ys1 hx hy
        obtain ⟨v1, n1, g1, q1, _⟩ := X.rel.lst hx
        obtain ⟨v2, n2, g2, q2, _⟩ := X.rel.lst hy
        have ll1 : h'.IsList (φ' id1) v1.toArray := ⟨_, g1, rfl, _, rfl⟩
        have ll2 : h'.IsList (φ' id2) v2.toArray := ⟨_, g2, rfl, _, rfl⟩
        split at e
        · rename_i a1 a2 ha1 ha2
          obtain ⟨⟨ρ2, σ2⟩, e2, e⟩ := obind e
          obtain ⟨⟨c, ρ3, σ3⟩, e3, e⟩ := obind e
          obtain ⟨u1, hu1, ru1⟩ := q1.get ha1
          obtain ⟨u2, hu2, ru2⟩ := q2.get ha2
          refine wpAny_pyNext_zip_item D q.iz q.ti hto' q.l1 q.l2 ll1 ll2 (by simpa using hu1) (by simpa using hu2) fun h₃ z₃ to₃ l1₃ l2₃ tp₃ sz₃ hk₃ => ?_
          dsimp only at h₃ z₃ tp₃ sz₃ hk₃ ⊢
          have raw1 : Raw [z, TO, i1, i2] h' h₃ := fun b o hb e => hk₃ b o (not4 hb).1 (not4 hb).2.1 (not4 hb).2.2.1 (not4 hb).2.2.2 e
          refine wpAny_letOwnedTupleGo_zip z₃ fun h₄ z₄ hs₄ => ?_
          have hs₄' : Heap.SameBut z h₃ h₄ := hs₄
          have raw2 : Raw [z, TO, i1, i2] h' h₄ := fun b o hb e => hs₄'.extBut b o (not4 hb).1 (raw1 b o hb e)
          have X4 := X.offF hfσ hJ fJ raw2
          have F4 := F1.offF hfρ hWJ raw2
          have hzs : h'.objs.size ≠ z := Nat.ne_of_gt (Heap.lt_size q.iz)
          have tp₄ : h₄.get? h'.objs.size = some (tupObj [u1, u2] 0) := hs₄'.extBut _ _ hzs tp₃
          have q1' : Rep g φ' σ1.length h₄ a1 u1 := by
            have hfo := List.all_eq_true.mp hfσ _ (List.mem_of_getElem? hx)
            exact ru1.flat (List.all_eq_true.mp hfo _ (List.mem_of_getElem? ha1))
          have q2' : Rep g φ' σ1.length h₄ a2 u2 := by
            have hfo := List.all_eq_true.mp hfσ _ (List.mem_of_getElem? hy)
            exact ru2.flat (List.all_eq_true.mp hfo _ (List.mem_of_getElem? ha2))
          have zk : ZipOK g φ' σ1.length h₄ z TI TO i1 i2 id1 id2 (i + 1) := by
            refine ⟨q.lt1, q.lt2, z₄, ?_, ⟨u1, u2, hs₄'.extBut _ _ q.zTO to₃⟩, l1₃.extBut hs₄'.extBut q.zi1, l2₃.extBut hs₄'.extBut q.zi2, q.zTI, q.zTO, q.zi1, q.zi2, q.tt, q.t1, q.t2, q.o1, q.o2, q.i12⟩
            exact hs₄'.extBut _ _ q.zTI (hk₃ TI _ q.zTI q.tt q.t1 q.t2 q.ti)
          refine h2 env A _ φ' ρ1 σ1 (.tup [a1, a2]) _ eo hA X4.rel F4 (.tup tp₄ (.cons q1' (.cons q2' .nil))) ρ2 σ2 e2 _ _ fun h₅ tk₅ φ₅ X₅ F₅ => ?_
          refine h3 env A _ φ₅ ρ2 σ2 eo hA X₅.rel F₅ c ρ3 σ3 e3 _ _ fun flc h₆ tk₆ φ₆ X₆ r₆ F₆ => ?_
          have X7 := (X₅.up F4.wk).trans X₆
          cases r₆ with
          | next => exact ⟨n, Nat.lt_succ_self n, h₆, tk₆, φ₆, ρ3, σ3, i + 1, rfl, X4.trans X7, F₆, zk.extW X7, e⟩
          | brk => cases e
          | cont => cases e
          | ret r => cases e
        · rename_i hno
          have hend : v1.toArray[i]? = none ∨ v2.toArray[i]? = none := by
            cases ea : xs1[i]? with
            | none => left; have := List.getElem?_eq_none_iff.mp ea; simp; rw [q1.length]; exact this
            | some a1 =>
              cases eb : ys1[i]? with
              | none => right; have := List.getElem?_eq_none_iff.mp eb; simp; rw [q2.length]; exact this
              | some a2 => exact absurd eb (hno a1 a2 ea)
          refine wpAny_pyNext_zip_end hA.hd D q.iz q.ti hto' q.l1 q.l2 ll1 ll2 hend fun h₃ hk₃ => ?_
          have raw1 : Raw [z, TO, i1, i2] h' h₃ := fun b o hb e => hk₃ b o (not4 hb).1 (not4 hb).2.1 (not4 hb).2.2.1 (not4 hb).2.2.2 e
          have X4 := X.offF hfσ hJ fJ raw1
          exact h4 env A _ φ' ρ1 σ1 eo hA X4.rel (F1.offF hfρ hWJ raw1) fl ρ' σ' e _ _ fun flc h₄ tk₄ φ₄ X₄ r₄ F₄ => h flc h₄ tk₄ φ₄ (X4.trans X₄) r₄ F₄
      · cases e
    · cases e
theorem sims_zip {x : Str} {p cp pos : Pos} {t : Expr} {args : List Expr} {b o : List Stmt} (fuel : Nat) {xs : List Str} {fs : EFs} {tf : AF} {bf ef : SF} (hk : nms.lookup x = some .globalImplicit) (hd : (x == ("__debug__" : Str)) = false) (hg : GlobIs g x (.type "zip"))
    (h1 : SimEs prog w g k nms nm args fs) (pl : Plain args) (h2 : SimA prog w g k nms nm xs t tf) (h3 : SimSs prog w g k nms nm b bf) (h4 : SimSs prog w g k nms nm o ef)
    (ht : isTup t = true) (hf : ∀ env x', foldedSetIterable (.Call (.Name x p) args [] cp) env x' = pure x') :
    SimS prog w g k nms nm (.For t (.Call (.Name x p) args [] cp) b o pos) (zipS fuel fs tf bf ef) := by
  intro env A s φ ρ σ eo hA R F fl ρ' σ' e Q E h
  obtain ⟨⟨as, σ0⟩, e0, e⟩ := obind e
  dsimp only at e
  split at e
  · rename_i id1 id2
    split at e
    · rename_i xs0 ys0 hx0 hy0
      refine wpAny_For (wp_callT hk hd hg h1 pl eo hA R F e0 fun vs h₁ tk₁ φ₁ X₁ r₁ => ?_) (hf env)
      cases r₁ with | cons r1 r2 =>
      cases r2 with | cons r2 r3 =>
      cases r3
      cases r1 with | ref _ hi1 =>
      cases r2 with | ref _ hi2 =>
      obtain ⟨it1, hl1, _⟩ := X₁.rel.isList hx0
      obtain ⟨it2, hl2, _⟩ := X₁.rel.isList hy0
      refine call_zip_2 hl1 hl2 fun h₂ hz hti hto l1 l2 hsz hk₂ => wpAny_pyIter_zip hz ?_
      have X₂ := Ext.grow X₁.rel hk₂
      have X := X₁.trans X₂
      have hn : ∀ j, h₁.objs.size ≤ j → s.heap.get? j = none := fun j hj => fresh_of_ext X₁ hj
      have q0 : ZipOK g φ₁ σ0.length h₂ (h₁.objs.size + 4) (h₁.objs.size + 2) (h₁.objs.size + 3) h₁.objs.size (h₁.objs.size + 1) id1 id2 0 :=
        ⟨hi1, hi2, hz, hti, ⟨_, _, hto⟩, l1, l2, addNe _ 2 4 (by decide), addNe _ 3 4 (by decide), addNe0 _ 4 (by decide), addNe _ 1 4 (by decide), addNe _ 2 3 (by decide), (addNe0 _ 2 (by decide)).symm, addNe _ 2 1 (by decide), (addNe0 _ 3 (by decide)).symm, addNe _ 3 1 (by decide), addNe0 _ 1 (by decide)⟩
      have f4 : ∀ j ∈ [h₁.objs.size + 4, h₁.objs.size + 3, h₁.objs.size, h₁.objs.size + 1], s.heap.get? j = none := all4 (hn _ (Nat.le_add_right _ _)) (hn _ (Nat.le_add_right _ _)) (hn _ (Nat.le_refl _)) (hn _ (Nat.le_add_right _ _))
      exact zip_loop (nms := nms) (nm := nm) fuel h2 h3 h4 ht eo hA R F X f4 (fun j hj => base_none R (f4 j hj)) q0 e h
    · cases e
  · cases e
end
end Mine
end
section
set_option maxRecDepth 100000
namespace Mine

/-! a call with one list of ints, in a state of its own -/
section
variable {prog : Program} {w : World} {g : Heap} {k : Nat}
/-- the heap without one object -/
noncomputable def without (h : Heap) (a : Addr) : Heap := h.update a fun o => { o with data := .freed }
theorem without_other {h : Heap} {a b : Addr} (hb : b ≠ a) : (without h a).get? b = h.get? b := Heap.get?_update_other _ _ (Ne.symm hb)
theorem without_self {h : Heap} {a : Addr} : (without h a).get? a = none := by
  unfold without
  cases h with
  | mk objs l =>
    simp only [Heap.update, Heap.get?, Array.getElem?_modify, if_true]
    cases objs[a]? <;> rfl
end
end Mine
end
section
set_option maxRecDepth 100000
namespace Mine

/-! contexts without a decoder under way -/
noncomputable def badIds : List String := ["bytearray.__contains__", "bytearray.__mod__", "bytearray.__rmod__", "_struct.pack_into.held", "bytearray.find.held"] ++ Builtin.Bytes.decodersThatHold
noncomputable def Bad (c : Code) : Bool := match c with
  | .builtin id _ => badIds.contains id
  | _ => false
noncomputable def CleanL (l : List (Code × Pos)) : Prop := ∀ x ∈ l, Bad x.1 = false
noncomputable def Clean (Γ : PySem.Ctx) : Prop := Bad Γ.code = false ∧ CleanL Γ.below
noncomputable def wpC {α : Type} (M : Model) (A : Around) (t : Sem α) (Q : α → Shared → Prop) (E : Value → Shared → Prop) (s : Shared) : Prop :=
  ∀ Γ p, Γ.In A → Clean Γ → Sem.wp M Γ t (fun a _ s' => Q a s') (fun e _ s' => E e s') p s
noncomputable def codeC (M : Model) (A : Around) (c : Code) (R : Result → Shared → Prop) (s : Shared) : Prop :=
  ∀ Γ p, Γ.code = c → Γ.Below A → CleanL Γ.below → wpCode M Γ R p s
section
variable {α β : Type} {M : Model} {A : Around} {E : Value → Shared → Prop} {s : Shared}
theorem wpC_of {t : Sem α} {Q : α → Shared → Prop} (h : wpAny M A t Q E s) : wpC M A t Q E s := fun Γ p hΓ _ => h Γ p hΓ
theorem wpC_bind {m : Sem α} {f : α → Sem β} {Q : β → Shared → Prop} (h : wpC M A m (fun a s' => wpC M A (f a) Q E s') E s) : wpC M A (m >>= f) Q E s := fun Γ p hΓ hC => by
  rw [Sem.wp_bind']
  exact Sem.wp_mono M Γ m (fun a p' s' h' => h' Γ p' hΓ hC) (fun _ _ _ h' => h') p s (h Γ p hΓ hC)
theorem wpC_mono {t : Sem α} {Q Q' : α → Shared → Prop} {E' : Value → Shared → Prop} (h : wpC M A t Q E s) (hQ : ∀ a s, Q a s → Q' a s) (hE : ∀ e s, E e s → E' e s) : wpC M A t Q' E' s :=
  fun Γ p hΓ hC => Sem.wp_mono M Γ t (fun a _ s => hQ a s) (fun e _ s => hE e s) p s (h Γ p hΓ hC)
theorem wpC_pure {a : α} {Q : α → Shared → Prop} (h : Q a s) : wpC M A (pure a) Q E s := fun _ _ _ _ => h
theorem wpC_holding {vs : List Value} {m : Sem α} {Q : α → Shared → Prop} (h : wpC M A m Q E s) : wpC M A (holding vs m) Q E s := fun Γ p hΓ hC => by rw [Sem.wp_holding]; exact h Γ p hΓ hC
theorem wpC_onRaise {m : Sem α} {k : Value → Sem Unit} {Q : α → Shared → Prop} (h : wpC M A m Q (fun e s' => wpC M A (k e) (fun _ s'' => E e s'') E s') s) : wpC M A (m.onRaise k) Q E s := fun Γ p hΓ hC => by
  rw [Sem.wp_onRaise]
  exact Sem.wp_mono M Γ m (fun _ _ _ h' => h') (fun e p' s' h' => h' Γ p' hΓ hC) p s (h Γ p hΓ hC)
/-- a step of the library ahead -/
theorem wpC_step {m : Sem α} {f : α → Sem β} {Q : β → Shared → Prop} (h : wpAny M A m (fun a s' => wpC M A (f a) Q E s') E s) : wpC M A (m >>= f) Q E s := wpC_bind (wpC_of h)
theorem wpC_ite {c : Prop} [Decidable c] {a b : Sem α} {Q : α → Shared → Prop} (h : if c then wpC M A a Q E s else wpC M A b Q E s) : wpC M A (if c then a else b) Q E s := by split <;> simp_all
theorem codeC_of_tree {c : Code} {R : Result → Shared → Prop} (hb : Bad c = false)
    (h : wpC M (A.under c) (M.den c) (fun fin s' => match fin with | .done f => R (.ok f) s' | .again c' => c'.quiet = true ∧ codeC M A c' R s') (fun e s' => R (.error e) s') s) : codeC M A c R s := fun Γ p hc hΓ hC => by
  rw [wpCode_iff_wp, hc]
  refine Sem.wp_mono M Γ _ (fun fin p' s' h' => ?_) (fun _ _ _ h' => h') p s (h Γ p (hc ▸ hΓ.in) ⟨by rw [hc]; exact hb, hC⟩)
  cases fin with
  | done f => exact h'
  | again c' => exact ⟨h'.1, h'.2 (Γ.goto c') p' rfl (hΓ.goto c') hC⟩
theorem Clean.enter {Γ : PySem.Ctx} (hC : Clean Γ) (c : Code) (h : Option Value) (p : Pos) : CleanL (Γ.enter c h p).below := fun x hx => by
  rcases List.mem_cons.mp hx with rfl | hx
  · exact hC.1
  · exact hC.2 x hx
theorem wpC_runValue {c : Code} {Q : Value → Shared → Prop}
    (hc : codeC M A c (fun r s' => match r with | .ok (.ret v) => Q v s' | .ok _ => False | .error e => E e s') s) : wpC M A (runValue c) Q E s := fun Γ p hΓ hC => by
  rw [Sem.wp_runValue]
  exact hc _ p rfl (hΓ.enter c none p (by intro x; cases x)) (hC.enter c none p)
theorem wpC_call {f : Value} {pos : List Value} {kw : List (Str × Value)} {Q : Value → Shared → Prop}
    (hc : codeC M A (.call f ⟨pos, kw⟩) (fun r s' => match r with | .ok (.ret v) => Q v s' | .ok _ => False | .error e => E e s') s) : wpC M A (call f pos kw) Q E s := wpC_runValue hc
theorem wpC_execs_cons {env : Env} {st : Stmt} {rest : List Stmt} {Q : Flow → Shared → Prop}
    (h : wpC M A (exec st env) (fun f s' => match f with | .next => wpC M A (execs rest env) Q E s' | f => Q f s') E s) : wpC M A (execs (st :: rest) env) Q E s := fun Γ p hΓ hC => by
  rw [execs_cons, Sem.wp_bind']
  refine Sem.wp_mono M Γ _ (fun f p' s' h' => ?_) (fun _ _ _ h' => h') _ _ (h Γ p hΓ hC)
  cases f <;> first | exact h' Γ p' hΓ hC | exact h'
end
section
variable {prog : Program} {w : World} {A : Around} {E : Value → Shared → Prop} {s : Shared}
theorem codeC_func {body : List Stmt} {env : Env} {R : Result → Shared → Prop}
    (h : wpC (model prog w) (A.deeper env) (execs body env) (fun f s' => R (.ok (.ret (match f with | .ret v => v | _ => .none))) s')
      (fun e s' => wpC (model prog w) (A.deeper env) (leaving env e) (fun _ s'' => R (.error e) s'') (fun e' s'' => R (.error e') s'') s') s) : codeC (model prog w) A (.func body env) R s := by
  refine codeC_of_tree rfl ?_
  show wpC _ (A.deeper env) (do point; match ← (execs body env).onRaise (leaving env) with | .ret v => ret v | _ => ret .none) _ _ s
  refine wpC_step (wpAny_point (wpC_bind (wpC_onRaise (wpC_mono h (fun f s' h' => ?_) fun _ _ h' => h'))))
  cases f <;> exact wpC_pure h'
theorem codeC_call_function {a : Addr} {args : Args} {o : Obj} {fd : FuncData} {body : List Stmt} {R : Result → Shared → Prop} (hroom : A.depth < recursionLimit)
    (ho : s.heap.get? a = some o)
    (hd' : o.data = .func fd) (hco : fd.scope.isCoroutine = false) (hgen : fd.scope.isGenerator = false) (hbody : fd.body = .stmts body) (hcd : s.heap.CodeRec fd.code fd.qualname)
    (h : wpAny (model prog w) A.in1 (bindArgs fd args) (fun binds s₁ =>
      wpAny (model prog w) A.in1 (newFunctionEnv fd.scope fd.globals fd.closure binds (fd.qualname ++ ".<locals>.") (some a) fd.code none fd.builtins)
        (fun env s₂ => s₂.heap.NoLimit ∧ codeC (model prog w) A (.func body env) R s₂) (fun e s' => R (.error e) s') s₁) (fun e s' => R (.error e) s') s) :
    codeC (model prog w) A (.call (.ref a) args) R s := by
  refine codeC_of_tree rfl (wpC_of ?_)
  show wpAny _ A.in1 (callAny (.ref a) args) _ _ s
  simp only [callAny]
  refine wpAny_bind (wpAny_load ho ?_)
  obtain ⟨c, oc, vs, tq, hc, hoc, hdc, hq⟩ := hcd
  simp only [hd', callFunction, hco, hgen, hbody, hc]
  rw [hc] at h
  refine wpAny_bind (m := field (.ref c) 1) (wpAny_field hoc hdc hq (wpAny_bind (wpAny_pure ?_)))
  exact wpAny_bind (wpAny_mono h (fun binds s₁ h₁ => wpAny_bind (wpAny_mono h₁ (fun env s₂ h₂ => wpAny_bind (wpAny_enterFrame h₂.1 hroom
    (wpAny_pure (And.intro rfl h₂.2)))) fun _ _ h' => h')) fun _ _ h' => h')
end

/-! statements, calls -/
section
variable {prog : Program} {w : World} {g : Heap} {k : Nat} {nms : List (Str × NameKind)} {nm : List Str}
variable (prog w g) in
noncomputable def RunsSC (nm : List Str) (env : Env) (A : Around) (s : Shared) (φ : Nat → Addr) (σ : St) (t : Sem Flow) (r : Option (Fl × Fm × St)) : Prop :=
  ∀ fl ρ' σ', r = some (fl, ρ', σ') → ∀ (Q : Flow → Shared → Prop) (E : Value → Shared → Prop),
    (∀ flc h' tk φ', ExtW g (envW env) φ σ s.heap φ' σ' h' → FlRep g φ' σ'.length h' fl flc → FrameOK g nm env φ' σ'.length h' ρ' → Q flc { s with heap := h', toks := tk }) → wpC (model prog w) A t Q E s
variable (prog w g) in
noncomputable def SimSC (k : Nat) (nms : List (Str × NameKind)) (nm : List Str) (st : Stmt) (f : SF) : Prop :=
  ∀ env A s φ ρ σ, EnvOK nms env → Rm A k → Rel g φ σ s.heap → FrameOK g nm env φ σ.length s.heap ρ → RunsSC prog w g nm env A s φ σ (exec st env) (f ρ σ)
variable (prog w g) in
noncomputable def SimSsC (k : Nat) (nms : List (Str × NameKind)) (nm : List Str) (sts : List Stmt) (f : SF) : Prop :=
  ∀ env A s φ ρ σ, EnvOK nms env → Rm A k → Rel g φ σ s.heap → FrameOK g nm env φ σ.length s.heap ρ → RunsSC prog w g nm env A s φ σ (execs sts env) (f ρ σ)
theorem SimS.toC {st : Stmt} {f : SF} (h : SimS prog w g k nms nm st f) : SimSC prog w g k nms nm st f :=
  fun env A s φ ρ σ eo hA R F fl ρ' σ' e Q E hq => wpC_of (h env A s φ ρ σ eo hA R F fl ρ' σ' e Q E hq)
theorem SimSs.toC {st : List Stmt} {f : SF} (h : SimSs prog w g k nms nm st f) : SimSsC prog w g k nms nm st f :=
  fun env A s φ ρ σ eo hA R F fl ρ' σ' e Q E hq => wpC_of (h env A s φ ρ σ eo hA R F fl ρ' σ' e Q E hq)
theorem simssC_cons {st : Stmt} {sts : List Stmt} {f fs : SF} (h1 : SimSC prog w g k nms nm st f) (h2 : SimSsC prog w g k nms nm sts fs) : SimSsC prog w g k nms nm (st :: sts) (seqS f fs) := by
  intro env A s φ ρ σ eo hA R F fl ρ' σ' e Q E h
  obtain ⟨⟨c, ρ1, σ1⟩, e1, e⟩ := obind e
  refine wpC_execs_cons (h1 env A s φ ρ σ eo hA R F c ρ1 σ1 e1 _ _ fun flc h₁ tk₁ φ₁ X₁ r₁ F₁ => ?_)
  cases r₁ with
  | next => exact h2 env A _ φ₁ ρ1 σ1 eo hA X₁.rel F₁ fl ρ' σ' e _ _ fun flc h₂ tk₂ φ₂ X₂ r₂ F₂ => h flc h₂ tk₂ φ₂ (X₁.trans X₂) r₂ F₂
  | brk => cases e; exact h _ h₁ tk₁ φ₁ X₁ .brk F₁
  | cont => cases e; exact h _ h₁ tk₁ φ₁ X₁ .cont F₁
  | ret r => cases e; exact h _ h₁ tk₁ φ₁ X₁ (.ret r) F₁
variable (prog w g k) in
noncomputable def PrimCC (f : Value) (op : CF) : Prop :=
  ∀ A s φ σ as vs, Rm A k → Rel g φ σ s.heap → Reps g φ σ.length s.heap as vs → ∀ av σ', op as σ = some (av, σ') → ∀ (Q E : Value → Shared → Prop),
    (∀ v h' tk φ', Ext g φ σ s.heap φ' σ' h' → Rep g φ' σ'.length h' av v → Q v { s with heap := h', toks := tk }) → wpC (model prog w) A (call f vs) Q E s
theorem PrimCC.up {k k' : Nat} {f : Value} {op : CF} (h : PrimCC prog w g k f op) (hk : k ≤ k') : PrimCC prog w g k' f op :=
  fun A s φ σ as vs hA R r => h A s φ σ as vs (hA.mono hk) R r
end
end Mine
end
section
set_option maxRecDepth 100000
namespace Mine
section
variable {prog : Program} {w : World} {g : Heap} {k : Nat} {nms : List (Str × NameKind)} {nm : List Str}

theorem wpC_keep {α : Type} {M : Model} {A : Around} {E : Value → Shared → Prop} {s : Shared} {vs : List Value} {m : Sem α} {Q : α → Shared → Prop} (h : wpC M A m Q E s) : wpC M A (m.keep vs) Q E s :=
  fun Γ p hΓ hC => by rw [Sem.wp_keep]; exact h Γ p hΓ hC
theorem callWithC_function {A s} {E : Value → Shared → Prop} {pos : Pos} {a : Addr} {o : Obj} {fd : FuncData} {first : List Value} {args : List (Bool × Sem Value)} {Q : Value → Shared → Prop}
    (h : wpAny (model prog w) A (evalArgs (.ref a) true args []) (fun x s₁ => (s₁.heap.get? a = some o ∧ o.data = .func fd) ∧ wpC (model prog w) A (call (.ref a) (first ++ x.pos) x.kw) Q E s₁) E s) :
    wpC (model prog w) A (callWith pos (.ref a) first args []) Q E s := by
  unfold callWith
  refine wpC_bind (wpC_of (wpAny_holding (wpAny_mono h (fun x s₁ h₁ => wpC_bind (wpC_of (wpAny_standAt ?_))) fun _ _ x => x)))
  have tail : ∀ {t : Sem Value}, wpC (model prog w) A t Q E s₁ → wpC (model prog w) A (t >>= fun r => holding [r] point >>= fun _ => pure r) Q E s₁ :=
    fun ht => wpC_bind (wpC_mono ht (fun r s₂ hr => wpC_bind (wpC_of (wpAny_holding (wpAny_point (wpC_pure hr))))) fun _ _ x => x)
  cases hs : args.any (·.1) <;> simp only [List.any_nil, Bool.or_false] <;>
    refine wpC_bind (m := keeperOf (.ref a)) (wpC_of ?_) <;> unfold keeperOf <;>
    refine wpAny_bind (wpAny_load h₁.1.1 ?_) <;> rw [h₁.1.2] <;> refine wpAny_pure ?_
  · first
      | refine wpC_ite ?_
      | skip
    split <;> first
      | exact tail h₁.2
      | exact tail (by unfold callMarked; exact wpC_keep h₁.2)
  · first
      | exact tail (by unfold callMarked; exact wpC_keep h₁.2)
      | exact tail h₁.2
theorem callWithC_type {A s} {E : Value → Shared → Prop} {pos : Pos} {T : String} {first : List Value} {args : List (Bool × Sem Value)} {Q : Value → Shared → Prop} (hplain : args.any (·.1) = false)
    (h : wpAny (model prog w) A (evalArgs (.type T) true args []) (fun a s₁ => wpC (model prog w) A (call (.type T) (first ++ a.pos) a.kw) Q E s₁) E s) :
    wpC (model prog w) A (callWith pos (.type T) first args []) Q E s := by
  unfold callWith
  refine wpC_bind (wpC_of (wpAny_holding (wpAny_mono h (fun a s₁ h₁ => wpC_bind (wpC_of (wpAny_standAt ?_))) fun _ _ x => x)))
  simp only [hplain, List.any_nil, Bool.or_false]
  refine wpC_bind (wpC_of (wpAny_pure ?_))
  exact wpC_bind (wpC_mono h₁ (fun r s₂ hr => wpC_bind (wpC_of (wpAny_holding (wpAny_point (wpC_pure hr))))) fun _ _ x => x)

/-- x = f(..), f a name of the globals -/
theorem simsC_assignF {x fnm : Str} {px fp cp ap : Pos} {a : Addr} {args : List Expr} {fs : EFs} {op : CF} {fd : FuncData} (i : Nat) (hk : nms.lookup fnm = some .globalImplicit) (hd : (fnm == ("__debug__" : Str)) = false) (hg : GlobIs g fnm (.ref a))
    (hf : ∃ o, g.get? a = some o ∧ o.data = .func fd) (h1 : SimEs prog w g k nms nm args fs) (pl : Plain args) (hp : PrimCC prog w g k (.ref a) op) (hx : nm[i]? = some x) (hkx : stKind nms x = true) (hnd : nm.Nodup)
    (hs : ∀ env, swapsWith (.Call (.Name fnm fp) args [] cp) (some (.Name x px)) ap.line env = pure false) : SimSC prog w g k nms nm (.Assign [.Name x px] (.Call (.Name fnm fp) args [] cp) ap) (asgS i (callE op fs)) := by
  intro env A s φ ρ σ eo hA R F fl ρ' σ' e Q E h
  obtain ⟨⟨av, σ2⟩, e1, e⟩ := obind e
  cases e
  obtain ⟨⟨as, σ1⟩, e1, e2⟩ := obind e1
  obtain ⟨o, ho, hdata⟩ := hf
  rw [PySem.exec_Assign_Name _ _ _ _ _ (hs env)]
  refine wpC_step (wpAny_standAt (wpC_bind ?_))
  rw [arm_eval_Call_Name']
  refine wpC_step (sim_glob (prog := prog) (w := w) (k := k) (nms := nms) (nm := nm) (pos := fp) (.ref a) hk hd hg env A s φ ρ σ eo hA R F _ _ rfl _ _ fun v h₁ tk₁ φ₁ X₁ r₁ => ?_)
  cases r₁
  refine callWithC_function (o := o) (fd := fd) ?_
  obtain ⟨e0, es, rfl, hst⟩ := pl.first
  have main := h1 env A { s with heap := h₁, toks := tk₁ } φ₁ ρ σ cp eo hA X₁.rel (F.ext X₁) as σ1 e1 (fun vs s₂ => (s₂.heap.get? a = some o ∧ o.data = .func fd) ∧ wpC (model prog w) A (call (.ref a) vs) (fun v s₃ => wpC (model prog w) A (do standAt px; bindName env x v; pure Flow.next) Q E s₃) E s₂) E
    fun vs h₂ tk₂ φ₂ X₂ r₂ => ⟨⟨X₂.rel.base _ _ ho, hdata⟩, hp A _ φ₂ σ1 as vs hA X₂.rel r₂ av _ e2 _ _ fun v h₃ tk₃ φ₃ X₃ r₃ => by
      have X := (X₁.trans X₂).trans X₃
      refine wpC_step (wpAny_standAt (wpC_step (wpAny_bindName ?_)))
      exact sim_store eo X₃.rel (F.ext X) r₃ hx hkx hnd (List.mem_singleton_self x) fun h₄ tk₄ X₄ F₄ => wpC_pure (h _ h₄ tk₄ φ₃ ((X.toW F.wk).trans (X₄.up (F.ext X).wk)) .next F₄)⟩
  rw [hst] at main ⊢
  exact evalArgs_plain main
/-- x = T(..), T a type -/
theorem simsC_assignT {x fnm : Str} {px fp cp ap : Pos} {T : String} {args : List Expr} {fs : EFs} {op : CF} (i : Nat) (hk : nms.lookup fnm = some .globalImplicit) (hd : (fnm == ("__debug__" : Str)) = false) (hg : GlobIs g fnm (.type T))
    (h1 : SimEs prog w g k nms nm args fs) (pl : Plain args) (hp : PrimCC prog w g k (.type T) op) (hx : nm[i]? = some x) (hkx : stKind nms x = true) (hnd : nm.Nodup)
    (hs : ∀ env, swapsWith (.Call (.Name fnm fp) args [] cp) (some (.Name x px)) ap.line env = pure false) : SimSC prog w g k nms nm (.Assign [.Name x px] (.Call (.Name fnm fp) args [] cp) ap) (asgS i (callE op fs)) := by
  intro env A s φ ρ σ eo hA R F fl ρ' σ' e Q E h
  obtain ⟨⟨av, σ2⟩, e1, e⟩ := obind e
  cases e
  obtain ⟨⟨as, σ1⟩, e1, e2⟩ := obind e1
  rw [PySem.exec_Assign_Name _ _ _ _ _ (hs env)]
  refine wpC_step (wpAny_standAt (wpC_bind ?_))
  rw [arm_eval_Call_Name']
  refine wpC_step (sim_glob (prog := prog) (w := w) (k := k) (nms := nms) (nm := nm) (pos := fp) (.type T) hk hd hg env A s φ ρ σ eo hA R F _ _ rfl _ _ fun v h₁ tk₁ φ₁ X₁ r₁ => ?_)
  cases r₁
  refine callWithC_type (pl.plain env cp) ?_
  obtain ⟨e0, es, rfl, hst⟩ := pl.first
  have main := h1 env A { s with heap := h₁, toks := tk₁ } φ₁ ρ σ cp eo hA X₁.rel (F.ext X₁) as σ1 e1 (fun vs s₂ => wpC (model prog w) A (call (.type T) vs) (fun v s₃ => wpC (model prog w) A (do standAt px; bindName env x v; pure Flow.next) Q E s₃) E s₂) E
    fun vs h₂ tk₂ φ₂ X₂ r₂ => hp A _ φ₂ σ1 as vs hA X₂.rel r₂ av _ e2 _ _ fun v h₃ tk₃ φ₃ X₃ r₃ => by
      have X := (X₁.trans X₂).trans X₃
      refine wpC_step (wpAny_standAt (wpC_step (wpAny_bindName ?_)))
      exact sim_store eo X₃.rel (F.ext X) r₃ hx hkx hnd (List.mem_singleton_self x) fun h₄ tk₄ X₄ F₄ => wpC_pure (h _ h₄ tk₄ φ₃ ((X.toW F.wk).trans (X₄.up (F.ext X).wk)) .next F₄)
  rw [hst] at main ⊢
  exact evalArgs_plain main

theorem run_fnC {A s φ σ} {a : Addr} {fd : FuncData} {body : List Stmt} {params locs : List Str} {vals : List Value} {args : Args} {as : List AV} {bf : SF} (fn : FnOK g a fd body nms params) (hb : BindsTo s fd args (params.zip vals))
    (hr : Reps g φ σ.length s.heap as vals) (hlen : as.length = params.length) (hnm : nm = params ++ locs) (hnd : nm.Nodup) (hs : SimSsC prog w g k nms nm body bf) (hA : Rm A (k + 1)) (R : Rel g φ σ s.heap) {nl : Nat} {av σ'} (e : callF nl bf as σ = some (av, σ')) {Rr : Result → Shared → Prop}
    (h : ∀ v h' tk φ', Ext g φ σ s.heap φ' σ' h' → Rep g φ' σ'.length h' av v → Rr (.ok (.ret v)) { s with heap := h', toks := tk }) :
    codeC (model prog w) A (.call (.ref a) args) Rr s := by
  obtain ⟨⟨c, ρ', σ2⟩, e1, e⟩ := obind e
  obtain ⟨o, ho, hdata⟩ := fn.ob
  have kd : ∀ x ∈ params, fd.scope.names.lookup x = some .local ∨ fd.scope.names.lookup x = some .cell := fun x hx => by
    have := fn.par x hx
    unfold stKind at this
    rw [Bool.or_eq_true, beq_iff_eq, beq_iff_eq] at this
    rw [fn.names]; exact this
  have hpn : params.Nodup := by rw [hnm] at hnd; exact (List.nodup_append.mp hnd).1
  refine codeC_call_function (by have := hA.dp; omega) (R.base _ _ ho) hdata fn.coro fn.gen fn.body (fn.code.keeps R.base) (hb _ _ _ _ ?_)
  rw [fn.clo]
  refine wpAny_newFunctionEnv_cells fn.kind (fun x hx => ?_) fun env he s' x => ?_
  · have hx1 := (List.of_mem_zip hx).1
    rcases kd _ hx1 with h1 | h1
    · exact .inl h1
    · exact .inr ⟨h1, cellsFrom_has _ _ _ (.inl (mem_of_lookup h1))⟩
  · subst he
    obtain ⟨h₁, tk₁, rfl⟩ := x.toInCall.same
    refine ⟨(fn.lim.keeps R.base).keeps x.toInCall.keep, codeC_func ?_⟩
    have X0 := Ext.grow (h' := h₁) R x.toInCall.keep
    generalize hL : s.heap.objs.size = L at x
    generalize henv : newEnv fd.scope L fd.globals (cellsFrom (L + 1) fd.scope.names []) (fd.qualname ++ ".<locals>.") (some a) fd.code none fd.builtins = env at x
    have eL : env.locals = L := by rw [← henv]; rfl
    have eC : env.cells = cellsFrom (L + 1) fd.scope.names [] := by rw [← henv]; rfl
    have eK : ∀ y, env.kindOf y = fd.scope.names.lookup y := fun y => by rw [← henv]; rfl
    have fresh : ∀ b, L ≤ b → s.heap.get? b = none := fun b hb => by
      cases e : s.heap.get? b with
      | none => rfl
      | some o' => exact absurd (Heap.lt_size e) (Nat.not_lt.mpr (by rw [hL]; exact hb))
    have hW : ∀ b, envW env b → s.heap.get? b = none := by
      rintro b (rfl | ⟨y, hy, hc⟩)
      · exact fresh _ (by rw [eL]; exact Nat.le_refl _)
      · exact fresh _ (Nat.le_of_lt (by have := x.above y b (mem_of_lookup hc); rwa [eL] at this))
    have eo : EnvOK nms env := by
      refine ⟨by rw [← henv]; exact fn.kind, by rw [← henv]; exact fn.names, by rw [← henv]; exact fn.glob, by rw [← henv]; exact fn.bi, fun y z c h1 h2 => ?_⟩
      exact name_of_addr x.apart (mem_of_lookup h1) (mem_of_lookup h2)
    obtain ⟨b1, b2⟩ := bind_lookup (kindOf := env.kindOf) params vals (fun _ => none) (fun _ => none) hpn fun y hy => by rw [eK]; exact kd y hy
    have F : FrameOK g nm env φ σ.length h₁ (as.map some ++ List.replicate nl none) := by
      refine ⟨⟨_, x.toInCall.ns, fun i av' hi => ?_⟩, fun y hy => ?_, base_none R (hW _ (.inl rfl))⟩
      · have hi' : as[i]? = some av' := by
          unfold Fm.get at hi
          rw [List.getD_eq_getElem?_getD] at hi
          by_cases hlt : i < as.length
          · rw [List.getElem?_append_left (by simpa using hlt), List.getElem?_map] at hi
            cases h9 : as[i]? with
            | none => rw [h9] at hi; cases hi
            | some q => rw [h9] at hi; exact congrArg some (by simpa using hi)
          · rw [List.getElem?_append_right (by simpa using Nat.not_lt.mp hlt), List.getElem?_replicate] at hi
            split at hi <;> cases hi
        obtain ⟨v, hv, hrep⟩ := hr.get hi'
        have hip : i < params.length := by rw [← hlen]; exact (List.getElem?_eq_some_iff.mp hi').1
        have hp : params[i]? = some params[i] := List.getElem?_eq_getElem hip
        refine ⟨params[i], by rw [hnm, List.getElem?_append_left hip]; exact hp, ?_⟩
        obtain ⟨c1, c2⟩ := b2 i _ v hp hv
        rcases kd params[i] (List.getElem_mem hip) with h1 | h1
        · exact .inl ⟨by rw [eK]; exact h1, v, c1 (by rw [eK]; exact h1), hrep.ext X0⟩
        · have hk : env.kindOf params[i] = some .cell := by rw [eK]; exact h1
          have := cellsFrom_has fd.scope.names (L + 1) [] (.inl (mem_of_lookup h1))
          rw [← eC] at this
          obtain ⟨cc, hcc⟩ := Option.isSome_iff_exists.mp this
          have h5 := x.cell _ _ hcc
          rw [c2 hk] at h5
          exact .inr ⟨hk, cc, v, hcc, h5, hrep.ext X0⟩
      · have hk := hy
        rw [eK] at hy
        have := cellsFrom_has fd.scope.names (L + 1) [] (.inl (mem_of_lookup hy))
        rw [← eC] at this
        obtain ⟨cc, hcc⟩ := Option.isSome_iff_exists.mp this
        exact ⟨cc, _, hcc, x.cell _ _ hcc, base_none R (hW _ (.inr ⟨y, hk, hcc⟩))⟩
    refine hs env (A.deeper env) { s with heap := h₁, toks := tk₁ } φ _ σ eo hA.deeper X0.rel F c ρ' σ2 e1 _ _ fun flc h₂ tk₂ φ₂ X₂ r₂ F₂ => ?_
    have wk : WD (envW env) s.heap := fun b o hw e => by rw [hW b hw] at e; cases e
    have X : Ext g φ σ s.heap φ₂ σ2 h₂ := ((X0.toW wk).trans X₂).old fun b o hw e => by rw [hW b hw] at e; cases e
    cases r₂ with
    | next => cases e; exact h _ h₂ tk₂ φ₂ X (.con _)
    | brk => cases e
    | cont => cases e
    | ret r => cases e; exact h _ h₂ tk₂ φ₂ X r
theorem prim_fnC {a : Addr} {fd : FuncData} {body : List Stmt} {params locs : List Str} {bf : SF} (n : Nat) (fn : FnOK g a fd body nms params) (hs : SimSsC prog w g k nms nm body bf) (hnm : nm = params ++ locs) (hnd : nm.Nodup) (nl : Nat)
    (hp : params.length = n) (hb : ∀ vs : List Value, vs.length = n → bindArgs fd ⟨vs, []⟩ = pure (params.zip vs)) : PrimCC prog w g (k + 1) (.ref a) (plainF n nl bf) := by
  intro A s φ σ as vs hA R hr av σ' e Q E h
  unfold plainF at e
  split at e
  · rename_i hl
    exact wpC_call (run_fnC (args := ⟨vs, []⟩) fn (.of_eq (hb vs (hr.length.trans hl))) hr (hl.trans hp.symm) hnm hnd hs hA R e h)
  · cases e
end
end Mine
end
section
set_option maxRecDepth 100000
namespace Mine

theorem ba_mro : mroOf (.type "bytearray") = pure [.type "bytearray", .type "object"] := by rw [mroOf_type]; kernel_rfl
theorem ba_lookup_new : typeLookup (.type "bytearray") "__new__" = pure (some (.builtin "bytearray.__new__")) := by rw [typeLookup_type, builtinLookup_eq_fast]; kernel_rfl
theorem ba_slot_init : Slot "bytearray" "__init__" "bytearray.__init__" :=
  .of (owner := "bytearray") (n := "__init__") (by rw [typeLookup_type, builtinLookup_eq_fast]; kernel_rfl) (by decide +kernel) (by decide +kernel) (by decide +kernel)
    (by first | exact .inl (by decide +kernel) | exact .inr (by decide +kernel)) (by rw [isSubtype_type]; kernel_rfl)
theorem ba_called : TypeCalled "bytearray" "bytearray.__new__" "bytearray.__init__" :=
  ⟨by decide +kernel, by decide +kernel, ⟨_, _, ba_mro⟩, madeBy_type ba_mro ba_lookup_new (by decide +kernel), by decide +kernel, ba_sub, ba_slot_init⟩
theorem ba_typeCall (a : Value) : checkTypeCall "bytearray" ⟨[a], []⟩ = pure () := by kernel_rfl
theorem ba_newCall (a : Value) : checkBuiltinCall "bytearray.__new__" ⟨[.type "bytearray", a], []⟩ = pure () := by kernel_rfl
theorem ba_plain_new : plainId "bytearray.__new__" = true := by decide +kernel
theorem ba_entry_new : entryFor table "bytearray.__new__" = some Builtin.«list.__new__» :=
  entryFor_alias (id' := "list.__new__") (by kernel_rfl) (by first | rfl | decide +kernel | (unfold String.splitOn; simp +decide [String.splitOnAux])) (by decide +kernel) (by kernel_rfl)
theorem ba_entry_init : entryFor table "bytearray.__init__" = some Builtin.«bytearray.__init__» := entryFor_of_tree (by kernel_rfl)
theorem ba_args_init (a b : Value) : argsOk "bytearray.__init__" ⟨[a, b], []⟩ := by unfold argsOk; kernel_rfl
set_option maxRecDepth 1000000 in
set_option maxHeartbeats 4000000 in
theorem owner_ba_new : ("bytearray.__new__".splitOn ".__new__").headD "" = "bytearray" := by simp +decide [String.splitOn, String.splitOnAux]
section
variable {prog : Program} {w : World} {g : Heap} {k : Nat}
theorem code_ba_new {A s} {E : Value → Shared → Prop} (a : Value) {Q₁ : Value → Shared → Prop}
    (h : Q₁ (.ref s.heap.objs.size) { s with heap := s.heap.push { cls := .type "bytearray", data := .bytearray #[] } }) :
    codeAny (model prog w) A (.call (.builtin "bytearray.__new__") ⟨[.type "bytearray", a], []⟩) (wants Q₁ E) s := by
  refine codeAny_of_tree ?_
  show wpAny _ A.in1 (do checkBuiltinCall "bytearray.__new__" ⟨[.type "bytearray", a], []⟩; again (.builtin "bytearray.__new__" ⟨[.type "bytearray", a], []⟩)) _ _ s
  refine wpAny_bind (wpAny_of_eq (ba_newCall a) (wpAny_pure ⟨plainId_quiet ba_plain_new _, codeAny_builtin_stack ba_entry_new rfl fun p st => ?_⟩))
  rw [Around.under_plainId ba_plain_new _]
  have hsub := ba_sub
  have hown := owner_ba_new
  obtain ⟨hp, g, d, tk, os⟩ := s
  simp only [hown]
  wp_walk
  exact h
theorem codeC_builtin {A s} {id : String} {args : Args} {b : Builtin} {R : Result → Shared → Prop} (hbad : badIds.contains id = false) (hb : entryFor table id = some b)
    (h : wpC (model prog w) (A.under (.builtin id args)) (b args)
      (fun fin s' => match fin with | .done f => R (.ok f) s' | .again c' => c'.quiet = true ∧ codeC (model prog w) A c' R s') (fun e s' => R (.error e) s') s) :
    codeC (model prog w) A (.builtin id args) R s := by
  refine codeC_of_tree hbad ?_
  show wpC _ _ (match entryFor table id with | some b => b args | none => unsupported ((withoutEnding? id "#data").getD id)) _ _ s
  rw [hb]; exact h
theorem ifC_false {α : Type} {M : Model} {A : Around} {E : Value → Shared → Prop} {s : Shared} {c : Bool} {x y : Sem α} {Q : α → Shared → Prop} (hc : c = false) (h : wpC M A y Q E s) : wpC M A (if c = true then x else y) Q E s := by
  rw [if_neg (by rw [hc]; decide)]; exact h
theorem ifC_true {α : Type} {M : Model} {A : Around} {E : Value → Shared → Prop} {s : Shared} {c : Bool} {x y : Sem α} {Q : α → Shared → Prop} (hc : c = true) (h : wpC M A x Q E s) : wpC M A (if c = true then x else y) Q E s := by
  rw [if_pos hc]; exact h
theorem exported_false {M : Model} {A : Around} {E : Value → Shared → Prop} {s : Shared} {v : Value} {Q : Bool → Shared → Prop} (h : Q false s) : wpC M A (Builtin.Bytes.exported v) Q E s := fun Γ p hΓ hC => by
  unfold Builtin.Bytes.exported
  rw [Sem.wp_bind']
  unfold PySem.stack
  rw [Sem.wp_stack]
  show Q (List.any _ _) s
  rw [List.any_eq_false.mpr]
  · exact h
  · intro x hx hb
    have hbad : Bad x.1 = false := by
      rcases List.mem_cons.mp hx with rfl | hx
      · exact hC.1
      · exact hC.2 x hx
    obtain ⟨c, q⟩ := x
    unfold Bad at hbad
    split at hb <;> simp_all [badIds]
theorem baI_bind (a : Value) : Builtin.Bytes.bindOptional "bytearray.__init__" "bytearray" ["source", "encoding", "errors"] [a] [] = pure [some a, none, none] := by rfl

theorem ba_write {A s} {a : Addr} {b : List Nat} {f : Array UInt8 → Array UInt8} {b' : List Nat} {E : Value → Shared → Prop} {Q : Unit → Shared → Prop} (ha : s.heap.get? a = some (barObj b)) (hf : f (bytesArr b) = bytesArr b') (hz : b'.length ≤ 65536)
    (h : ∀ h', h'.get? a = some (barObj b') → (∀ c o, c ≠ a → s.heap.get? c = some o → h'.get? c = some o) → Q () { s with heap := h' }) : wpAny (model prog w) A (Builtin.Bytes.write (.ref a) f) Q E s := by
  show wpAny (model prog w) A (updateBytearray a f) Q E s
  unfold updateBytearray
  refine wpAny_bind (wpAny_load ha ?_)
  show wpAny _ _ (update a (Obj.mapBytearray f) >>= fun _ => lookBehind a) _ _ _
  refine wpAny_bind (wpAny_update ha ?_)
  have hS := Heap.get?_update_self (Obj.mapBytearray f) ha rfl
  have e9 : Obj.mapBytearray f (barObj b) = barObj b' := by
    show ({ cls := .type "bytearray", data := .bytearray (f (bytesArr b)) 0 } : Obj) = _
    rw [hf]
  rw [e9] at hS
  refine wpAny_lookBehind hS ?_ (h _ hS fun c o hc e => (Heap.SameBut.update ..).extBut c o hc e)
  show (if (bytesArr b').size > sizeLine then some "bytearray:memory" else none) = none
  rw [if_neg]
  have hz' : (bytesArr b').size = b'.length := by unfold bytesArr; simp
  have := szl hz
  omega
theorem ba_own {A s} {E : Value → Shared → Prop} {a : Addr} {Q : Bool → Shared → Prop} (hT : s.TypeIs (.ref a) "bytearray") (h : Q false s) : wpAny (model prog w) A (Builtin.Bytes.ownRelease (.ref a)) Q E s := by
  unfold Builtin.Bytes.ownRelease Builtin.Bytes.slotIsOwn
  refine wpAny_bind (wpAny_bind (wpAny_specialOf hT ba_release ?_))
  refine wpAny_ite ?_
  rw [if_neg (by decide +kernel)]
  have inst : ∀ {Q'' : Bool → Shared → Prop} {E''} , Q'' true s → ∀ T : String, T = "bytearray" → wpAny (model prog w) A (isInstance (.ref a) (.type T)) Q'' E'' s := by
    intro Q'' E'' hq T hT'
    subst hT'
    exact wpAny_isInstance hT ba_sub hq
  refine inst ?_ _ (by decide +kernel)
  exact wpAny_pure h
theorem codeC_call_builtin {A s} {id : String} {args : Args} {b : Builtin} {R : Result → Shared → Prop} (hq : plainId id = true) (hbad : badIds.contains id = false) (hb : entryFor table id = some b)
    (h : wpAny (model prog w) A.in1 (checkBuiltinCall id args) (fun _ s₁ => wpC (model prog w) A.in1 (b args)
      (fun fin s' => match fin with | .done f => R (.ok f) s' | .again c' => c'.quiet = true ∧ codeC (model prog w) A c' R s') (fun e s' => R (.error e) s') s₁)
      (fun e s' => R (.error e) s') s) : codeC (model prog w) A (.call (.builtin id) args) R s := by
  refine codeC_of_tree rfl ?_
  show wpC _ A.in1 (do checkBuiltinCall id args; again (.builtin id args)) _ _ s
  refine wpC_step (wpAny_mono h (fun _ s₁ h₁ => wpC_pure (And.intro (plainId_quiet hq args) (codeC_builtin hbad hb ?_))) fun _ _ h' => h')
  rw [Around.under_plainId hq args]
  exact h₁
theorem ba_call {A s} {E : Value → Shared → Prop} {n : Int} {t : Tok} {Q : Value → Shared → Prop} (h0 : 0 ≤ n) (h1 : n ≤ 65536)
    (h : ∀ h', h'.get? s.heap.objs.size = some (barObj (List.replicate n.toNat 0)) → (∀ b o, s.heap.get? b = some o → h'.get? b = some o) → Q (.ref s.heap.objs.size) { s with heap := h' }) : wpC (model prog w) A (call (.type "bytearray") [.int n t]) Q E s := by
  refine wpC_call (codeC_of_tree rfl ?_)
  show wpC _ _ (callAny (.type "bytearray") _) _ _ _
  refine wpC_pure ⟨Code.quiet_builtin _ (by decide +kernel), codeC_builtin (by decide +kernel) PySem.F.entry_type_call ?_⟩
  rw [Around.under_plain (weight_type_call_type "bytearray" _ []) rfl]
  unfold Builtin.«type.__call__»
  refine ifC_false (by decide) ?_
  refine ifC_false ba_called.canCreate ?_
  refine wpC_step (wpAny_of_eq (ba_typeCall _) ?_)
  refine wpC_step (wpAny_of_eq ba_mro ?_)
  refine ifC_false (by decide) ?_
  refine wpC_step (wpAny_of_eq ba_called.made ?_)
  refine wpC_step (wpAny_pure ?_)
  refine wpC_step (wpAny_holding (wpAny_call (code_ba_new _ ?_)))
  have hA : ({ s with heap := s.heap.push { cls := .type "bytearray", data := .bytearray #[] } } : Shared).heap.get? s.heap.objs.size = some (barObj []) := Heap.get?_push_size _ rfl
  have hT : ({ s with heap := s.heap.push { cls := .type "bytearray", data := .bytearray #[] } } : Shared).TypeIs (.ref s.heap.objs.size) "bytearray" := typ_ba hA
  have keep0 : ∀ b o, s.heap.get? b = some o → (s.heap.push { cls := .type "bytearray", data := .bytearray #[] }).get? b = some o := fun b o e => Heap.get?_push_of_some _ e
  generalize s.heap.push { cls := .type "bytearray", data := .bytearray #[] } = h₁ at hA hT keep0 ⊢
  have hlt : ∀ b o, s.heap.get? b = some o → b ≠ s.heap.objs.size := fun b o e => Nat.ne_of_lt (Heap.lt_size e)
  generalize s.heap.objs.size = a at hA hT hlt h ⊢
  refine wpC_step (wpAny_isInstance hT ba_sub ?_)
  refine ifC_false rfl ?_
  refine wpC_bind (wpC_holding ?_)
  unfold callSpecial?
  refine wpC_step (wpAny_specialOf hT ba_called.init.lookup ?_)
  show wpC _ _ (holding _ (bindSpecial (.builtin "bytearray.__init__") (.ref a) >>= _)) _ _ _
  rw [ba_called.init.bind]
  refine wpC_holding (wpC_step (wpAny_pure ?_))
  show wpC _ _ (call (.builtin "bytearray.__init__") [.ref a, .int n t] [] >>= _) _ _ _
  refine wpC_bind (wpC_call (codeC_call_builtin ba_called.init.plain (by decide +kernel) ba_entry_init (ba_called.init.check _ _ _ _ _ _ _ _ hT (ba_args_init _ _) ?_)))
  unfold Builtin.«bytearray.__init__»
  refine wpC_step (ba_own hT ?_)
  refine ifC_false rfl ?_
  refine wpC_step (wpAny_of_eq (baI_bind _) ?_)
  refine wpC_step (wpAny_of_eq (a := ()) rfl ?_)
  refine wpC_step (wpAny_of_eq (a := ()) rfl ?_)
  refine wpC_bind (wpC_bind (exported_false ?_))
  refine wpC_step (wpAny_bind (wpAny_load hA (wpAny_pure (wpC_pure ?_))))
  refine ifC_false rfl ?_
  refine wpC_step (ba_write (b' := []) hA rfl (by decide) fun h₂ hA₂ keep2 => ?_)
  refine wpC_step (wpAny_of_eq (a := none) rfl ?_)
  refine ifC_false rfl ?_
  refine wpC_step (wpAny_of_eq (a := ()) rfl ?_)
  refine wpC_step (wpAny_specialOf (typeIs_int _ n t) PySem.F.slot_int_index.lookup ?_)
  refine ifC_true rfl ?_
  refine wpC_step (wpAny_attempt (wpAny_of_eq (rfl : asIndex (.int n t) = pure n) ?_))
  have hf : Builtin.Bytes.fitsIndex n = true := by simp only [Builtin.Bytes.fitsIndex, Bool.and_eq_true, decide_eq_true_eq]; omega
  refine ifC_false (by rw [hf]; rfl) ?_
  refine wpC_ite ?_
  rw [if_neg (by omega)]
  refine ifC_false (by simp; omega) ?_
  refine ifC_false (by
    have := szl (n := n.toNat) (by omega)
    first
      | (unfold Builtin.Bytes.tooLong; simp; omega)
      | (unfold Builtin.tooLong; simp; omega)
      | (unfold Builtin.Str.tooLong; simp; omega)) ?_
  refine wpC_step (wpAny_rule ?_)
  have fin : ∀ h₃, h₃.get? a = some (barObj (List.replicate n.toNat 0)) → (∀ c o, c ≠ a → h₂.get? c = some o → h₃.get? c = some o) → Q (.ref a) { s with heap := h₃ } := fun h₃ hA₃ keep3 =>
    h h₃ hA₃ fun b o e => keep3 b o (hlt b o e) (keep2 b o (hlt b o e) (keep0 b o e))
  refine wpC_ite ?_
  by_cases hn : 0 < n
  · rw [if_pos hn]
    refine wpC_step (ba_write (b' := List.replicate n.toNat 0) hA₂ ?_ (by simp; omega) fun h₃ hA₃ keep3 => ?_)
    · unfold bytesArr
      simp
    · exact wpC_pure (wpC_pure (ifC_false (by decide) (wpC_pure (fin h₃ hA₃ keep3))))
  · rw [if_neg hn]
    have e0 : n.toNat = 0 := by omega
    exact wpC_pure (wpC_pure (ifC_false (by decide) (wpC_pure (fin h₂ (by rw [e0]; exact hA₂) (fun _ _ _ e => e)))))
noncomputable def baO : CF := fun as σ => match as with
  | [.int n] => if 0 ≤ n ∧ n ≤ 65536 then some (.ref σ.length, σ ++ [.barr (List.replicate n.toNat 0)]) else none
  | _ => none
theorem prim_ba : PrimCC prog w g k (.type "bytearray") baO := by
  intro A s φ σ as vs hA R r av σ' e Q E h
  unfold baO at e
  split at e
  · rename_i n
    split at e
    · rename_i hc
      cases e
      cases r with | cons r1 r2 =>
      cases r2
      cases r1
      refine ba_call hc.1 hc.2 fun h' hA' keep => ?_
      have X := Ext.made (ao := .barr (List.replicate n.toNat 0)) R keep ?_ hA' (.barr fun y hy => by rw [List.eq_of_mem_replicate hy]; decide)
      · have rr := Rep.ref (g := g) (φ := φput φ σ.length s.heap.objs.size) (n := (σ ++ [AO.barr (List.replicate n.toNat 0)]).length) (h := h') σ.length (by simp)
        rw [φput_new] at rr
        exact h _ h' s.toks _ X rr
      · cases e : s.heap.get? s.heap.objs.size with
        | none => rfl
        | some o => exact absurd (Heap.lt_size e) (Nat.lt_irrefl _)
    · cases e
  · cases e
end
end Mine
end
section
set_option maxRecDepth 100000
namespace Mine

/-! a call in a state of its own: the objects that its arguments reach, and no others; of what it makes the objects that its result reaches -/
mutual
noncomputable def renV (f : Nat → Nat) : AV → AV
  | .ref i => .ref (f i)
  | .tup vs => .tup (renVs f vs)
  | a => a
noncomputable def renVs (f : Nat → Nat) : List AV → List AV
  | [] => []
  | a :: as => renV f a :: renVs f as
end
mutual
noncomputable def okV (p : Nat → Bool) : AV → Bool
  | .ref i => p i
  | .tup vs => okVs p vs
  | .blist _ => false
  | _ => true
noncomputable def okVs (p : Nat → Bool) : List AV → Bool
  | [] => true
  | a :: as => okV p a && okVs p as
end
mutual
noncomputable def refsV : AV → List Nat
  | .ref i => [i]
  | .tup vs => refsVs vs
  | _ => []
noncomputable def refsVs : List AV → List Nat
  | [] => []
  | a :: as => refsV a ++ refsVs as
end
noncomputable def renO (f : Nat → Nat) : AO → AO
  | .list xs => .list (renVs f xs)
  | .barr b => .barr b
noncomputable def okO (p : Nat → Bool) : AO → Bool
  | .list xs => okVs p xs
  | .barr _ => true
noncomputable def refsO : AO → List Nat
  | .list xs => refsVs xs
  | .barr _ => []
noncomputable def atO (σ : St) (i : Nat) : AO := (σ[i]?).getD (.barr [])
noncomputable def addNew : List Nat → List Nat → List Nat
  | K, [] => K
  | K, i :: is => addNew (if K.contains i then K else K ++ [i]) is
/-- the objects that these reach: themselves, and those that they hold -/
noncomputable def reach (σ : St) (is : List Nat) : List Nat :=
  let K := addNew [] is
  addNew K (K.flatMap fun i => refsO (atO σ i))
noncomputable def frameG (op : CF) : CF := fun as σ =>
  let ids := reach σ (refsVs as)
  if ids.Nodup ∧ (ids.all fun i => decide (i < σ.length)) = true ∧ okVs ids.contains as = true ∧ (ids.all fun i => okO ids.contains (atO σ i)) = true then
    (op (renVs (fun i => ids.idxOf i) as) (ids.map fun i => renO (fun i => ids.idxOf i) (atO σ i))).bind fun q =>
      let m := ids.length
      let K := (reach q.2 (refsV q.1)).filter fun j => decide (m ≤ j)
      let p := fun j => decide (j < m) || K.contains j
      let b := fun j => if j < m then ids.getD j 0 else σ.length + K.idxOf j
      if K.Nodup ∧ (K.all fun j => decide (m ≤ j) && decide (j < q.2.length)) = true ∧ okV p q.1 = true ∧ ((List.range m).all fun k => okO p (atO q.2 k)) = true ∧ (K.all fun j => okO p (atO q.2 j)) = true then
        some (renV b q.1, (List.range σ.length).map (fun i => if ids.contains i = true then renO b (atO q.2 (ids.idxOf i)) else atO σ i) ++ K.map fun j => renO b (atO q.2 j))
      else none
  else none

mutual
theorem Rep.ren {g g' φ φ' n n' h} {f : Nat → Nat} {p : Nat → Bool} (hf : ∀ i, p i = true → f i < n' ∧ φ' (f i) = φ i) : ∀ {a v}, Rep g φ n h a v → okV p a = true → Rep g' φ' n' h (renV f a) v
  | _, _, .con v, _ => .con v
  | _, _, .bool b, _ => .bool b
  | _, _, .int i t, _ => .int i t
  | _, _, .str s t, _ => .str s t
  | _, _, .bytes b t hb, _ => .bytes b t hb
  | _, _, .tup e hr, h => .tup e (Reps.ren hf hr h)
  | _, _, .blist e hr, h => by cases h
  | _, _, .ref id hid, hq => by
    obtain ⟨h1, h2⟩ := hf id hq
    have := Rep.ref (g := g') (φ := φ') (n := n') (h := h) (f id) h1
    rw [h2] at this
    exact this
theorem Reps.ren {g g' φ φ' n n' h} {f : Nat → Nat} {p : Nat → Bool} (hf : ∀ i, p i = true → f i < n' ∧ φ' (f i) = φ i) : ∀ {as vs}, Reps g φ n h as vs → okVs p as = true → Reps g' φ' n' h (renVs f as) vs
  | _, _, .nil, _ => .nil
  | _, _, .cons a b, h => by
    rw [okVs, Bool.and_eq_true] at h
    exact .cons (Rep.ren hf a h.1) (Reps.ren hf b h.2)
end
theorem ORep.ren {g g' φ φ' n n' h} {f : Nat → Nat} {p : Nat → Bool} (hf : ∀ i, p i = true → f i < n' ∧ φ' (f i) = φ i) {a o} (x : ORep g φ n h a o) (hp : okO p a = true) : ORep g' φ' n' h (renO f a) o := by
  cases x with
  | list hr => exact .list (Reps.ren hf hr hp)
  | barr hb => exact .barr hb

noncomputable def withouts (h : Heap) : List Addr → Heap
  | [] => h
  | a :: as => without (withouts h as) a
theorem withouts_other {h : Heap} {b : Addr} : ∀ {as : List Addr}, b ∉ as → (withouts h as).get? b = h.get? b
  | [], _ => rfl
  | a :: as, hb => by
    rw [withouts, without_other (fun e => hb (by rw [e]; exact List.mem_cons_self ..))]
    exact withouts_other fun h => hb (List.mem_cons_of_mem _ h)
theorem withouts_self {h : Heap} {b : Addr} : ∀ {as : List Addr}, b ∈ as → (withouts h as).get? b = none
  | a :: as, hb => by
    by_cases e : b = a
    · rw [e, withouts, without_self]
    · rw [withouts, without_other e]
      exact withouts_self ((List.mem_cons.mp hb).resolve_left e)
theorem atO_eq {σ : St} {i : Nat} {o : AO} (h : σ[i]? = some o) : atO σ i = o := by unfold atO; rw [h]; rfl
theorem atO_get {σ : St} {i : Nat} (h : i < σ.length) : σ[i]? = some (atO σ i) := by unfold atO; rw [List.getElem?_eq_getElem h]; rfl
theorem idx_get {ids : List Nat} {i : Nat} (h : i ∈ ids) : ids[ids.idxOf i]? = some i := by
  have hl := List.idxOf_lt_length_of_mem h
  rw [List.getElem?_eq_getElem hl, List.getElem_idxOf hl]
/-- what a frame's answer says -/
structure Framed (op : CF) (as : List AV) (σ : St) (av : AV) (σ' : St) (ids K : List Nat) (r : AV) (σ1 : St) : Prop where
  nd : ids.Nodup
  lt : ∀ i ∈ ids, i < σ.length
  ok : okVs ids.contains as = true
  oks : ∀ i ∈ ids, okO ids.contains (atO σ i) = true
  run : op (renVs (fun i => ids.idxOf i) as) (ids.map fun i => renO (fun i => ids.idxOf i) (atO σ i)) = some (r, σ1)
  knd : K.Nodup
  klt : ∀ j ∈ K, ids.length ≤ j ∧ j < σ1.length
  okr : okV (fun j => decide (j < ids.length) || K.contains j) r = true
  ok1 : ∀ k, k < ids.length → okO (fun j => decide (j < ids.length) || K.contains j) (atO σ1 k) = true
  okk : ∀ j ∈ K, okO (fun j => decide (j < ids.length) || K.contains j) (atO σ1 j) = true
  av : av = renV (fun j => if j < ids.length then ids.getD j 0 else σ.length + K.idxOf j) r
  st : σ' = (List.range σ.length).map (fun i => if ids.contains i = true then renO (fun j => if j < ids.length then ids.getD j 0 else σ.length + K.idxOf j) (atO σ1 (ids.idxOf i)) else atO σ i) ++ K.map fun j => renO (fun j => if j < ids.length then ids.getD j 0 else σ.length + K.idxOf j) (atO σ1 j)
theorem framed_of {op : CF} {as σ av σ'} (e : frameG op as σ = some (av, σ')) : ∃ ids K r σ1, Framed op as σ av σ' ids K r σ1 := by
  unfold frameG at e
  dsimp only at e
  split at e
  · rename_i hc
    obtain ⟨h1, h2, h3, h4⟩ := hc
    obtain ⟨⟨r, σ1⟩, e1, e⟩ := obind e
    dsimp only at e
    split at e
    · rename_i hk
      obtain ⟨k1, k2, k3, k4, k5⟩ := hk
      cases e
      refine ⟨_, _, r, σ1, h1, fun i hi => of_decide_eq_true (List.all_eq_true.mp h2 i hi), h3, fun i hi => List.all_eq_true.mp h4 i hi, e1, k1, fun j hj => ?_, k3, fun k hk => List.all_eq_true.mp k4 k (List.mem_range.mpr hk), fun j hj => List.all_eq_true.mp k5 j hj, rfl, rfl⟩
      have := List.all_eq_true.mp k2 j hj
      rw [Bool.and_eq_true] at this
      exact ⟨of_decide_eq_true this.1, of_decide_eq_true this.2⟩
    · cases e
  · cases e

section
variable {prog : Program} {w : World} {g : Heap} {k : Nat}
theorem Framed.small {op as σ av σ' ids K r σ1} (x : Framed op as σ av σ' ids K r σ1) {φ h} (R : Rel g φ σ h) :
    Rel (withouts h (ids.map φ)) (fun k => φ (ids.getD k 0)) (ids.map fun i => renO (fun i => ids.idxOf i) (atO σ i)) h ∧ (∀ b o, g.get? b = some o → (withouts h (ids.map φ)).get? b = some o) ∧
      ∀ i, ids.contains i = true → ids.idxOf i < (ids.map fun i => renO (fun i => ids.idxOf i) (atO σ i)).length ∧ φ (ids.getD (ids.idxOf i) 0) = φ i := by
  have hf : ∀ i, ids.contains i = true → ids.idxOf i < (ids.map fun i => renO (fun i => ids.idxOf i) (atO σ i)).length ∧ φ (ids.getD (ids.idxOf i) 0) = φ i := fun i hi => by
    have hm : i ∈ ids := List.contains_iff_mem.mp hi
    refine ⟨by rw [List.length_map]; exact List.idxOf_lt_length_of_mem hm, ?_⟩
    rw [List.getD_eq_getElem?_getD, idx_get hm]; rfl
  refine ⟨⟨fun k o e => ?_, fun i j hi hj e => ?_, fun b o e => ?_, fun k hk => ?_⟩, fun b o e => ?_, hf⟩
  · rw [List.getElem?_map] at e
    cases hi : ids[k]? with
    | none => rw [hi] at e; cases e
    | some i =>
      rw [hi] at e
      cases e
      have hm : i ∈ ids := List.mem_of_getElem? hi
      have e0 : ids.getD k 0 = i := by rw [List.getD_eq_getElem?_getD, hi]; rfl
      obtain ⟨ob, h1, h2⟩ := R.objs i _ (atO_get (x.lt i hm))
      rw [e0]
      exact ⟨ob, h1, h2.ren hf (x.oks i hm)⟩
  · rw [List.length_map] at hi hj
    have gi : ids.getD i 0 = ids[i] := by rw [List.getD_eq_getElem?_getD, List.getElem?_eq_getElem hi]; rfl
    have gj : ids.getD j 0 = ids[j] := by rw [List.getD_eq_getElem?_getD, List.getElem?_eq_getElem hj]; rfl
    rw [gi, gj] at e
    have e2 := R.inj _ _ (x.lt _ (List.getElem_mem hi)) (x.lt _ (List.getElem_mem hj)) e
    exact (List.getElem?_inj hi x.nd).mp (by rw [List.getElem?_eq_getElem hi, List.getElem?_eq_getElem hj, e2])
  · by_cases hb : b ∈ ids.map φ
    · rw [withouts_self hb] at e; cases e
    · rw [withouts_other hb] at e; exact e
  · rw [List.length_map] at hk
    refine withouts_self (List.mem_map.mpr ⟨ids.getD k 0, ?_, rfl⟩)
    rw [List.getD_eq_getElem?_getD, List.getElem?_eq_getElem hk]
    exact List.getElem_mem hk
  · rw [withouts_other]
    · exact R.base b o e
    · intro hb
      obtain ⟨i, hi, rfl⟩ := List.mem_map.mp hb
      rw [R.fresh i (x.lt i hi)] at e; cases e
theorem Framed.back {op as σ av σ' ids K r σ1} (x : Framed op as σ av σ' ids K r σ1) {φ h φ1 h'} (R : Rel g φ σ h)
    (X : Ext (withouts h (ids.map φ)) (fun k => φ (ids.getD k 0)) (ids.map fun i => renO (fun i => ids.idxOf i) (atO σ i)) h φ1 σ1 h') {v} (rv : Rep (withouts h (ids.map φ)) φ1 σ1.length h' r v) :
    ∃ φ', Ext g φ σ h φ' σ' h' ∧ Rep g φ' σ'.length h' av v := by
  have hlen : σ'.length = σ.length + K.length := by rw [x.st, List.length_append, List.length_map, List.length_map, List.length_range]
  have hgid : ∀ k, k < ids.length → ids.getD k 0 ∈ ids := fun k hk => by
    rw [List.getD_eq_getElem?_getD, List.getElem?_eq_getElem hk]; exact List.getElem_mem hk
  have le0 : ids.length ≤ σ1.length := by have := X.le; rwa [List.length_map] at this
  have agr : ∀ k, k < ids.length → φ1 k = φ (ids.getD k 0) := fun k hk => X.agree k (by rw [List.length_map]; exact hk)
  have newK : ∀ j ∈ K, h.get? (φ1 j) = none := fun j hj => X.new j (by rw [List.length_map]; exact (x.klt j hj).1) (x.klt j hj).2
  have oldφ : ∀ i, i < σ.length → ∃ ob, h.get? (φ i) = some ob := fun i hi => let ⟨ob, e, _⟩ := R.objs i _ (List.getElem?_eq_getElem hi); ⟨ob, e⟩
  refine ⟨fun i => if i < σ.length then φ i else φ1 (K.getD (i - σ.length) 0), ?_⟩
  have lo : ∀ i, i < σ.length → (if i < σ.length then φ i else φ1 (K.getD (i - σ.length) 0)) = φ i := fun i hi => if_pos hi
  have hi' : ∀ t, (if σ.length + t < σ.length then φ (σ.length + t) else φ1 (K.getD (σ.length + t - σ.length) 0)) = φ1 (K.getD t 0) := fun t => by
    rw [if_neg (by omega), Nat.add_sub_cancel_left]
  have hb : ∀ j, (decide (j < ids.length) || K.contains j) = true → (if j < ids.length then ids.getD j 0 else σ.length + K.idxOf j) < σ'.length ∧
      (fun i => if i < σ.length then φ i else φ1 (K.getD (i - σ.length) 0)) (if j < ids.length then ids.getD j 0 else σ.length + K.idxOf j) = φ1 j := fun j hj => by
    dsimp only
    by_cases hj1 : j < ids.length
    · rw [if_pos hj1]
      have := x.lt _ (hgid j hj1)
      exact ⟨by omega, by rw [lo _ this, agr j hj1]⟩
    · rw [if_neg hj1]
      have hm : j ∈ K := by
        rw [Bool.or_eq_true] at hj
        exact List.contains_iff_mem.mp (hj.resolve_left fun h => hj1 (of_decide_eq_true h))
      have hl := List.idxOf_lt_length_of_mem hm
      refine ⟨by omega, ?_⟩
      rw [hi', List.getD_eq_getElem?_getD, idx_get hm]; rfl
  have tupk : ∀ {b items kk}, h.get? b = some (tupObj items kk) → h'.get? b = some (tupObj items kk) := fun {b items kk} e => by
    refine X.rel.base b _ ?_
    rw [withouts_other]
    · exact e
    · intro hbm
      obtain ⟨i, hi, rfl⟩ := List.mem_map.mp hbm
      exact R.apart e (not_mut_tup _ _) i (x.lt i hi) rfl
  have Rl : Rel g (fun i => if i < σ.length then φ i else φ1 (K.getD (i - σ.length) 0)) σ' h' := by
    refine ⟨fun i o e => ?_, fun i j hi hj e => ?_, fun b o e => ?_, fun i hi => ?_⟩
    · skip
      rw [x.st] at e
      by_cases hi : i < σ.length
      · rw [List.getElem?_append_left (by simpa using hi), List.getElem?_map, List.getElem?_range hi] at e
        cases e
        rw [lo i hi]
        dsimp only
        by_cases hc : ids.contains i = true
        · rw [if_pos hc]
          have hm : i ∈ ids := List.contains_iff_mem.mp hc
          have hk := List.idxOf_lt_length_of_mem hm
          obtain ⟨ob, h1, h2⟩ := X.rel.objs (ids.idxOf i) _ (atO_get (by omega))
          have e0 : φ1 (ids.idxOf i) = φ i := by rw [agr _ hk, List.getD_eq_getElem?_getD, idx_get hm]; rfl
          rw [e0] at h1
          exact ⟨ob, h1, h2.ren hb (x.ok1 _ hk)⟩
        · rw [if_neg hc]
          obtain ⟨ob, h1, h2⟩ := R.objs i _ (atO_get hi)
          refine ⟨ob, X.rel.base _ _ ?_, h2.keeps (fun id hid => lo id hid) (by omega) fun _ _ _ => tupk⟩
          rw [withouts_other]
          · exact h1
          · intro hbm
            obtain ⟨j, hj, he⟩ := List.mem_map.mp hbm
            have := R.inj _ _ (x.lt j hj) hi he
            exact hc (List.contains_iff_mem.mpr (this ▸ hj))
      · rw [List.getElem?_append_right (by simpa using Nat.not_lt.mp hi)] at e
        simp only [List.length_map, List.length_range, List.getElem?_map] at e
        cases hj : K[i - σ.length]? with
        | none => rw [hj] at e; cases e
        | some j =>
          rw [hj] at e
          cases e
          have hm := List.mem_of_getElem? hj
          rw [if_neg hi, List.getD_eq_getElem?_getD, hj]
          obtain ⟨ob, h1, h2⟩ := X.rel.objs j _ (atO_get (x.klt j hm).2)
          exact ⟨ob, h1, h2.ren hb (x.okk j hm)⟩
    · skip
      rw [hlen] at hi hj
      have gK : ∀ t, t < K.length → K.getD t 0 ∈ K ∧ K[t]? = some (K.getD t 0) := fun t ht => by
        rw [List.getD_eq_getElem?_getD, List.getElem?_eq_getElem ht]; exact ⟨List.getElem_mem ht, rfl⟩
      by_cases h1 : i < σ.length
      · rw [lo i h1] at e
        by_cases h2 : j < σ.length
        · rw [lo j h2] at e; exact R.inj i j h1 h2 e
        · rw [if_neg h2] at e
          obtain ⟨ob, eo⟩ := oldφ i h1
          rw [e, newK _ (gK _ (by omega)).1] at eo; cases eo
      · rw [if_neg h1] at e
        by_cases h2 : j < σ.length
        · rw [lo j h2] at e
          obtain ⟨ob, eo⟩ := oldφ j h2
          rw [← e, newK _ (gK _ (by omega)).1] at eo; cases eo
        · rw [if_neg h2] at e
          have a1 := gK (i - σ.length) (by omega)
          have a2 := gK (j - σ.length) (by omega)
          have := X.rel.inj _ _ (x.klt _ a1.1).2 (x.klt _ a2.1).2 e
          have := (List.getElem?_inj (by omega) x.knd).mp (a1.2.trans ((congrArg some this).trans a2.2.symm))
          omega
    · refine X.rel.base b o ?_
      rw [withouts_other]
      · exact R.base b o e
      · intro hbm
        obtain ⟨i, hi, rfl⟩ := List.mem_map.mp hbm
        rw [R.fresh i (x.lt i hi)] at e; cases e
    · skip
      by_cases h1 : i < σ.length
      · rw [lo i h1]; exact R.fresh i h1
      · rw [if_neg h1]
        rw [hlen] at hi
        have hm : K.getD (i - σ.length) 0 ∈ K := by rw [List.getD_eq_getElem?_getD, List.getElem?_eq_getElem (by omega)]; exact List.getElem_mem _
        exact base_none R (newK _ hm)
  refine ⟨⟨R, Rl, fun i hi => lo i hi, by omega, fun b o e hne => X.rel.base b o ?_, fun i h1 h2 => ?_⟩, ?_⟩
  · rw [withouts_other]
    · exact e
    · intro hbm
      obtain ⟨i, hi, rfl⟩ := List.mem_map.mp hbm
      exact hne i (x.lt i hi) rfl
  · skip
    rw [if_neg (by omega)]
    have hm : K.getD (i - σ.length) 0 ∈ K := by rw [List.getD_eq_getElem?_getD, List.getElem?_eq_getElem (by omega)]; exact List.getElem_mem _
    exact newK _ hm
  · rw [x.av]
    exact rv.ren hb x.okr
theorem prim_frameG {f : Value} {op : CF} (hp : ∀ g', (∀ b o, g.get? b = some o → g'.get? b = some o) → PrimC prog w g' k f op) : PrimC prog w g k f (frameG op) := by
  intro A s φ σ as vs hA R r av σ' e Q E h
  obtain ⟨ids, K, r0, σ1, x⟩ := framed_of e
  obtain ⟨R', hk, hf⟩ := x.small R
  refine hp _ hk A s _ _ _ vs hA R' (Reps.ren hf r x.ok) _ _ x.run Q E fun v h' tk φ1 X rv => ?_
  obtain ⟨φ', X', rv'⟩ := x.back R X rv
  exact h v h' tk φ' X' rv'
theorem prim_frameGC {f : Value} {op : CF} (hp : ∀ g', (∀ b o, g.get? b = some o → g'.get? b = some o) → PrimCC prog w g' k f op) : PrimCC prog w g k f (frameG op) := by
  intro A s φ σ as vs hA R r av σ' e Q E h
  obtain ⟨ids, K, r0, σ1, x⟩ := framed_of e
  obtain ⟨R', hk, hf⟩ := x.small R
  refine hp _ hk A s _ _ _ vs hA R' (Reps.ren hf r x.ok) _ _ x.run Q E fun v h' tk φ1 X rv => ?_
  obtain ⟨φ', X', rv'⟩ := x.back R X rv
  exact h v h' tk φ' X' rv'
end
end Mine
end
section
set_option maxRecDepth 100000
namespace Mine
/-! frames worked out -/
noncomputable abbrev nr (a : AV) : Bool := okV (fun _ => false) a
noncomputable abbrev nrs (as : List AV) : Bool := okVs (fun _ => false) as
mutual
theorem nr_ok {p : Nat → Bool} : ∀ {a : AV}, nr a = true → okV p a = true
  | .con _, _ => rfl
  | .bool _, _ => rfl
  | .int _, _ => rfl
  | .str _, _ => rfl
  | .bytes _, _ => rfl
  | .tup _, h => nrs_ok (p := p) h
  | .blist _, h => by cases h
  | .ref _, h => by cases h
theorem nrs_ok {p : Nat → Bool} : ∀ {as : List AV}, nrs as = true → okVs p as = true
  | [], _ => rfl
  | a :: as, h => by
    have h' : (okV (fun _ => false) a && okVs (fun _ => false) as) = true := h
    rw [Bool.and_eq_true] at h'
    show (okV p a && okVs p as) = true
    rw [nr_ok h'.1, nrs_ok h'.2]; rfl
end
mutual
theorem nr_ren {f : Nat → Nat} : ∀ {a : AV}, nr a = true → renV f a = a
  | .con _, _ => rfl
  | .bool _, _ => rfl
  | .int _, _ => rfl
  | .str _, _ => rfl
  | .bytes _, _ => rfl
  | .tup _, h => congrArg AV.tup (nrs_ren (f := f) h)
  | .blist _, h => by cases h
  | .ref _, h => by cases h
theorem nrs_ren {f : Nat → Nat} : ∀ {as : List AV}, nrs as = true → renVs f as = as
  | [], _ => rfl
  | a :: as, h => by
    have h' : (okV (fun _ => false) a && okVs (fun _ => false) as) = true := h
    rw [Bool.and_eq_true] at h'
    show renV f a :: renVs f as = a :: as
    rw [nr_ren h'.1, nrs_ren h'.2]
end
mutual
theorem nr_refs : ∀ {a : AV}, nr a = true → refsV a = []
  | .con _, _ => rfl
  | .bool _, _ => rfl
  | .int _, _ => rfl
  | .str _, _ => rfl
  | .bytes _, _ => rfl
  | .tup _, h => nrs_refs h
  | .blist _, h => by cases h
  | .ref _, h => by cases h
theorem nrs_refs : ∀ {as : List AV}, nrs as = true → refsVs as = []
  | [], _ => rfl
  | a :: as, h => by
    have h' : (okV (fun _ => false) a && okVs (fun _ => false) as) = true := h
    rw [Bool.and_eq_true] at h'
    show refsV a ++ refsVs as = []
    rw [nr_refs h'.1, nrs_refs h'.2]; rfl
end
theorem refsVs_append : ∀ (as bs : List AV), refsVs (as ++ bs) = refsVs as ++ refsVs bs
  | [], _ => rfl
  | a :: as, bs => by
    show refsV a ++ refsVs (as ++ bs) = refsV a ++ refsVs as ++ refsVs bs
    rw [refsVs_append as bs, List.append_assoc]
theorem okVs_append {p : Nat → Bool} : ∀ (as bs : List AV), okVs p (as ++ bs) = (okVs p as && okVs p bs)
  | [], _ => rfl
  | a :: as, bs => by
    show (okV p a && okVs p (as ++ bs)) = (okV p a && okVs p as && okVs p bs)
    rw [okVs_append as bs, Bool.and_assoc]
theorem renVs_append {f : Nat → Nat} : ∀ (as bs : List AV), renVs f (as ++ bs) = renVs f as ++ renVs f bs
  | [], _ => rfl
  | a :: as, bs => by
    show renV f a :: renVs f (as ++ bs) = _
    rw [renVs_append as bs]; rfl
theorem nrs_ints : ∀ ns : List Int, nrs (ns.map .int) = true
  | [] => rfl
  | n :: ns => by
    show (true && okVs _ (ns.map .int)) = true
    rw [Bool.true_and]; exact nrs_ints ns
theorem range_atO : ∀ (σ : St), (List.range σ.length).map (fun i => atO σ i) = σ := by
  intro σ
  apply List.ext_getElem?
  intro i
  rw [List.getElem?_map]
  by_cases hi : i < σ.length
  · rw [List.getElem?_range hi, atO_get hi]; rfl
  · rw [List.getElem?_eq_none (by simpa using hi), List.getElem?_eq_none (by simpa using hi)]; rfl
/-- the answer's part of a frame: what stands behind the call in the small state becomes what stands behind it in the large one -/
structure Adopts (ids : List Nat) (σ : St) (r : AV) (σ1 : St) (av : AV) (τ : St) : Prop where
  K : ∃ K, (reach σ1 (refsV r)).filter (fun j => decide (ids.length ≤ j)) = K ∧ K.Nodup ∧ (K.all fun j => decide (ids.length ≤ j) && decide (j < σ1.length)) = true ∧ okV (fun j => decide (j < ids.length) || K.contains j) r = true ∧
    (K.all fun j => okO (fun j => decide (j < ids.length) || K.contains j) (atO σ1 j)) = true ∧ av = renV (fun j => if j < ids.length then ids.getD j 0 else σ.length + K.idxOf j) r ∧ τ = K.map fun j => renO (fun j => if j < ids.length then ids.getD j 0 else σ.length + K.idxOf j) (atO σ1 j)
theorem adopt_none {ids : List Nat} {σ : St} {r : AV} {σ1 : St} (h : nr r = true) : Adopts ids σ r σ1 r [] := by
  refine ⟨[], ?_, List.nodup_nil, rfl, nr_ok h, rfl, (nr_ren h).symm, rfl⟩
  rw [nr_refs h]; rfl
theorem adopt_list {ids : List Nat} {σ : St} {j : Nat} {σ1 : St} {ys : List AV} (hj : ids.length ≤ j) (hy : σ1[j]? = some (.list ys)) (h : nrs ys = true) : Adopts ids σ (.ref j) σ1 (.ref σ.length) [.list ys] := by
  have hat := atO_eq hy
  have hlt : j < σ1.length := (List.getElem?_eq_some_iff.mp hy).1
  have hr : reach σ1 [j] = [j] := by
    unfold reach
    show addNew [j] ([j].flatMap fun i => refsO (atO σ1 i)) = [j]
    simp only [List.flatMap_cons, List.flatMap_nil, hat, refsO, nrs_refs h]
    rfl
  refine ⟨[j], ?_, by simp, by simp [hj, hlt], ?_, ?_, ?_, ?_⟩
  · show (reach σ1 [j]).filter _ = _
    rw [hr]
    simp [hj]
  · show (decide (j < ids.length) || [j].contains j) = true
    simp
  · simp only [List.all_cons, List.all_nil, hat, okO, nrs_ok h, Bool.and_self]
  · show AV.ref _ = AV.ref (if j < ids.length then _ else σ.length + [j].idxOf j)
    rw [if_neg (by omega)]
    simp
  · simp only [List.map_cons, List.map_nil, hat, renO, nrs_ren h]
/-- no object among the arguments -/
theorem frame0 {op : CF} {as : List AV} {σ : St} {r : AV} {σ1 : St} {av : AV} {τ : St} (ha : nrs as = true) (h : op as [] = some (r, σ1)) (x : Adopts [] σ r σ1 av τ) : frameG op as σ = some (av, σ ++ τ) := by
  obtain ⟨K, e, k1, k2, k3, k4, k5, k6⟩ := x
  have hid : reach σ (refsVs as) = [] := by rw [nrs_refs ha]; rfl
  unfold frameG
  simp only [hid]
  rw [if_pos ⟨List.nodup_nil, rfl, nrs_ok ha, rfl⟩, nrs_ren ha]
  show (op as []).bind _ = _
  rw [h, Option.bind_some]
  dsimp only
  rw [e, if_pos ⟨k1, k2, k3, rfl, k4⟩, k5, k6]
  congr 2
  congr 1
  exact (range_atO σ)
/-- one list among the arguments, that the call leaves as it is -/
theorem frame1 {op : CF} {pre post : List AV} {id : Nat} {xs : List AV} {σ : St} {r : AV} {σ1 : St} {av : AV} {τ : St} (hp : nrs pre = true) (hq : nrs post = true) (hσ : σ[id]? = some (.list xs)) (hx : nrs xs = true)
    (h : op (pre ++ .ref 0 :: post) [.list xs] = some (r, σ1)) (h0 : σ1[0]? = some (.list xs)) (x : Adopts [id] σ r σ1 av τ) : frameG op (pre ++ .ref id :: post) σ = some (av, σ ++ τ) := by
  obtain ⟨K, e, k1, k2, k3, k4, k5, k6⟩ := x
  have hat := atO_eq hσ
  have hat0 := atO_eq h0
  have hlt : id < σ.length := (List.getElem?_eq_some_iff.mp hσ).1
  have hid : reach σ (refsVs (pre ++ .ref id :: post)) = [id] := by
    rw [refsVs_append, nrs_refs hp]
    have : refsVs (.ref id :: post) = [id] := by show [id] ++ refsVs post = _; rw [nrs_refs hq]; rfl
    rw [this]
    unfold reach
    show addNew [id] ([id].flatMap fun i => refsO (atO σ i)) = [id]
    simp only [List.flatMap_cons, List.flatMap_nil, hat, refsO, nrs_refs hx]
    rfl
  have e0 : ([id].idxOf id) = 0 := by simp
  unfold frameG
  simp only [hid]
  rw [if_pos]
  · rw [renVs_append, nrs_ren hp]
    have e1 : renVs (fun i => [id].idxOf i) (.ref id :: post) = .ref 0 :: post := by
      show AV.ref ([id].idxOf id) :: renVs _ post = _
      rw [nrs_ren hq, e0]
    rw [e1]
    have e2 : ([id].map fun i => renO (fun i => [id].idxOf i) (atO σ i)) = [.list xs] := by simp only [List.map_cons, List.map_nil, hat, renO, nrs_ren hx]
    rw [e2, h, Option.bind_some]
    dsimp only
    have k0 : ((List.range [id].length).all fun k => okO (fun j => decide (j < [id].length) || K.contains j) (atO σ1 k)) = true := by
      show ([0].all fun k => okO _ (atO σ1 k)) = true
      simp only [List.all_cons, List.all_nil, hat0, okO, nrs_ok hx, Bool.and_self]
    rw [e, if_pos ⟨k1, k2, k3, k0, k4⟩, k5, k6]
    · congr 2
      congr 1
      conv => rhs; rw [← range_atO σ]
      apply List.map_congr_left
      intro i hi
      by_cases hc : [id].contains i = true
      · rw [if_pos hc]
        have : i = id := by simpa using hc
        subst this
        rw [e0, hat0, hat]
        simp only [renO, nrs_ren hx]
      · rw [if_neg hc]
  · refine ⟨by simp, by simp [hlt], ?_, ?_⟩
    · rw [okVs_append, nrs_ok hp]
      show (true && ([id].contains id && okVs _ post)) = true
      rw [nrs_ok hq]
      simp
    · simp only [List.all_cons, List.all_nil, hat, okO, nrs_ok hx, Bool.and_self]
end Mine
end
section
set_option maxRecDepth 100000
namespace Mine
/-! what an iterator will give, while the state stays within P -/
noncomputable def Yields (tt : Bool) (P : St → Prop) : It → List AV → Prop
  | it, [] => tgtB tt it = true ∧ ∀ σ, P σ → itNext it σ = some none
  | it, a :: as => tgtB tt it = true ∧ ∃ it', (∀ σ, P σ → itNext it σ = some (some (a, it'))) ∧ Yields tt P it' as
theorem yields_range {tt : Bool} {P : St → Prop} : ∀ (k : Nat) (c st : Int), Yields tt P (.range c st k) (rngVals c st k)
  | 0, _, _ => ⟨rfl, fun _ _ => rfl⟩
  | k + 1, c, st => ⟨rfl, .range (c + st) st k, fun _ _ => rfl, yields_range k (c + st) st⟩
theorem yields_list {tt : Bool} {P : St → Prop} {id : Nat} {xs : List AV} (hP : ∀ σ, P σ → σ[id]? = some (.list xs)) : ∀ (n i : Nat), n + i = xs.length → Yields tt P (.list id i) (xs.drop i)
  | 0, i, h => by
    rw [List.drop_eq_nil_of_le (by omega)]
    refine ⟨rfl, fun σ hσ => ?_⟩
    show (match σ[id]? with | some (AO.list xs) => (match xs[i]? with | some x => some (some (x, It.list id (i + 1))) | none => some none) | _ => none) = _
    rw [hP σ hσ]
    dsimp only
    rw [List.getElem?_eq_none (by omega)]
  | n + 1, i, h => by
    have hi : i < xs.length := by omega
    rw [List.drop_eq_getElem_cons hi]
    refine ⟨rfl, .list id (i + 1), fun σ hσ => ?_, yields_list hP n (i + 1) (by omega)⟩
    show (match σ[id]? with | some (AO.list xs) => (match xs[i]? with | some x => some (some (x, It.list id (i + 1))) | none => some none) | _ => none) = _
    rw [hP σ hσ]
    dsimp only
    rw [List.getElem?_eq_getElem hi]
/-- the pairs of an enumeration -/
noncomputable def enumV : Nat → List AV → List AV
  | _, [] => []
  | i, x :: xs => .tup [.int i, x] :: enumV (i + 1) xs
theorem enumV_length : ∀ (xs : List AV) (i : Nat), (enumV i xs).length = xs.length
  | [], _ => rfl
  | x :: xs, i => by show (enumV (i + 1) xs).length + 1 = xs.length + 1; rw [enumV_length xs]
theorem yields_enum {P : St → Prop} {id : Nat} {xs : List AV} (hP : ∀ σ, P σ → σ[id]? = some (.list xs)) : ∀ (n i : Nat), n + i = xs.length → Yields true P (.enumL id i) (enumV i (xs.drop i))
  | 0, i, h => by
    rw [List.drop_eq_nil_of_le (by omega)]
    refine ⟨rfl, fun σ hσ => ?_⟩
    show (match σ[id]? with | some (AO.list xs) => (match xs[i]? with | some x => some (some (AV.tup [.int i, x], It.enumL id (i + 1))) | none => some none) | _ => none) = _
    rw [hP σ hσ]
    dsimp only
    rw [List.getElem?_eq_none (by omega)]
  | n + 1, i, h => by
    have hi : i < xs.length := by omega
    rw [List.drop_eq_getElem_cons hi]
    refine ⟨rfl, .enumL id (i + 1), fun σ hσ => ?_, yields_enum hP n (i + 1) (by omega)⟩
    show (match σ[id]? with | some (AO.list xs) => (match xs[i]? with | some x => some (some (AV.tup [.int i, x], It.enumL id (i + 1))) | none => some none) | _ => none) = _
    rw [hP σ hσ]
    dsimp only
    rw [List.getElem?_eq_getElem hi]

/-! loops by an invariant: what is still to come, the frame, the state -/
theorem for_run {tt : Bool} {P : St → Prop} {tf : AF} {bf ef : SF} (I : List AV → Fm → St → Prop) (hP : ∀ as ρ σ, I as ρ σ → P σ)
    (step : ∀ a as ρ σ, I (a :: as) ρ σ → ∃ ρ1 σ1 ρ2 σ2, tf a ρ σ = some (ρ1, σ1) ∧ bf ρ1 σ1 = some (.next, ρ2, σ2) ∧ I as ρ2 σ2) :
    ∀ (items : List AV) (it : It) (n : Nat) (ρ : Fm) (σ : St), Yields tt P it items → items.length < n → I items ρ σ → ∃ ρ' σ', forGo tt tf bf ef n it ρ σ = ef ρ' σ' ∧ I [] ρ' σ'
  | [], it, n, ρ, σ, hy, hn, hI => by
    obtain ⟨m, rfl⟩ : ∃ m, n = m + 1 := ⟨n - 1, by omega⟩
    refine ⟨ρ, σ, ?_, hI⟩
    show (if tgtB tt it = true then (itNext it σ).bind _ else none) = _
    rw [if_pos hy.1, hy.2 σ (hP _ _ _ hI)]
    rfl
  | a :: as, it, n, ρ, σ, hy, hn, hI => by
    obtain ⟨m, rfl⟩ : ∃ m, n = m + 1 := ⟨n - 1, by omega⟩
    obtain ⟨h1, it', h2, h3⟩ := hy
    obtain ⟨ρ1, σ1, ρ2, σ2, e1, e2, hI'⟩ := step a as ρ σ hI
    obtain ⟨ρ', σ', e, hE⟩ := for_run (ef := ef) I hP step as it' m ρ2 σ2 h3 (by simp at hn; omega) hI'
    refine ⟨ρ', σ', ?_, hE⟩
    refine Eq.trans ?_ e
    show (if tgtB tt it = true then (itNext it σ).bind _ else none) = _
    rw [if_pos h1, h2 σ (hP _ _ _ hI)]
    show (tf a ρ σ).bind _ = _
    rw [e1, Option.bind_some, e2]
    rfl
/-- a comprehension that leaves the state as it is -/
theorem comp_pure {tt : Bool} {tf : AF} {ts : TF} {ef : EF} {σ : St} (Fr : Fm → Prop) (out : AV → Option AV) : ∀ (items : List AV) (it : It) (n : Nat) (ρ : Fm), Yields tt (fun s => s = σ) it items → items.length < n → Fr ρ →
    (∀ a ∈ items, ∀ ρ, Fr ρ → ∃ ρ1, Fr ρ1 ∧ tf a ρ σ = some (ρ1, σ) ∧ ((∃ v, out a = some v ∧ ts ρ1 σ = some (true, σ) ∧ ef ρ1 σ = some (v, σ)) ∨ (out a = none ∧ ts ρ1 σ = some (false, σ)))) →
    compGo tt tf ts ef n it ρ σ = some (items.filterMap out, σ)
  | [], it, n, ρ, hy, hn, _, _ => by
    obtain ⟨m, rfl⟩ : ∃ m, n = m + 1 := ⟨n - 1, by omega⟩
    show (if tgtB tt it = true then (itNext it σ).bind _ else none) = _
    rw [if_pos hy.1, hy.2 σ rfl]
    rfl
  | a :: as, it, n, ρ, hy, hn, hr, step => by
    obtain ⟨m, rfl⟩ : ∃ m, n = m + 1 := ⟨n - 1, by omega⟩
    obtain ⟨h1, it', h2, h3⟩ := hy
    obtain ⟨ρ1, hr1, e1, hc⟩ := step a (List.mem_cons_self ..) ρ hr
    have ih := comp_pure Fr out as it' m ρ1 h3 (by simp at hn; omega) hr1 fun b hb => step b (List.mem_cons_of_mem _ hb)
    show (if tgtB tt it = true then (itNext it σ).bind _ else none) = _
    rw [if_pos h1, h2 σ rfl]
    show (tf a ρ σ).bind _ = _
    rw [e1, Option.bind_some]
    rcases hc with ⟨v, o1, e2, e3⟩ | ⟨o1, e2⟩
    · rw [e2, Option.bind_some]
      dsimp only
      rw [if_pos rfl, e3, Option.bind_some, ih, List.filterMap_cons, o1]
      rfl
    · rw [e2, Option.bind_some]
      dsimp only
      rw [if_neg (by decide), ih, List.filterMap_cons, o1]
/-- statements one behind the other -/
theorem seq_next {f fs : SF} {ρ ρ1 : Fm} {σ σ1 : St} (h : f ρ σ = some (.next, ρ1, σ1)) : seqS f fs ρ σ = fs ρ1 σ1 := by
  unfold seqS
  rw [h]
  rfl
theorem seq_ret {f fs : SF} {ρ ρ1 : Fm} {σ σ1 : St} {v : AV} (h : f ρ σ = some (.ret v, ρ1, σ1)) : seqS f fs ρ σ = some (.ret v, ρ1, σ1) := by
  unfold seqS
  rw [h]
  rfl
theorem get_new {σ : St} {o : AO} : (σ ++ [o])[σ.length]? = some o := by simp
theorem get_old {σ : St} {o : AO} {i : Nat} {τ : St} (h : σ[i]? = some o) : (σ ++ τ)[i]? = some o := by
  rw [List.getElem?_append_left (List.getElem?_eq_some_iff.mp h).1]; exact h
end Mine
end
section
set_option maxRecDepth 100000
namespace Mine
/-! the head of an open law, for clean contexts: the caller's own context has nothing below it -/
theorem caller_clean : Clean ⟨.builtin "claim.caller" {}, none, none, [], none⟩ := ⟨by decide +kernel, fun _ h => nomatch h⟩
theorem thread_endsC {prog : Program} {w : World} {t : Sem PySem.Fin} {s : Shared} {R : Result → Shared → Prop} (hreg : s.asleep)
    (h : wpC (model prog w) callerA t (fun fin s' => ∃ f, fin = .done f ∧ (R (.ok f) s' ∧ leftWithCleanup s'.gens = false)) (fun e s' => R (.error e) s' ∧ leftWithCleanup s'.gens = false) s) :
    ∃ n r s' s'', runN (denote table) prog w n s ⟨t, .builtin "claim.caller" {}, default, []⟩ = .halted (outcomeOf r) s' ∧
      schedN (denote table) prog w n (.single s ⟨t, .builtin "claim.caller" {}, default, []⟩) = .halted (outcomeOf r) s' ∧ s'.forget = s''.forget ∧ R r s'' := by
  have hw : Sem.wp (model prog w) ⟨.builtin "claim.caller" {}, none, none, [], none⟩ t (Sem.finPost (model prog w) ⟨.builtin "claim.caller" {}, none, none, [], none⟩ fun r s' => R r s' ∧ leftWithCleanup s'.gens = false)
      (fun e _ s' => R (.error e) s' ∧ leftWithCleanup s'.gens = false) default s :=
    Sem.wp_mono _ _ t (fun fin p' s' h' => by obtain ⟨f, rfl, hf⟩ := h'; exact hf) (fun _ _ _ h' => h') default s (h _ default caller_in caller_clean)
  obtain ⟨n, r, s₁, s₂, hs, hn, hfo, hR⟩ := wp_halts_full (M := model prog w) (R := R) hreg hw
  exact ⟨n, r, s₂, s₁, hn, hs, hfo, hR⟩
theorem callFromC {c : ClaimW} {tree : List Value → Sem PySem.Fin} {w : World} {s : Shared} {free : Addr → Prop} {gens : Prop} {kept : Heap → Prop} (hz : s.asleep) (hgens : s.gens = #[])
    (hspec : ∀ args, c.pre args = true → WData.layableAll args = true → ∀ ord : List DictEntry → List DictEntry, (∀ l, (ord l).Perm l) →
      ∃ vs s₁, layAllW c.records (classAt s.heap) w.params ord args s = some (vs, s₁) ∧
        wpC (model c.prog w) callerA (tree vs) (fun fin s' => ∃ f, fin = .done f ∧ (c.Ends s args vs s₁ (.ok f) s' ∧ s'.os = s.os ∧ AllBare s'.gens ∧ kept s'.heap))
          (fun e s' => c.Ends s args vs s₁ (.error e) s' ∧ s'.os = s.os ∧ AllBare s'.gens ∧ kept s'.heap) s₁) :
    c.CallFrom (fun vs => ⟨tree vs, .builtin "claim.caller" {}, default, []⟩) w free gens kept s := by
  intro args hpre hlay ord hord
  obtain ⟨vs, s₁, hlaid, hcode⟩ := hspec args hpre hlay ord hord
  have hal := layAllW_rest _ _ _ hlaid
  obtain ⟨k, r, s', s'', hrun, hsched, hfo, hcase, hos, hkp⟩ := thread_endsC (prog := c.prog) (w := w) (t := tree vs) (s := s₁)
    (R := fun r s' => c.Ends s args vs s₁ r s' ∧ s'.os = s.os ∧ kept s'.heap) (Shared.asleep_of_life hal.2.2.2 hz)
    (wpC_mono hcode (by
      rintro fin s' ⟨f, e, h1, h2, h3, h4⟩
      exact ⟨f, e, ⟨h1, h2, h4⟩, leftWithCleanup_false_of_bare h3⟩) (by
      rintro e s' ⟨h1, h2, h3, h4⟩
      exact ⟨⟨h1, h2, h4⟩, leftWithCleanup_false_of_bare h3⟩))
  obtain ⟨eh, eg, _, eo, _⟩ := Shared.forget_eq hfo
  have hcase := hcase.congr eh
  have hkp : kept s'.heap := by first | exact eh ▸ hkp | (rw [eh] at hkp; exact hkp) | (rw [← eh] at hkp; exact hkp)
  rw [← eo] at hos
  have hlife : s'.heap.life = s.heap.life := (runN_life _ _ _ hrun).trans hal.2.2.2
  refine ⟨vs, s₁, hlaid, k, _, s', hsched, ?_, (fun _ i x hx => by rw [hgens] at hx; simp at hx), hkp, by rw [hlife], Shared.rest_eq hos⟩
  rcases hcase with ⟨v, rfl, d1, d2, d3, d4, d5⟩ | ⟨e, ob, cls, rfl, d1, d2, d3, d4, d5⟩
  · exact .inl ⟨v, rfl, d1, d2, d3, fun b o y _ => d4 b o y, d5⟩
  · exact .inr ⟨e, ob, cls, rfl, d1, d2, d3, d4, fun b o y _ => d5 b o y⟩

noncomputable abbrev WalkC (q : Program) (loose : List Str) (XP : (Str → Option Value) → Heap → Prop) (YP : World → Heap → Prop) (r : RowW) (d : DefRec) (kwd : List (Str × Expr)) : Prop :=
  ∀ (w : World) (s₀ s₁ : Shared) (mg mb : Str → Option Value), Ground q loose r.records XP w s₀ mg mb s₁.heap → YP w s₁.heap → ∀ (a : Addr) (o : Obj) (pm cd doc dV kV : Value), s₁.heap.get? a = some o →
    o.data = .func { docDef d.name d.params d.body d.scope pm cd doc with defaults := dV, kwdefaults := kV } → s₁.heap.CodeRec cd d.name → Dflts mg s₁.heap d.params kwd dV kV → mg d.name = some (.ref a) → s₁.gens = #[] →
    ∀ (args : List WData) (vals : List Value) (as : List Addr), r.claim.pre args = true → WData.layableAll args = true → ReadsAllW r.records (classAt s₀.heap) s₁.heap vals args as → WellAll w.params s₁.heap vals args → (∀ a ∈ as, (a == sysModules) = false) →
      wpC (model r.prog w) callerA (call (.ref a) vals) (fun v s' => GoodWG r.claim (classAt s₀.heap) (ExcName.means s₀.heap) args s₁ (.ok (.ret v)) s')
        (fun e s' => GoodWG r.claim (classAt s₀.heap) (ExcName.means s₀.heap) args s₁ (.error e) s') s₁

theorem holds_clean {r : OpenRow} {q : Program} {loose : List Str} {Xt : Shared → Bool} {XP : (Str → Option Value) → Heap → Prop} {α : Type} {Yf : Shared → α} {Ya : World → α} {YP : World → Heap → Prop} {d : DefRec} {kwd : List (Str × Expr)} {N : Nat}
    (left : LeftO r.prog q loose Xt Yf Ya N) (hY : ∀ w s, Yf s = Ya w → YP w s.heap) (hYk : ∀ w h h', YP w h → (∀ b o, h.get? b = some o → h'.get? b = some o) → YP w h')
    (hX : ∀ s, Xt s = true → XP (s.heap.nsMap mainGlobals) s.heap) (hXk : ∀ mg h h', XP mg h → (∀ b o, h.get? b = some o → h'.get? b = some o) → XP mg h')
    (hdef : defOf q r.name = some (d, kwd)) (hp : r.prog.theDef r.name = some (d.params, d.body, d.scope)) (hk : kwWritten? d.params.kwonlyargs d.params.kw_defaults = some kwd) (hRf : ∀ s, Xt s = true → RecFacts r.records s.heap) (hwr : (!r.writes || r.records.isEmpty) = true)
    (k1 : r.wellSaid = true) (ok : (chainsOk q && opensWell r.prog && (frees r.toRowW && r.within.isEmpty)) = true) (hb : r.prog.bare) (hw : r.toRowW.promised)
    (walk : WalkC q loose XP YP r.toRowW d kwd) : r.Holds := by
  obtain ⟨ok, k5⟩ := Bool.and_eq_true_iff.mp ok
  obtain ⟨hch, o1⟩ := Bool.and_eq_true_iff.mp ok
  obtain ⟨k5, k6⟩ := Bool.and_eq_true_iff.mp k5
  obtain ⟨hsame, hu, ha, hap, hm⟩ := frees_parts k5
  have L0 := fun w => left.behind (XP := fun mg h => XP mg h ∧ RecFacts r.records h) (fun s hs => ⟨hX s hs, hRf s hs⟩) hch w
  refine ⟨k1, hw, ⟨hb, o1, by show r.makers.map _ = []; rw [hm]; rfl⟩, hw.witness, fun w => ⟨(L0 w).1, fun s' hs' => ?_⟩⟩
  obtain ⟨s₀, hf, hg0, s, hT, hz, hgens, hg, G00, y⟩ := (L0 w).2 s' hs'
  have G0 : Ground q loose [] XP w s (s.heap.nsMap mainGlobals) (s.heap.nsMap builtinsNs) s.heap := ⟨G00.T, G00.B, G00.D, G00.TE, G00.TD, G00.W, G00.X.1, G00.cls, G00.has, G00.apart, G00.once, G00.K⟩
  have RF := G00.X.2
  have hgens : s.gens = #[] := Array.eq_empty_of_size_eq_zero (beq_iff_eq.mp hgens)
  have G : Ground q loose r.records XP w s _ _ s.heap := RF.ground G0
  refine ⟨s₀, hf, hg0, s, hT, fun n hn => ?_, RF.1, RF.2.1, callFromC (c := r.claim) hz hgens fun args hpre hlay ord hord => ?_⟩
  · obtain rfl : n = r.name := by split at hn <;> simp_all
    exact pinned_of_view hg G0 hdef hp hk
  obtain ⟨⟨vs, s₁⟩, hlaid⟩ := Option.isSome_iff_exists.mp (layAllW_isSome (P := w.params) (ord := ord) G.has args r.args s (pre_splitW hpre).1)
  have keeps := layAllW_keeps _ _ _ hlaid
  have hal := layAllW_rest _ _ _ hlaid
  obtain ⟨as, hrd, hin, hold⟩ := reads_layAllW hord _ _ _ hlaid hlay s₁.heap (fun _ _ e => e)
  have L : Laid r.records w s s₁ args vs as := ⟨⟨ord, hord, hlaid⟩, hrd, hin, hold, keeps, hal.1.trans hgens, hal.2.2.1⟩
  have G₁ := G.keeps hXk keeps
  obtain ⟨a, o, pm, cd, doc, dV, kV, h1, h2, h3, h4, h5⟩ := G₁.fn hdef
  have hi := ident_freeW hu ha hap
  have hwi : r.claim.within = [] := List.isEmpty_iff.mp k6
  have h := walk w s s₁ _ _ G₁ (hYk _ _ _ (hY w s y) keeps) a o pm cd doc dV kV h2 h3 h4 h5 (defOf_name hdef ▸ h1) L.gens args vs as hpre hlay L.reads L.well (L.low G.low)
  have fin : ∀ (kps : List Str) r' s', GoodWG r.claim (classAt s.heap) (ExcName.means s.heap) args s₁ r' s' → r.claim.Ends s args vs s₁ r' s' ∧ s'.os = s.os ∧ AllBare s'.gens ∧ (r.writes = true → namesKept r.prog kps s.heap s'.heap ∧ ∀ x ∈ r.records, ∀ a, classAt s.heap x.1 = some a → recordClass s'.heap a x.1 (x.2.map (·.1)) = true) := fun kps r' s' g =>
    have z := g.laid (c := r.claim) hsame hwi hi L
    ⟨z.1, z.2.1, z.2.2, fun q => ⟨namesKept_of hT hg kps keeps g.2.1.old, noTable hwr q⟩⟩
  refine ⟨vs, s₁, hlaid, wpC_step (wpAny_nsGet G₁.T.g ?_)⟩
  rw [h1]
  exact wpC_bind (wpC_mono h (fun v s' g => wpC_pure ⟨_, rfl, fin _ _ _ g⟩) fun e s' g => fin _ _ _ g)
end Mine
end
section
set_option maxRecDepth 100000
namespace Mine
/-! what the base heap holds -/
noncomputable def tabT : List (Int × Str) := [(1, Str.ofString "OPTIMIZED"), (2, Str.ofString "NEWLOCALS"), (4, Str.ofString "VARARGS"), (8, Str.ofString "VARKEYWORDS"), (16, Str.ofString "NESTED"), (32, Str.ofString "GENERATOR"), (64, Str.ofString "NOFREE"), (128, Str.ofString "COROUTINE"), (256, Str.ofString "ITERABLE_COROUTINE"), (512, Str.ofString "ASYNC_GENERATOR")]
noncomputable abbrev tabA : Addr := 42
noncomputable def tabO : MF := fun a as σ => match a with | .con (.ref b) => if b = tabA then getD tabT a as σ else none | _ => none
noncomputable def insort_right_st : Stmt := stAt PySem.Challenge.pw_wf0025_02 1
noncomputable def insort_right_ps : List Str := [Str.ofString "a", Str.ofString "x", Str.ofString "lo", Str.ofString "hi", Str.ofString "key"]
noncomputable def bisect_right_st : Stmt := stAt PySem.Challenge.pw_wf0025_02 2
noncomputable def bisect_right_ps : List Str := [Str.ofString "a", Str.ofString "x", Str.ofString "lo", Str.ofString "hi", Str.ofString "key"]
noncomputable def bisect_left_st : Stmt := stAt PySem.Challenge.pw_wf0025_02 3
noncomputable def bisect_left_ps : List Str := [Str.ofString "a", Str.ofString "x", Str.ofString "lo", Str.ofString "hi", Str.ofString "key"]
noncomputable def pretty_flags_st : Stmt := stAt PySem.Challenge.pw_wf0025_02 6
noncomputable def pretty_flags_ps : List Str := [Str.ofString "flags"]
noncomputable def byteswap_st : Stmt := stAt PySem.Challenge.pw_wf0025_02 8
noncomputable def byteswap_ps : List Str := [Str.ofString "data", Str.ofString "width"]
noncomputable def law_word_st : Stmt := stAt PySem.Challenge.pw_wf0025_02 10
noncomputable def law_word_ps : List Str := [Str.ofString "place"]
noncomputable def law_places_st : Stmt := stAt PySem.Challenge.pw_wf0025_02 11
noncomputable def law_places_ps : List Str := [Str.ofString "cells"]
noncomputable def law_tape_st : Stmt := stAt PySem.Challenge.pw_wf0025_02 12
noncomputable def law_tape_ps : List Str := [Str.ofString "places", Str.ofString "code"]
noncomputable def law_order_st : Stmt := stAt PySem.Challenge.pw_wf0025_02 13
noncomputable def law_order_ps : List Str := [Str.ofString "places", Str.ofString "code"]
noncomputable def law_told_st : Stmt := stAt PySem.Challenge.pw_wf0025_02 14
noncomputable def law_told_ps : List Str := [Str.ofString "size"]
noncomputable def law_under_st : Stmt := stAt PySem.Challenge.pw_wf0025_02 15
noncomputable def law_under_ps : List Str := [Str.ofString "entry"]
noncomputable def law_twos_st : Stmt := stAt PySem.Challenge.pw_wf0025_02 16
noncomputable def law_twos_ps : List Str := [Str.ofString "steps"]
noncomputable def law_st : Stmt := stAt PySem.Challenge.pw_wf0025_02 17
noncomputable def law_ps : List Str := [Str.ofString "script"]
structure Facts (g : Heap) : Prop where
  lim : g.NoLimit
  gl_byteswap : GlobIs g (Str.ofString "_byteswap") (.ref 56)
  gl_insort_right : GlobIs g (Str.ofString "insort_right") (.ref 23)
  gl_bisect_right : GlobIs g (Str.ofString "bisect_right") (.ref 32)
  gl_bisect_left : GlobIs g (Str.ofString "bisect_left") (.ref 41)
  gl_COMPILER_FLAG_NAMES : GlobIs g (Str.ofString "COMPILER_FLAG_NAMES") (.ref 42)
  gl_pretty_flags : GlobIs g (Str.ofString "pretty_flags") (.ref 49)
  gl_law_word : GlobIs g (Str.ofString "_law_word") (.ref 63)
  gl_law_places : GlobIs g (Str.ofString "_law_places") (.ref 70)
  gl_law_tape : GlobIs g (Str.ofString "_law_tape") (.ref 75)
  gl_law_order : GlobIs g (Str.ofString "_law_order") (.ref 82)
  gl_law_told : GlobIs g (Str.ofString "_law_told") (.ref 89)
  gl_law_under : GlobIs g (Str.ofString "_law_under") (.ref 96)
  gl_law_twos : GlobIs g (Str.ofString "_law_twos") (.ref 101)
  gl_law : GlobIs g (Str.ofString "law") (.ref 106)
  gl_len : GlobIs g (Str.ofString "len") (.builtin "len")
  gl_sum : GlobIs g (Str.ofString "sum") (.builtin "sum")
  gl_hex : GlobIs g (Str.ofString "hex") (.builtin "hex")
  gl_isinstance : GlobIs g (Str.ofString "isinstance") (.builtin "isinstance")
  gl_bytes : GlobIs g (Str.ofString "bytes") (.type "bytes")
  gl_int : GlobIs g (Str.ofString "int") (.type "int")
  gl_tuple : GlobIs g (Str.ofString "tuple") (.type "tuple")
  gl_list : GlobIs g (Str.ofString "list") (.type "list")
  gl_range : GlobIs g (Str.ofString "range") (.type "range")
  gl_enumerate : GlobIs g (Str.ofString "enumerate") (.type "enumerate")
  gl_zip : GlobIs g (Str.ofString "zip") (.type "zip")
  gl_bytearray : GlobIs g (Str.ofString "bytearray") (.type "bytearray")
  tab : ∀ (prog : Program) (w : World), IntTab prog w g tabA (tabT.map fun p => (PyData.int p.1, PyData.str p.2))
  fn_insort_right : ∃ fd, FnOK g 23 fd (bodyOf insort_right_st) (namesOf insort_right_st) insort_right_ps ∧ (∀ (s : Shared) (vs : List Value), (∀ b o, g.get? b = some o → s.heap.get? b = some o) → vs.length = 4 → ∃ ws, BindsTo s fd ⟨vs, []⟩ (insort_right_ps.zip (vs ++ ws)) ∧ Plain2 [.con .none] ws) ∧ (∀ (s : Shared) (vs : List Value) (v : Value), (∀ b o, g.get? b = some o → s.heap.get? b = some o) → vs.length = 4 → BindsTo s fd ⟨vs, [(Str.ofString "key", v)]⟩ (insort_right_ps.zip (vs ++ [v]))) ∧ (∀ (s : Shared) (vs : List Value), (∀ b o, g.get? b = some o → s.heap.get? b = some o) → vs.length = 2 → ∃ ws, BindsTo s fd ⟨vs, []⟩ (insort_right_ps.zip (vs ++ ws)) ∧ Plain2 [.int 0, .con .none, .con .none] ws) ∧ (∀ (s : Shared) (vs : List Value) (v : Value), (∀ b o, g.get? b = some o → s.heap.get? b = some o) → vs.length = 2 → ∃ ws, BindsTo s fd ⟨vs, [(Str.ofString "key", v)]⟩ (insort_right_ps.zip (vs ++ (ws ++ [v]))) ∧ Plain2 [.int 0, .con .none] ws)
  fn_bisect_right : ∃ fd, FnOK g 32 fd (bodyOf bisect_right_st) (namesOf bisect_right_st) bisect_right_ps ∧ (∀ (s : Shared) (vs : List Value), (∀ b o, g.get? b = some o → s.heap.get? b = some o) → vs.length = 4 → ∃ ws, BindsTo s fd ⟨vs, []⟩ (bisect_right_ps.zip (vs ++ ws)) ∧ Plain2 [.con .none] ws) ∧ (∀ (s : Shared) (vs : List Value) (v : Value), (∀ b o, g.get? b = some o → s.heap.get? b = some o) → vs.length = 4 → BindsTo s fd ⟨vs, [(Str.ofString "key", v)]⟩ (bisect_right_ps.zip (vs ++ [v]))) ∧ (∀ (s : Shared) (vs : List Value), (∀ b o, g.get? b = some o → s.heap.get? b = some o) → vs.length = 2 → ∃ ws, BindsTo s fd ⟨vs, []⟩ (bisect_right_ps.zip (vs ++ ws)) ∧ Plain2 [.int 0, .con .none, .con .none] ws) ∧ (∀ (s : Shared) (vs : List Value) (v : Value), (∀ b o, g.get? b = some o → s.heap.get? b = some o) → vs.length = 2 → ∃ ws, BindsTo s fd ⟨vs, [(Str.ofString "key", v)]⟩ (bisect_right_ps.zip (vs ++ (ws ++ [v]))) ∧ Plain2 [.int 0, .con .none] ws)
  fn_bisect_left : ∃ fd, FnOK g 41 fd (bodyOf bisect_left_st) (namesOf bisect_left_st) bisect_left_ps ∧ (∀ (s : Shared) (vs : List Value), (∀ b o, g.get? b = some o → s.heap.get? b = some o) → vs.length = 4 → ∃ ws, BindsTo s fd ⟨vs, []⟩ (bisect_left_ps.zip (vs ++ ws)) ∧ Plain2 [.con .none] ws) ∧ (∀ (s : Shared) (vs : List Value) (v : Value), (∀ b o, g.get? b = some o → s.heap.get? b = some o) → vs.length = 4 → BindsTo s fd ⟨vs, [(Str.ofString "key", v)]⟩ (bisect_left_ps.zip (vs ++ [v]))) ∧ (∀ (s : Shared) (vs : List Value), (∀ b o, g.get? b = some o → s.heap.get? b = some o) → vs.length = 2 → ∃ ws, BindsTo s fd ⟨vs, []⟩ (bisect_left_ps.zip (vs ++ ws)) ∧ Plain2 [.int 0, .con .none, .con .none] ws) ∧ (∀ (s : Shared) (vs : List Value) (v : Value), (∀ b o, g.get? b = some o → s.heap.get? b = some o) → vs.length = 2 → ∃ ws, BindsTo s fd ⟨vs, [(Str.ofString "key", v)]⟩ (bisect_left_ps.zip (vs ++ (ws ++ [v]))) ∧ Plain2 [.int 0, .con .none] ws)
  fn_pretty_flags : ∃ fd, FnOK g 49 fd (bodyOf pretty_flags_st) (namesOf pretty_flags_st) pretty_flags_ps ∧ (∀ vs : List Value, vs.length = 1 → bindArgs fd ⟨vs, []⟩ = pure (pretty_flags_ps.zip vs))
  fn_byteswap : ∃ fd, FnOK g 56 fd (bodyOf byteswap_st) (namesOf byteswap_st) byteswap_ps ∧ (∀ vs : List Value, vs.length = 2 → bindArgs fd ⟨vs, []⟩ = pure (byteswap_ps.zip vs))
  fn_law_word : ∃ fd, FnOK g 63 fd (bodyOf law_word_st) (namesOf law_word_st) law_word_ps ∧ (∀ vs : List Value, vs.length = 1 → bindArgs fd ⟨vs, []⟩ = pure (law_word_ps.zip vs))
  fn_law_places : ∃ fd, FnOK g 70 fd (bodyOf law_places_st) (namesOf law_places_st) law_places_ps ∧ (∀ vs : List Value, vs.length = 1 → bindArgs fd ⟨vs, []⟩ = pure (law_places_ps.zip vs))
  fn_law_tape : ∃ fd, FnOK g 75 fd (bodyOf law_tape_st) (namesOf law_tape_st) law_tape_ps ∧ (∀ vs : List Value, vs.length = 2 → bindArgs fd ⟨vs, []⟩ = pure (law_tape_ps.zip vs))
  fn_law_order : ∃ fd, FnOK g 82 fd (bodyOf law_order_st) (namesOf law_order_st) law_order_ps ∧ (∀ vs : List Value, vs.length = 2 → bindArgs fd ⟨vs, []⟩ = pure (law_order_ps.zip vs))
  fn_law_told : ∃ fd, FnOK g 89 fd (bodyOf law_told_st) (namesOf law_told_st) law_told_ps ∧ (∀ vs : List Value, vs.length = 1 → bindArgs fd ⟨vs, []⟩ = pure (law_told_ps.zip vs))
  fn_law_under : ∃ fd, FnOK g 96 fd (bodyOf law_under_st) (namesOf law_under_st) law_under_ps ∧ (∀ vs : List Value, vs.length = 1 → bindArgs fd ⟨vs, []⟩ = pure (law_under_ps.zip vs))
  fn_law_twos : ∃ fd, FnOK g 101 fd (bodyOf law_twos_st) (namesOf law_twos_st) law_twos_ps ∧ (∀ vs : List Value, vs.length = 1 → bindArgs fd ⟨vs, []⟩ = pure (law_twos_ps.zip vs))
  fn_law : ∃ fd, FnOK g 106 fd (bodyOf law_st) (namesOf law_st) law_ps ∧ (∀ vs : List Value, vs.length = 1 → bindArgs fd ⟨vs, []⟩ = pure (law_ps.zip vs))
section
variable {prog : Program} {w : World} {g : Heap}
theorem Facts.ob_insort_right (hG : Facts g) : ∃ o, g.get? 23 = some o ∧ o.data = .func (hG.fn_insort_right).choose := (hG.fn_insort_right).choose_spec.1.ob
theorem Facts.ob_bisect_right (hG : Facts g) : ∃ o, g.get? 32 = some o ∧ o.data = .func (hG.fn_bisect_right).choose := (hG.fn_bisect_right).choose_spec.1.ob
theorem Facts.ob_bisect_left (hG : Facts g) : ∃ o, g.get? 41 = some o ∧ o.data = .func (hG.fn_bisect_left).choose := (hG.fn_bisect_left).choose_spec.1.ob
theorem Facts.ob_pretty_flags (hG : Facts g) : ∃ o, g.get? 49 = some o ∧ o.data = .func (hG.fn_pretty_flags).choose := (hG.fn_pretty_flags).choose_spec.1.ob
theorem Facts.ob_byteswap (hG : Facts g) : ∃ o, g.get? 56 = some o ∧ o.data = .func (hG.fn_byteswap).choose := (hG.fn_byteswap).choose_spec.1.ob
theorem Facts.ob_law_word (hG : Facts g) : ∃ o, g.get? 63 = some o ∧ o.data = .func (hG.fn_law_word).choose := (hG.fn_law_word).choose_spec.1.ob
theorem Facts.ob_law_places (hG : Facts g) : ∃ o, g.get? 70 = some o ∧ o.data = .func (hG.fn_law_places).choose := (hG.fn_law_places).choose_spec.1.ob
theorem Facts.ob_law_tape (hG : Facts g) : ∃ o, g.get? 75 = some o ∧ o.data = .func (hG.fn_law_tape).choose := (hG.fn_law_tape).choose_spec.1.ob
theorem Facts.ob_law_order (hG : Facts g) : ∃ o, g.get? 82 = some o ∧ o.data = .func (hG.fn_law_order).choose := (hG.fn_law_order).choose_spec.1.ob
theorem Facts.ob_law_told (hG : Facts g) : ∃ o, g.get? 89 = some o ∧ o.data = .func (hG.fn_law_told).choose := (hG.fn_law_told).choose_spec.1.ob
theorem Facts.ob_law_under (hG : Facts g) : ∃ o, g.get? 96 = some o ∧ o.data = .func (hG.fn_law_under).choose := (hG.fn_law_under).choose_spec.1.ob
theorem Facts.ob_law_twos (hG : Facts g) : ∃ o, g.get? 101 = some o ∧ o.data = .func (hG.fn_law_twos).choose := (hG.fn_law_twos).choose_spec.1.ob
theorem Facts.get (hG : Facts g) {k : Nat} : PrimM prog w g k "get" "dict.get" (okD tabA) tabO := prim_dget hG.tab
theorem GlobIs.keeps {g g' : Heap} {x : Str} {v : Value} (h : GlobIs g x v) (hk : ∀ b o, g.get? b = some o → g'.get? b = some o) : GlobIs g' x v := by
  obtain ⟨mg, mb, h1, h2, h3⟩ := h
  exact ⟨mg, mb, h1.keeps hk, h2.keeps hk, h3⟩
theorem FnOK.keeps {g g' : Heap} {a : Addr} {fd : FuncData} {body : List Stmt} {nms : List (Str × NameKind)} {params : List Str} (x : FnOK g a fd body nms params) (hk : ∀ b o, g.get? b = some o → g'.get? b = some o) : FnOK g' a fd body nms params := by
  obtain ⟨o, h1, h2⟩ := x.ob
  exact ⟨⟨o, hk _ _ h1, h2⟩, x.lim.keeps hk, x.code.keeps hk, x.body, x.names, x.kind, x.coro, x.gen, x.clo, x.glob, x.bi, x.par⟩
theorem Facts.keeps {g g' : Heap} (x : Facts g) (hk : ∀ b o, g.get? b = some o → g'.get? b = some o) : Facts g' where
  lim := x.lim.keeps hk
  gl_byteswap := GlobIs.keeps x.gl_byteswap hk
  gl_insort_right := GlobIs.keeps x.gl_insort_right hk
  gl_bisect_right := GlobIs.keeps x.gl_bisect_right hk
  gl_bisect_left := GlobIs.keeps x.gl_bisect_left hk
  gl_COMPILER_FLAG_NAMES := GlobIs.keeps x.gl_COMPILER_FLAG_NAMES hk
  gl_pretty_flags := GlobIs.keeps x.gl_pretty_flags hk
  gl_law_word := GlobIs.keeps x.gl_law_word hk
  gl_law_places := GlobIs.keeps x.gl_law_places hk
  gl_law_tape := GlobIs.keeps x.gl_law_tape hk
  gl_law_order := GlobIs.keeps x.gl_law_order hk
  gl_law_told := GlobIs.keeps x.gl_law_told hk
  gl_law_under := GlobIs.keeps x.gl_law_under hk
  gl_law_twos := GlobIs.keeps x.gl_law_twos hk
  gl_law := GlobIs.keeps x.gl_law hk
  gl_len := GlobIs.keeps x.gl_len hk
  gl_sum := GlobIs.keeps x.gl_sum hk
  gl_hex := GlobIs.keeps x.gl_hex hk
  gl_isinstance := GlobIs.keeps x.gl_isinstance hk
  gl_bytes := GlobIs.keeps x.gl_bytes hk
  gl_int := GlobIs.keeps x.gl_int hk
  gl_tuple := GlobIs.keeps x.gl_tuple hk
  gl_list := GlobIs.keeps x.gl_list hk
  gl_range := GlobIs.keeps x.gl_range hk
  gl_enumerate := GlobIs.keeps x.gl_enumerate hk
  gl_zip := GlobIs.keeps x.gl_zip hk
  gl_bytearray := GlobIs.keeps x.gl_bytearray hk
  tab := fun prog w => let ⟨lo, kvs, hd, hf⟩ := x.tab prog w; ⟨lo, kvs, Heap.DictOf.keep hd hk, hf⟩
  fn_insort_right := by
    obtain ⟨fd, h1, h2, h3, h4, h5⟩ := x.fn_insort_right
    exact ⟨fd, FnOK.keeps h1 hk, fun s vs k => h2 s vs (fun b o e => k b o (hk b o e)), fun s vs v k => h3 s vs v (fun b o e => k b o (hk b o e)), fun s vs k => h4 s vs (fun b o e => k b o (hk b o e)), fun s vs v k => h5 s vs v (fun b o e => k b o (hk b o e))⟩
  fn_bisect_right := by
    obtain ⟨fd, h1, h2, h3, h4, h5⟩ := x.fn_bisect_right
    exact ⟨fd, FnOK.keeps h1 hk, fun s vs k => h2 s vs (fun b o e => k b o (hk b o e)), fun s vs v k => h3 s vs v (fun b o e => k b o (hk b o e)), fun s vs k => h4 s vs (fun b o e => k b o (hk b o e)), fun s vs v k => h5 s vs v (fun b o e => k b o (hk b o e))⟩
  fn_bisect_left := by
    obtain ⟨fd, h1, h2, h3, h4, h5⟩ := x.fn_bisect_left
    exact ⟨fd, FnOK.keeps h1 hk, fun s vs k => h2 s vs (fun b o e => k b o (hk b o e)), fun s vs v k => h3 s vs v (fun b o e => k b o (hk b o e)), fun s vs k => h4 s vs (fun b o e => k b o (hk b o e)), fun s vs v k => h5 s vs v (fun b o e => k b o (hk b o e))⟩
  fn_pretty_flags := by
    obtain ⟨fd, h1, h2⟩ := x.fn_pretty_flags
    exact ⟨fd, FnOK.keeps h1 hk, h2⟩
  fn_byteswap := by
    obtain ⟨fd, h1, h2⟩ := x.fn_byteswap
    exact ⟨fd, FnOK.keeps h1 hk, h2⟩
  fn_law_word := by
    obtain ⟨fd, h1, h2⟩ := x.fn_law_word
    exact ⟨fd, FnOK.keeps h1 hk, h2⟩
  fn_law_places := by
    obtain ⟨fd, h1, h2⟩ := x.fn_law_places
    exact ⟨fd, FnOK.keeps h1 hk, h2⟩
  fn_law_tape := by
    obtain ⟨fd, h1, h2⟩ := x.fn_law_tape
    exact ⟨fd, FnOK.keeps h1 hk, h2⟩
  fn_law_order := by
    obtain ⟨fd, h1, h2⟩ := x.fn_law_order
    exact ⟨fd, FnOK.keeps h1 hk, h2⟩
  fn_law_told := by
    obtain ⟨fd, h1, h2⟩ := x.fn_law_told
    exact ⟨fd, FnOK.keeps h1 hk, h2⟩
  fn_law_under := by
    obtain ⟨fd, h1, h2⟩ := x.fn_law_under
    exact ⟨fd, FnOK.keeps h1 hk, h2⟩
  fn_law_twos := by
    obtain ⟨fd, h1, h2⟩ := x.fn_law_twos
    exact ⟨fd, FnOK.keeps h1 hk, h2⟩
  fn_law := by
    obtain ⟨fd, h1, h2⟩ := x.fn_law
    exact ⟨fd, FnOK.keeps h1 hk, h2⟩
/-! _law_under -/
noncomputable def law_under_nm : List Str := [Str.ofString "entry"]
theorem law_under_nd : law_under_nm.Nodup := by decide +kernel
noncomputable def law_under_s1 : SF := (retS (binE getO (varE 0) (valE (.int 0))))
noncomputable def law_under_F : SF := (seqS law_under_s1
  skipS)
theorem law_under_sim (hG : Facts g) : SimSs prog w g 0 (namesOf law_under_st) law_under_nm (bodyOf law_under_st) law_under_F := by
  exact (simss_cons (sims_ret (sim_sub (sim_var 0 rfl (by kernel_rfl)) sim_int (prim_get fun _ _ => rfl)))
  simss_nil)
noncomputable def op_law_under_1 : CF := plainF 1 0 law_under_F
theorem call_law_under_1 (hG : Facts g) : PrimC prog w g 1 (.ref 96) op_law_under_1 :=
  prim_fnP (locs := []) 1 (hG.fn_law_under).choose_spec.1 (law_under_sim hG) rfl law_under_nd 0 rfl (hG.fn_law_under).choose_spec.2
/-! bisect_right -/
noncomputable def bisect_right_nm : List Str := [Str.ofString "a", Str.ofString "x", Str.ofString "lo", Str.ofString "hi", Str.ofString "key", Str.ofString "mid"]
theorem bisect_right_nd : bisect_right_nm.Nodup := by decide +kernel
noncomputable def bisect_right_s1 : SF := (asgS 3 (callE lenO (consEs (varE 0) nilEs)))
noncomputable def bisect_right_s2 : SF := (asgS 5 (binE fdivO (binE addO (varE 2) (varE 3)) (valE (.int 2))))
noncomputable def bisect_right_s3 : SF := (asgS 3 (varE 5))
noncomputable def bisect_right_s4 : SF := (asgS 2 (binE addO (varE 5) (valE (.int 1))))
noncomputable def bisect_right_b1 : SF := (seqS bisect_right_s2
  (seqS (ifS (cmpT ltO (varE 1) (binE getO (varE 0) (varE 5))) (seqS bisect_right_s3
  skipS) (seqS bisect_right_s4
  skipS))
  skipS))
noncomputable def bisect_right_s5 : SF := (asgS 5 (binE fdivO (binE addO (varE 2) (varE 3)) (valE (.int 2))))
noncomputable def bisect_right_s6 : SF := (asgS 3 (varE 5))
noncomputable def bisect_right_s7 : SF := (asgS 2 (binE addO (varE 5) (valE (.int 1))))
noncomputable def bisect_right_b2 : SF := (seqS bisect_right_s5
  (seqS (ifS (cmpT ltO (varE 1) (callVE 4 96 op_law_under_1 (consEs (binE getO (varE 0) (varE 5)) nilEs))) (seqS bisect_right_s6
  skipS) (seqS bisect_right_s7
  skipS))
  skipS))
noncomputable def bisect_right_s8 : SF := (retS (varE 2))
noncomputable def bisect_right_F : SF := (seqS (ifS (cmpT ltO (varE 2) (valE (.int 0))) (seqS noneS
  skipS) skipS)
  (seqS (ifS (cmpT isO (varE 3) (valE (.con .none))) (seqS bisect_right_s1
  skipS) skipS)
  (seqS (ifS (cmpT isO (varE 4) (valE (.con .none))) (seqS (whileGo (cmpT ltO (varE 2) (varE 3)) bisect_right_b1 skipS 65536)
  skipS) (seqS (whileGo (cmpT ltO (varE 2) (varE 3)) bisect_right_b2 skipS 65536)
  skipS))
  (seqS bisect_right_s8
  skipS))))
theorem bisect_right_sim (hG : Facts g) : SimSs prog w g 1 (namesOf bisect_right_st) bisect_right_nm (bodyOf bisect_right_st) bisect_right_F := by
  exact (simss_cons (sims_if (simt_cmp (sim_var 2 rfl (by kernel_rfl)) sim_int prim_lt rfl) (simss_cons sims_never
  simss_nil) simss_nil)
  (simss_cons (sims_if (simt_cmp (sim_var 3 rfl (by kernel_rfl)) sim_none prim_is rfl) (simss_cons (sims_assign 3 (sim_callB (by kernel_rfl) (by kernel_rfl) hG.gl_len (sims_cons (sim_var 0 rfl (by kernel_rfl)) sims_nil fun _ => rfl) ⟨⟨_, _, rfl, fun _ => rfl⟩, fun _ _ => rfl⟩ prim_len) rfl (by kernel_rfl) bisect_right_nd fun _ => rfl)
  simss_nil) simss_nil)
  (simss_cons (sims_if (simt_cmp (sim_var 4 rfl (by kernel_rfl)) sim_none prim_is rfl) (simss_cons (sims_while 65536 (simt_cmp (sim_var 2 rfl (by kernel_rfl)) (sim_var 3 rfl (by kernel_rfl)) prim_lt rfl) (simss_cons (sims_assign 5 (sim_bin (sim_bin (sim_var 2 rfl (by kernel_rfl)) (sim_var 3 rfl (by kernel_rfl)) prim_add) sim_int prim_fdiv) rfl (by kernel_rfl) bisect_right_nd fun _ => rfl)
  (simss_cons (sims_if (simt_cmp (sim_var 1 rfl (by kernel_rfl)) (sim_sub (sim_var 0 rfl (by kernel_rfl)) (sim_var 5 rfl (by kernel_rfl)) (prim_get fun _ _ => rfl)) prim_lt rfl) (simss_cons (sims_assign 3 (sim_var 5 rfl (by kernel_rfl)) rfl (by kernel_rfl) bisect_right_nd fun _ => rfl)
  simss_nil) (simss_cons (sims_assign 2 (sim_bin (sim_var 5 rfl (by kernel_rfl)) sim_int prim_add) rfl (by kernel_rfl) bisect_right_nd fun _ => rfl)
  simss_nil))
  simss_nil)) simss_nil)
  simss_nil) (simss_cons (sims_while 65536 (simt_cmp (sim_var 2 rfl (by kernel_rfl)) (sim_var 3 rfl (by kernel_rfl)) prim_lt rfl) (simss_cons (sims_assign 5 (sim_bin (sim_bin (sim_var 2 rfl (by kernel_rfl)) (sim_var 3 rfl (by kernel_rfl)) prim_add) sim_int prim_fdiv) rfl (by kernel_rfl) bisect_right_nd fun _ => rfl)
  (simss_cons (sims_if (simt_cmp (sim_var 1 rfl (by kernel_rfl)) (sim_callV 4 rfl (by kernel_rfl) hG.ob_law_under (sims_cons (sim_sub (sim_var 0 rfl (by kernel_rfl)) (sim_var 5 rfl (by kernel_rfl)) (prim_get fun _ _ => rfl)) sims_nil fun _ => rfl) ⟨⟨_, _, rfl, fun _ => rfl⟩, fun _ _ => rfl⟩ (call_law_under_1 hG |>.up (by decide))) prim_lt rfl) (simss_cons (sims_assign 3 (sim_var 5 rfl (by kernel_rfl)) rfl (by kernel_rfl) bisect_right_nd fun _ => rfl)
  simss_nil) (simss_cons (sims_assign 2 (sim_bin (sim_var 5 rfl (by kernel_rfl)) sim_int prim_add) rfl (by kernel_rfl) bisect_right_nd fun _ => rfl)
  simss_nil))
  simss_nil)) simss_nil)
  simss_nil))
  (simss_cons (sims_ret (sim_var 2 rfl (by kernel_rfl)))
  simss_nil))))
noncomputable def op_bisect_right_4 : CF := fillF 4 1 bisect_right_F [.con .none]
theorem call_bisect_right_4 (hG : Facts g) : PrimC prog w g 2 (.ref 32) op_bisect_right_4 :=
  prim_fnD (locs := [Str.ofString "mid"]) 4 (hG.fn_bisect_right).choose_spec.1 (bisect_right_sim hG) rfl bisect_right_nd 1 rfl (hG.fn_bisect_right).choose_spec.2.1
noncomputable def op_bisect_right_4k : KF := fillK 4 1 bisect_right_F
theorem call_bisect_right_4k (hG : Facts g) : PrimK prog w g 2 (.ref 32) (Str.ofString "key") op_bisect_right_4k :=
  prim_fnK (locs := [Str.ofString "mid"]) 4 (hG.fn_bisect_right).choose_spec.1 (bisect_right_sim hG) rfl bisect_right_nd 1 rfl (hG.fn_bisect_right).choose_spec.2.2.1
/-! bisect_left -/
noncomputable def bisect_left_nm : List Str := [Str.ofString "a", Str.ofString "x", Str.ofString "lo", Str.ofString "hi", Str.ofString "key", Str.ofString "mid"]
theorem bisect_left_nd : bisect_left_nm.Nodup := by decide +kernel
noncomputable def bisect_left_s1 : SF := (asgS 3 (callE lenO (consEs (varE 0) nilEs)))
noncomputable def bisect_left_s2 : SF := (asgS 5 (binE fdivO (binE addO (varE 2) (varE 3)) (valE (.int 2))))
noncomputable def bisect_left_s3 : SF := (asgS 2 (binE addO (varE 5) (valE (.int 1))))
noncomputable def bisect_left_s4 : SF := (asgS 3 (varE 5))
noncomputable def bisect_left_b1 : SF := (seqS bisect_left_s2
  (seqS (ifS (cmpT ltO (binE getO (varE 0) (varE 5)) (varE 1)) (seqS bisect_left_s3
  skipS) (seqS bisect_left_s4
  skipS))
  skipS))
noncomputable def bisect_left_s5 : SF := (asgS 5 (binE fdivO (binE addO (varE 2) (varE 3)) (valE (.int 2))))
noncomputable def bisect_left_s6 : SF := (asgS 2 (binE addO (varE 5) (valE (.int 1))))
noncomputable def bisect_left_s7 : SF := (asgS 3 (varE 5))
noncomputable def bisect_left_b2 : SF := (seqS bisect_left_s5
  (seqS (ifS (cmpT ltO (callVE 4 96 op_law_under_1 (consEs (binE getO (varE 0) (varE 5)) nilEs)) (varE 1)) (seqS bisect_left_s6
  skipS) (seqS bisect_left_s7
  skipS))
  skipS))
noncomputable def bisect_left_s8 : SF := (retS (varE 2))
noncomputable def bisect_left_F : SF := (seqS (ifS (cmpT ltO (varE 2) (valE (.int 0))) (seqS noneS
  skipS) skipS)
  (seqS (ifS (cmpT isO (varE 3) (valE (.con .none))) (seqS bisect_left_s1
  skipS) skipS)
  (seqS (ifS (cmpT isO (varE 4) (valE (.con .none))) (seqS (whileGo (cmpT ltO (varE 2) (varE 3)) bisect_left_b1 skipS 65536)
  skipS) (seqS (whileGo (cmpT ltO (varE 2) (varE 3)) bisect_left_b2 skipS 65536)
  skipS))
  (seqS bisect_left_s8
  skipS))))
theorem bisect_left_sim (hG : Facts g) : SimSs prog w g 1 (namesOf bisect_left_st) bisect_left_nm (bodyOf bisect_left_st) bisect_left_F := by
  exact (simss_cons (sims_if (simt_cmp (sim_var 2 rfl (by kernel_rfl)) sim_int prim_lt rfl) (simss_cons sims_never
  simss_nil) simss_nil)
  (simss_cons (sims_if (simt_cmp (sim_var 3 rfl (by kernel_rfl)) sim_none prim_is rfl) (simss_cons (sims_assign 3 (sim_callB (by kernel_rfl) (by kernel_rfl) hG.gl_len (sims_cons (sim_var 0 rfl (by kernel_rfl)) sims_nil fun _ => rfl) ⟨⟨_, _, rfl, fun _ => rfl⟩, fun _ _ => rfl⟩ prim_len) rfl (by kernel_rfl) bisect_left_nd fun _ => rfl)
  simss_nil) simss_nil)
  (simss_cons (sims_if (simt_cmp (sim_var 4 rfl (by kernel_rfl)) sim_none prim_is rfl) (simss_cons (sims_while 65536 (simt_cmp (sim_var 2 rfl (by kernel_rfl)) (sim_var 3 rfl (by kernel_rfl)) prim_lt rfl) (simss_cons (sims_assign 5 (sim_bin (sim_bin (sim_var 2 rfl (by kernel_rfl)) (sim_var 3 rfl (by kernel_rfl)) prim_add) sim_int prim_fdiv) rfl (by kernel_rfl) bisect_left_nd fun _ => rfl)
  (simss_cons (sims_if (simt_cmp (sim_sub (sim_var 0 rfl (by kernel_rfl)) (sim_var 5 rfl (by kernel_rfl)) (prim_get fun _ _ => rfl)) (sim_var 1 rfl (by kernel_rfl)) prim_lt rfl) (simss_cons (sims_assign 2 (sim_bin (sim_var 5 rfl (by kernel_rfl)) sim_int prim_add) rfl (by kernel_rfl) bisect_left_nd fun _ => rfl)
  simss_nil) (simss_cons (sims_assign 3 (sim_var 5 rfl (by kernel_rfl)) rfl (by kernel_rfl) bisect_left_nd fun _ => rfl)
  simss_nil))
  simss_nil)) simss_nil)
  simss_nil) (simss_cons (sims_while 65536 (simt_cmp (sim_var 2 rfl (by kernel_rfl)) (sim_var 3 rfl (by kernel_rfl)) prim_lt rfl) (simss_cons (sims_assign 5 (sim_bin (sim_bin (sim_var 2 rfl (by kernel_rfl)) (sim_var 3 rfl (by kernel_rfl)) prim_add) sim_int prim_fdiv) rfl (by kernel_rfl) bisect_left_nd fun _ => rfl)
  (simss_cons (sims_if (simt_cmp (sim_callV 4 rfl (by kernel_rfl) hG.ob_law_under (sims_cons (sim_sub (sim_var 0 rfl (by kernel_rfl)) (sim_var 5 rfl (by kernel_rfl)) (prim_get fun _ _ => rfl)) sims_nil fun _ => rfl) ⟨⟨_, _, rfl, fun _ => rfl⟩, fun _ _ => rfl⟩ (call_law_under_1 hG |>.up (by decide))) (sim_var 1 rfl (by kernel_rfl)) prim_lt rfl) (simss_cons (sims_assign 2 (sim_bin (sim_var 5 rfl (by kernel_rfl)) sim_int prim_add) rfl (by kernel_rfl) bisect_left_nd fun _ => rfl)
  simss_nil) (simss_cons (sims_assign 3 (sim_var 5 rfl (by kernel_rfl)) rfl (by kernel_rfl) bisect_left_nd fun _ => rfl)
  simss_nil))
  simss_nil)) simss_nil)
  simss_nil))
  (simss_cons (sims_ret (sim_var 2 rfl (by kernel_rfl)))
  simss_nil))))
noncomputable def op_bisect_left_2 : CF := fillF 2 1 bisect_left_F [.int 0, .con .none, .con .none]
theorem call_bisect_left_2 (hG : Facts g) : PrimC prog w g 2 (.ref 41) op_bisect_left_2 :=
  prim_fnD (locs := [Str.ofString "mid"]) 2 (hG.fn_bisect_left).choose_spec.1 (bisect_left_sim hG) rfl bisect_left_nd 1 rfl (hG.fn_bisect_left).choose_spec.2.2.2.1
/-! insort_right -/
noncomputable def insort_right_nm : List Str := [Str.ofString "a", Str.ofString "x", Str.ofString "lo", Str.ofString "hi", Str.ofString "key"]
theorem insort_right_nd : insort_right_nm.Nodup := by decide +kernel
noncomputable def insort_right_s1 : SF := (asgS 2 (callE op_bisect_right_4 (consEs (varE 0) (consEs (varE 1) (consEs (varE 2) (consEs (varE 3) nilEs))))))
noncomputable def insort_right_s2 : SF := (asgS 2 (callKE op_bisect_right_4k (consEs (varE 0) (consEs (callVE 4 96 op_law_under_1 (consEs (varE 1) nilEs)) (consEs (varE 2) (consEs (varE 3) nilEs)))) (varE 4)))
noncomputable def insort_right_s3 : SF := (exprS (methO okL insO (varE 0) (consEs (varE 2) (consEs (varE 1) nilEs))))
noncomputable def insort_right_F : SF := (seqS (ifS (cmpT isO (varE 4) (valE (.con .none))) (seqS insort_right_s1
  skipS) (seqS insort_right_s2
  skipS))
  (seqS insort_right_s3
  skipS))
theorem insort_right_sim (hG : Facts g) : SimSs prog w g 2 (namesOf insort_right_st) insort_right_nm (bodyOf insort_right_st) insort_right_F := by
  exact (simss_cons (sims_if (simt_cmp (sim_var 4 rfl (by kernel_rfl)) sim_none prim_is rfl) (simss_cons (sims_assign 2 (sim_callF (by kernel_rfl) (by kernel_rfl) hG.gl_bisect_right hG.ob_bisect_right (sims_cons (sim_var 0 rfl (by kernel_rfl)) (sims_cons (sim_var 1 rfl (by kernel_rfl)) (sims_cons (sim_var 2 rfl (by kernel_rfl)) (sims_cons (sim_var 3 rfl (by kernel_rfl)) sims_nil fun _ => rfl) fun _ => rfl) fun _ => rfl) fun _ => rfl) ⟨⟨_, _, rfl, fun _ => rfl⟩, fun _ _ => rfl⟩ (call_bisect_right_4 hG |>.up (by decide))) rfl (by kernel_rfl) insort_right_nd fun _ => rfl)
  simss_nil) (simss_cons (sims_assign 2 (sim_callK (by kernel_rfl) (by kernel_rfl) hG.gl_bisect_right hG.ob_bisect_right (sims_cons (sim_var 0 rfl (by kernel_rfl)) (sims_cons (sim_callV 4 rfl (by kernel_rfl) hG.ob_law_under (sims_cons (sim_var 1 rfl (by kernel_rfl)) sims_nil fun _ => rfl) ⟨⟨_, _, rfl, fun _ => rfl⟩, fun _ _ => rfl⟩ (call_law_under_1 hG |>.up (by decide))) (sims_cons (sim_var 2 rfl (by kernel_rfl)) (sims_cons (sim_var 3 rfl (by kernel_rfl)) sims_nil fun _ => rfl) fun _ => rfl) fun _ => rfl) fun _ => rfl) ⟨⟨_, _, rfl, fun _ => rfl⟩, fun _ _ => rfl⟩ (sim_var 4 rfl (by kernel_rfl)) (call_bisect_right_4k hG |>.up (by decide))) rfl (by kernel_rfl) insort_right_nd fun _ => rfl)
  simss_nil))
  (simss_cons (sims_expr (sim_meth (sim_var 0 rfl (by kernel_rfl)) (sims_cons (sim_var 2 rfl (by kernel_rfl)) (sims_cons (sim_var 1 rfl (by kernel_rfl)) sims_nil fun _ => rfl) fun _ => rfl) ⟨⟨_, _, rfl, fun _ => rfl⟩, fun _ _ => rfl⟩ prim_insert (meth_eq (fun _ => rfl) (fun _ => rfl) rfl)) (fun _ eo => inter_false eo) fun _ => rfl)
  simss_nil))
noncomputable def op_insort_right_2 : CF := fillF 2 0 insort_right_F [.int 0, .con .none, .con .none]
theorem call_insort_right_2 (hG : Facts g) : PrimC prog w g 3 (.ref 23) op_insort_right_2 :=
  prim_fnD (locs := []) 2 (hG.fn_insort_right).choose_spec.1 (insort_right_sim hG) rfl insort_right_nd 0 rfl (hG.fn_insort_right).choose_spec.2.2.2.1
noncomputable def op_insort_right_2k : KF := fillDK 2 0 insort_right_F [.int 0, .con .none]
theorem call_insort_right_2k (hG : Facts g) : PrimK prog w g 3 (.ref 23) (Str.ofString "key") op_insort_right_2k :=
  prim_fnDK (locs := []) 2 (hG.fn_insort_right).choose_spec.1 (insort_right_sim hG) rfl insort_right_nd 0 rfl (hG.fn_insort_right).choose_spec.2.2.2.2
/-! pretty_flags -/
noncomputable def pretty_flags_nm : List Str := [Str.ofString "flags", Str.ofString "names", Str.ofString "i", Str.ofString "flag"]
theorem pretty_flags_nd : pretty_flags_nm.Nodup := by decide +kernel
noncomputable def pretty_flags_s1 : SF := (asgS 1 (lstE nilEs))
noncomputable def pretty_flags_s2 : SF := (asgS 3 (binE shlO (valE (.int 1)) (varE 2)))
noncomputable def pretty_flags_s3 : SF := (exprS (methO okL appO (varE 1) (consEs (methO (okD tabA) tabO (valE (.con (.ref 42))) (consEs (varE 3) (consEs (callE hexO (consEs (varE 3) nilEs)) nilEs))) nilEs)))
noncomputable def pretty_flags_s4 : SF := (augS 0 ixorO (varE 3))
noncomputable def pretty_flags_b1 : SF := (seqS pretty_flags_s2
  (seqS (ifS (valT (binE andO (varE 0) (varE 3))) (seqS pretty_flags_s3
  (seqS pretty_flags_s4
  (seqS (ifS (notT (valT (varE 0))) (seqS brkS
  skipS) skipS)
  skipS))) skipS)
  skipS))
noncomputable def pretty_flags_s5 : SF := (exprS (methO okL appO (varE 1) (consEs (callE hexO (consEs (varE 0) nilEs)) nilEs)))
noncomputable def pretty_flags_e1 : SF := (seqS pretty_flags_s5
  skipS)
noncomputable def pretty_flags_s6 : SF := (retS (methO okS joinO (valE (.str (Str.ofString ", "))) (consEs (varE 1) nilEs)))
noncomputable def pretty_flags_F : SF := (seqS pretty_flags_s1
  (seqS (forS false 65536 (nameA 2) (rngI (rngF (consEs (valE (.int 32)) nilEs))) pretty_flags_b1 pretty_flags_e1)
  (seqS pretty_flags_s6
  skipS)))
theorem pretty_flags_sim (hG : Facts g) : SimSs prog w g 0 (namesOf pretty_flags_st) pretty_flags_nm (bodyOf pretty_flags_st) pretty_flags_F := by
  exact (simss_cons (sims_assign 1 (sim_list sims_nil) rfl (by kernel_rfl) pretty_flags_nd fun _ => rfl)
  (simss_cons (sims_for (xs := [Str.ofString "i"]) 65536 (sima_name 2 rfl (by kernel_rfl) pretty_flags_nd (List.Mem.head _)) (simi_range (simr_range (by kernel_rfl) (by kernel_rfl) hG.gl_range (sims_cons sim_int sims_nil fun _ => rfl) ⟨⟨_, _, rfl, fun _ => rfl⟩, fun _ _ => rfl⟩)) (simss_cons (sims_assign 3 (sim_bin sim_int (sim_var 2 rfl (by kernel_rfl)) prim_shl) rfl (by kernel_rfl) pretty_flags_nd fun _ => rfl)
  (simss_cons (sims_if (simt_val (sim_bin (sim_var 0 rfl (by kernel_rfl)) (sim_var 3 rfl (by kernel_rfl)) prim_and) fun _ _ => rfl) (simss_cons (sims_expr (sim_meth (sim_var 1 rfl (by kernel_rfl)) (sims_cons (sim_meth (sim_glob (.ref 42) (by kernel_rfl) (by kernel_rfl) hG.gl_COMPILER_FLAG_NAMES) (sims_cons (sim_var 3 rfl (by kernel_rfl)) (sims_cons (sim_callB (by kernel_rfl) (by kernel_rfl) hG.gl_hex (sims_cons (sim_var 3 rfl (by kernel_rfl)) sims_nil fun _ => rfl) ⟨⟨_, _, rfl, fun _ => rfl⟩, fun _ _ => rfl⟩ prim_hex) sims_nil fun _ => rfl) fun _ => rfl) ⟨⟨_, _, rfl, fun _ => rfl⟩, fun _ _ => rfl⟩ hG.get (meth_eq (fun _ => rfl) (fun _ => rfl) rfl)) sims_nil fun _ => rfl) ⟨⟨_, _, rfl, fun _ => rfl⟩, fun _ _ => rfl⟩ prim_append (meth_eq (fun _ => rfl) (fun _ => rfl) rfl)) (fun _ eo => inter_false eo) fun _ => rfl)
  (simss_cons (sims_aug 0 (sim_var 3 rfl (by kernel_rfl)) prim_ixor rfl (by kernel_rfl) pretty_flags_nd)
  (simss_cons (sims_if (simt_not (simt_val (sim_var 0 rfl (by kernel_rfl)) fun _ _ => rfl)) (simss_cons sims_break
  simss_nil) simss_nil)
  simss_nil))) simss_nil)
  simss_nil)) (simss_cons (sims_expr (sim_meth (sim_var 1 rfl (by kernel_rfl)) (sims_cons (sim_callB (by kernel_rfl) (by kernel_rfl) hG.gl_hex (sims_cons (sim_var 0 rfl (by kernel_rfl)) sims_nil fun _ => rfl) ⟨⟨_, _, rfl, fun _ => rfl⟩, fun _ _ => rfl⟩ prim_hex) sims_nil fun _ => rfl) ⟨⟨_, _, rfl, fun _ => rfl⟩, fun _ _ => rfl⟩ prim_append (meth_eq (fun _ => rfl) (fun _ => rfl) rfl)) (fun _ eo => inter_false eo) fun _ => rfl)
  simss_nil) rfl fun _ _ => rfl)
  (simss_cons (sims_ret (sim_meth sim_str (sims_cons (sim_var 1 rfl (by kernel_rfl)) sims_nil fun _ => rfl) ⟨⟨_, _, rfl, fun _ => rfl⟩, fun _ _ => rfl⟩ prim_join (meth_eq (fun _ => rfl) (fun _ => rfl) rfl)))
  simss_nil)))
noncomputable def op_pretty_flags_1 : CF := plainF 1 3 pretty_flags_F
theorem call_pretty_flags_1 (hG : Facts g) : PrimC prog w g 1 (.ref 49) op_pretty_flags_1 :=
  prim_fnP (locs := [Str.ofString "names", Str.ofString "i", Str.ofString "flag"]) 1 (hG.fn_pretty_flags).choose_spec.1 (pretty_flags_sim hG) rfl pretty_flags_nd 3 rfl (hG.fn_pretty_flags).choose_spec.2
noncomputable def op_pretty_flags_f : CF := frameG op_pretty_flags_1
theorem call_pretty_flags_f (hG : Facts g) : PrimC prog w g 1 (.ref 49) op_pretty_flags_f := prim_frameG fun _ hk => call_pretty_flags_1 (hG.keeps hk)
/-! _law_word -/
noncomputable def law_word_nm : List Str := [Str.ofString "place", Str.ofString "words"]
theorem law_word_nd : law_word_nm.Nodup := by decide +kernel
noncomputable def law_word_s1 : SF := (asgS 1 (lstE (consEs (valE (.str (Str.ofString "OPTIMIZED"))) (consEs (valE (.str (Str.ofString "NEWLOCALS"))) (consEs (valE (.str (Str.ofString "VARARGS"))) (consEs (valE (.str (Str.ofString "VARKEYWORDS"))) (consEs (valE (.str (Str.ofString "NESTED"))) (consEs (valE (.str (Str.ofString "GENERATOR"))) (consEs (valE (.str (Str.ofString "NOFREE"))) nilEs)))))))))
noncomputable def law_word_s2 : SF := (augS 1 iaddO (lstE (consEs (valE (.str (Str.ofString "COROUTINE"))) (consEs (valE (.str (Str.ofString "ITERABLE_COROUTINE"))) (consEs (valE (.str (Str.ofString "ASYNC_GENERATOR"))) nilEs)))))
noncomputable def law_word_s3 : SF := (retS (binE getO (varE 1) (varE 0)))
noncomputable def law_word_s4 : SF := (retS (binE addO (binE addO (valE (.str (Str.ofString "0x"))) (binE getO (valE (.str (Str.ofString "1248"))) (binE modO (varE 0) (valE (.int 4))))) (binE mulO (valE (.str (Str.ofString "0"))) (binE fdivO (varE 0) (valE (.int 4))))))
noncomputable def law_word_F : SF := (seqS law_word_s1
  (seqS law_word_s2
  (seqS (ifS (cmpT ltO (varE 0) (valE (.int 10))) (seqS law_word_s3
  skipS) skipS)
  (seqS law_word_s4
  skipS))))
theorem law_word_sim (hG : Facts g) : SimSs prog w g 0 (namesOf law_word_st) law_word_nm (bodyOf law_word_st) law_word_F := by
  exact (simss_cons (sims_assign 1 (sim_list (sims_cons sim_str (sims_cons sim_str (sims_cons sim_str (sims_cons sim_str (sims_cons sim_str (sims_cons sim_str (sims_cons sim_str sims_nil fun _ => rfl) fun _ => rfl) fun _ => rfl) fun _ => rfl) fun _ => rfl) fun _ => rfl) fun _ => rfl)) rfl (by kernel_rfl) law_word_nd fun _ => rfl)
  (simss_cons (sims_aug 1 (sim_list (sims_cons sim_str (sims_cons sim_str (sims_cons sim_str sims_nil fun _ => rfl) fun _ => rfl) fun _ => rfl)) prim_iadd rfl (by kernel_rfl) law_word_nd)
  (simss_cons (sims_if (simt_cmp (sim_var 0 rfl (by kernel_rfl)) sim_int prim_lt rfl) (simss_cons (sims_ret (sim_sub (sim_var 1 rfl (by kernel_rfl)) (sim_var 0 rfl (by kernel_rfl)) (prim_get fun _ _ => rfl)))
  simss_nil) simss_nil)
  (simss_cons (sims_ret (sim_bin (sim_bin sim_str (sim_sub sim_str (sim_bin (sim_var 0 rfl (by kernel_rfl)) sim_int prim_mod) (prim_get fun _ _ => rfl)) prim_add) (sim_bin sim_str (sim_bin (sim_var 0 rfl (by kernel_rfl)) sim_int prim_fdiv) prim_mul) prim_add))
  simss_nil))))
noncomputable def op_law_word_1 : CF := plainF 1 1 law_word_F
theorem call_law_word_1 (hG : Facts g) : PrimC prog w g 1 (.ref 63) op_law_word_1 :=
  prim_fnP (locs := [Str.ofString "words"]) 1 (hG.fn_law_word).choose_spec.1 (law_word_sim hG) rfl law_word_nd 1 rfl (hG.fn_law_word).choose_spec.2
noncomputable def op_law_word_f : CF := frameG op_law_word_1
theorem call_law_word_f (hG : Facts g) : PrimC prog w g 1 (.ref 63) op_law_word_f := prim_frameG fun _ hk => call_law_word_1 (hG.keeps hk)
/-! _law_places -/
noncomputable def law_places_nm : List Str := [Str.ofString "cells", Str.ofString "left", Str.ofString "places", Str.ofString "cell"]
theorem law_places_nd : law_places_nm.Nodup := by decide +kernel
noncomputable def law_places_s1 : SF := (swpS 1 2 (tupE (consEs (lstRngE (rngF (consEs (valE (.int 32)) nilEs))) (consEs (lstE nilEs) nilEs))))
noncomputable def law_places_s2 : SF := (exprS (methO okL appO (varE 2) (consEs (methO okL popO (varE 1) (consEs (binE modO (varE 3) (callE lenO (consEs (varE 1) nilEs))) nilEs)) nilEs)))
noncomputable def law_places_b1 : SF := (seqS law_places_s2
  skipS)
noncomputable def law_places_s3 : SF := (retS (varE 2))
noncomputable def law_places_F : SF := (seqS law_places_s1
  (seqS (forS false 65536 (nameA 3) (seqI (varE 0)) law_places_b1 skipS)
  (seqS law_places_s3
  skipS)))
theorem law_places_sim (hG : Facts g) : SimSs prog w g 0 (namesOf law_places_st) law_places_nm (bodyOf law_places_st) law_places_F := by
  exact (simss_cons (sims_swap 1 2 (sim_tup (sims_cons (sim_listRange (by kernel_rfl) (by kernel_rfl) hG.gl_list (simr_range (by kernel_rfl) (by kernel_rfl) hG.gl_range (sims_cons sim_int sims_nil fun _ => rfl) ⟨⟨_, _, rfl, fun _ => rfl⟩, fun _ _ => rfl⟩) fun _ => rfl) (sims_cons (sim_list sims_nil) sims_nil fun _ => rfl) fun _ => rfl)) (fun _ => rfl) (swapped_of (by kernel_rfl)) rfl (by kernel_rfl) rfl (by kernel_rfl) law_places_nd)
  (simss_cons (sims_for (xs := [Str.ofString "cell"]) 65536 (sima_name 3 rfl (by kernel_rfl) law_places_nd (List.Mem.head _)) (simi_seq (sim_var 0 rfl (by kernel_rfl))) (simss_cons (sims_expr (sim_meth (sim_var 2 rfl (by kernel_rfl)) (sims_cons (sim_meth (sim_var 1 rfl (by kernel_rfl)) (sims_cons (sim_bin (sim_var 3 rfl (by kernel_rfl)) (sim_callB (by kernel_rfl) (by kernel_rfl) hG.gl_len (sims_cons (sim_var 1 rfl (by kernel_rfl)) sims_nil fun _ => rfl) ⟨⟨_, _, rfl, fun _ => rfl⟩, fun _ _ => rfl⟩ prim_len) prim_mod) sims_nil fun _ => rfl) ⟨⟨_, _, rfl, fun _ => rfl⟩, fun _ _ => rfl⟩ prim_pop (meth_eq (fun _ => rfl) (fun _ => rfl) rfl)) sims_nil fun _ => rfl) ⟨⟨_, _, rfl, fun _ => rfl⟩, fun _ _ => rfl⟩ prim_append (meth_eq (fun _ => rfl) (fun _ => rfl) rfl)) (fun _ eo => inter_false eo) fun _ => rfl)
  simss_nil) simss_nil rfl fun _ _ => rfl)
  (simss_cons (sims_ret (sim_var 2 rfl (by kernel_rfl)))
  simss_nil)))
noncomputable def op_law_places_1 : CF := plainF 1 3 law_places_F
theorem call_law_places_1 (hG : Facts g) : PrimC prog w g 1 (.ref 70) op_law_places_1 :=
  prim_fnP (locs := [Str.ofString "left", Str.ofString "places", Str.ofString "cell"]) 1 (hG.fn_law_places).choose_spec.1 (law_places_sim hG) rfl law_places_nd 3 rfl (hG.fn_law_places).choose_spec.2
noncomputable def op_law_places_f : CF := frameG op_law_places_1
theorem call_law_places_f (hG : Facts g) : PrimC prog w g 1 (.ref 70) op_law_places_f := prim_frameG fun _ hk => call_law_places_1 (hG.keeps hk)
/-! _law_tape -/
noncomputable def law_tape_nm : List Str := [Str.ofString "places", Str.ofString "code", Str.ofString "size", Str.ofString "words", Str.ofString "tape", Str.ofString "turn", Str.ofString "choice", Str.ofString "number", Str.ofString "told", Str.ofString "lacks"]
theorem law_tape_nd : law_tape_nm.Nodup := by decide +kernel
noncomputable def law_tape_s1 : SF := (asgS 2 (binE powO (valE (.int 2)) (callE lenO (consEs (varE 0) nilEs))))
noncomputable def law_tape_nm1 : List Str := [Str.ofString "place"]
theorem law_tape_nm1_nd : law_tape_nm1.Nodup := by decide +kernel
noncomputable def law_tape_s2 : SF := (asgS 3 (compE false 65536 [none] (seqI (varE 0)) (nameA 0) trueT (callE op_law_word_f (consEs (varE 0) nilEs))))
noncomputable def law_tape_s3 : SF := (asgS 4 (lstE nilEs))
noncomputable def law_tape_s4 : SF := (asgS 6 (binE modO (binE addO (varE 1) (binE mulO (binE addO (binE mulO (valE (.int 2)) (binE fdivO (varE 1) (varE 2))) (valE (.int 1))) (varE 5))) (varE 2)))
noncomputable def law_tape_nm2 : List Str := [Str.ofString "rank", Str.ofString "place", Str.ofString "choice"]
theorem law_tape_nm2_nd : law_tape_nm2.Nodup := by decide +kernel
noncomputable def law_tape_s5 : SF := (asgS 7 (callE sumO (consEs (compE true 65536 [none, none, some 6] (enumI (consEs (varE 0) nilEs)) (tupA 2 (consA (nameA 0) (consA (nameA 1) nilA))) (cmpT eqO (binE modO (binE shrO (varE 2) (varE 0)) (valE (.int 2))) (valE (.int 1))) (binE shlO (valE (.int 1)) (varE 1))) nilEs)))
noncomputable def law_tape_s6 : SF := (asgS 8 (methO okS splO (callE op_pretty_flags_f (consEs (varE 7) nilEs)) (consEs (valE (.str (Str.ofString ", "))) nilEs)))
noncomputable def law_tape_nm3 : List Str := [Str.ofString "word", Str.ofString "told"]
theorem law_tape_nm3_nd : law_tape_nm3.Nodup := by decide +kernel
noncomputable def law_tape_s7 : SF := (asgS 9 (compE false 65536 [none, some 8] (seqI (varE 3)) (nameA 0) trueT (ifE (cmpT inO (varE 0) (varE 1)) (valE (.int 0)) (valE (.int 1)))))
noncomputable def law_tape_s8 : SF := (augS 4 iaddO (binE addO (varE 9) (lstE (consEs (binE subO (callE lenO (consEs (varE 3) nilEs)) (callE sumO (consEs (varE 9) nilEs))) nilEs))))
noncomputable def law_tape_b1 : SF := (seqS law_tape_s4
  (seqS law_tape_s5
  (seqS law_tape_s6
  (seqS law_tape_s7
  (seqS law_tape_s8
  skipS)))))
noncomputable def law_tape_s9 : SF := (retS (callE bytO (consEs (varE 4) nilEs)))
noncomputable def law_tape_F : SF := (seqS law_tape_s1
  (seqS law_tape_s2
  (seqS law_tape_s3
  (seqS (forS false 65536 (nameA 5) (rngI (rngF (consEs (varE 2) nilEs))) law_tape_b1 skipS)
  (seqS law_tape_s9
  skipS)))))
theorem law_tape_sim (hG : Facts g) : SimSs prog w g 1 (namesOf law_tape_st) law_tape_nm (bodyOf law_tape_st) law_tape_F := by
  exact (simss_cons (sims_assign 2 (sim_bin sim_int (sim_callB (by kernel_rfl) (by kernel_rfl) hG.gl_len (sims_cons (sim_var 0 rfl (by kernel_rfl)) sims_nil fun _ => rfl) ⟨⟨_, _, rfl, fun _ => rfl⟩, fun _ _ => rfl⟩ prim_len) prim_pow) rfl (by kernel_rfl) law_tape_nd fun _ => rfl)
  (simss_cons (sims_assignComp 3 false 65536 law_tape_nm1 [none] [Str.ofString "place"] (CompOK.of (by kernel_rfl)) (simi_seq (sim_var 0 rfl (by kernel_rfl))) (sima_name 0 rfl (by kernel_rfl) law_tape_nm1_nd (List.Mem.head _)) simifs_nil (sim_callF (by kernel_rfl) (by kernel_rfl) hG.gl_law_word hG.ob_law_word (sims_cons (sim_var 0 rfl (by kernel_rfl)) sims_nil fun _ => rfl) ⟨⟨_, _, rfl, fun _ => rfl⟩, fun _ _ => rfl⟩ (call_law_word_f hG |>.up (by decide))) rfl (by decide) (fun _ _ => rfl) rfl (by kernel_rfl) law_tape_nd (fun _ eo => (swaps_of eo).trans (congrArg pure (by kernel_rfl))))
  (simss_cons (sims_assign 4 (sim_list sims_nil) rfl (by kernel_rfl) law_tape_nd fun _ => rfl)
  (simss_cons (sims_for (xs := [Str.ofString "turn"]) 65536 (sima_name 5 rfl (by kernel_rfl) law_tape_nd (List.Mem.head _)) (simi_range (simr_range (by kernel_rfl) (by kernel_rfl) hG.gl_range (sims_cons (sim_var 2 rfl (by kernel_rfl)) sims_nil fun _ => rfl) ⟨⟨_, _, rfl, fun _ => rfl⟩, fun _ _ => rfl⟩)) (simss_cons (sims_assign 6 (sim_bin (sim_bin (sim_var 1 rfl (by kernel_rfl)) (sim_bin (sim_bin (sim_bin sim_int (sim_bin (sim_var 1 rfl (by kernel_rfl)) (sim_var 2 rfl (by kernel_rfl)) prim_fdiv) prim_mul) sim_int prim_add) (sim_var 5 rfl (by kernel_rfl)) prim_mul) prim_add) (sim_var 2 rfl (by kernel_rfl)) prim_mod) rfl (by kernel_rfl) law_tape_nd fun _ => rfl)
  (simss_cons (sims_assign 7 (sim_callB (by kernel_rfl) (by kernel_rfl) hG.gl_sum (sims_cons (sim_comp true 65536 law_tape_nm2 [none, none, some 6] [Str.ofString "rank", Str.ofString "place"] (CompOK.of (by kernel_rfl)) (simi_enum (by kernel_rfl) (by kernel_rfl) hG.gl_enumerate (sims_cons (sim_var 0 rfl (by kernel_rfl)) sims_nil fun _ => rfl) ⟨⟨_, _, rfl, fun _ => rfl⟩, fun _ _ => rfl⟩) (sima_tup (simas_cons (sima_name 0 rfl (by kernel_rfl) law_tape_nm2_nd (List.Mem.head _)) (simas_cons (sima_name 1 rfl (by kernel_rfl) law_tape_nm2_nd (List.Mem.tail _ (List.Mem.head _))) simas_nil fun _ => rfl) fun _ => rfl) (fun _ => rfl) (fun _ => rfl)) (simifs_one (simt_cmp (sim_bin (sim_bin (sim_var 2 rfl (by kernel_rfl)) (sim_var 0 rfl (by kernel_rfl)) prim_shr) sim_int prim_mod) sim_int prim_eq rfl)) (sim_bin sim_int (sim_var 1 rfl (by kernel_rfl)) prim_shl) rfl (by decide) (fun _ _ => rfl)) sims_nil fun _ => rfl) ⟨⟨_, _, rfl, fun _ => rfl⟩, fun _ _ => rfl⟩ prim_sum) rfl (by kernel_rfl) law_tape_nd fun _ => rfl)
  (simss_cons (sims_assign 8 (sim_meth (sim_callF (by kernel_rfl) (by kernel_rfl) hG.gl_pretty_flags hG.ob_pretty_flags (sims_cons (sim_var 7 rfl (by kernel_rfl)) sims_nil fun _ => rfl) ⟨⟨_, _, rfl, fun _ => rfl⟩, fun _ _ => rfl⟩ (call_pretty_flags_f hG |>.up (by decide))) (sims_cons sim_str sims_nil fun _ => rfl) ⟨⟨_, _, rfl, fun _ => rfl⟩, fun _ _ => rfl⟩ prim_split (meth_eq (fun _ => rfl) (fun _ => rfl) rfl)) rfl (by kernel_rfl) law_tape_nd fun _ => rfl)
  (simss_cons (sims_assignComp 9 false 65536 law_tape_nm3 [none, some 8] [Str.ofString "word"] (CompOK.of (by kernel_rfl)) (simi_seq (sim_var 3 rfl (by kernel_rfl))) (sima_name 0 rfl (by kernel_rfl) law_tape_nm3_nd (List.Mem.head _)) simifs_nil (sim_ifexp (simt_cmp (sim_var 0 rfl (by kernel_rfl)) (sim_var 1 rfl (by kernel_rfl)) prim_in rfl) sim_int sim_int) rfl (by decide) (fun _ _ => rfl) rfl (by kernel_rfl) law_tape_nd (fun _ eo => (swaps_of eo).trans (congrArg pure (by kernel_rfl))))
  (simss_cons (sims_aug 4 (sim_bin (sim_var 9 rfl (by kernel_rfl)) (sim_list (sims_cons (sim_bin (sim_callB (by kernel_rfl) (by kernel_rfl) hG.gl_len (sims_cons (sim_var 3 rfl (by kernel_rfl)) sims_nil fun _ => rfl) ⟨⟨_, _, rfl, fun _ => rfl⟩, fun _ _ => rfl⟩ prim_len) (sim_callB (by kernel_rfl) (by kernel_rfl) hG.gl_sum (sims_cons (sim_var 9 rfl (by kernel_rfl)) sims_nil fun _ => rfl) ⟨⟨_, _, rfl, fun _ => rfl⟩, fun _ _ => rfl⟩ prim_sum) prim_sub) sims_nil fun _ => rfl)) prim_add) prim_iadd rfl (by kernel_rfl) law_tape_nd)
  simss_nil))))) simss_nil rfl fun _ _ => rfl)
  (simss_cons (sims_ret (sim_callT (by kernel_rfl) (by kernel_rfl) hG.gl_bytes (sims_cons (sim_var 4 rfl (by kernel_rfl)) sims_nil fun _ => rfl) ⟨⟨_, _, rfl, fun _ => rfl⟩, fun _ _ => rfl⟩ prim_bytes))
  simss_nil)))))
noncomputable def op_law_tape_2 : CF := plainF 2 8 law_tape_F
theorem call_law_tape_2 (hG : Facts g) : PrimC prog w g 2 (.ref 75) op_law_tape_2 :=
  prim_fnP (locs := [Str.ofString "size", Str.ofString "words", Str.ofString "tape", Str.ofString "turn", Str.ofString "choice", Str.ofString "number", Str.ofString "told", Str.ofString "lacks"]) 2 (hG.fn_law_tape).choose_spec.1 (law_tape_sim hG) rfl law_tape_nd 8 rfl (hG.fn_law_tape).choose_spec.2
noncomputable def op_law_tape_f : CF := frameG op_law_tape_2
theorem call_law_tape_f (hG : Facts g) : PrimC prog w g 2 (.ref 75) op_law_tape_f := prim_frameG fun _ hk => call_law_tape_2 (hG.keeps hk)
/-! _law_told -/
noncomputable def law_told_nm : List Str := [Str.ofString "size", Str.ofString "terms", Str.ofString "spot", Str.ofString "ahead", Str.ofString "steps", Str.ofString "dues"]
theorem law_told_nd : law_told_nm.Nodup := by decide +kernel
noncomputable def law_told_s1 : SF := (asgS 1 (lstE (consEs (valE (.int 0)) (consEs (valE (.int 1)) (consEs (valE (.int 1)) nilEs)))))
noncomputable def law_told_s2 : SF := (asgS 3 (binE getO (varE 1) (unE negO (valE (.int 1)))))
noncomputable def law_told_s3 : SF := (exprS (methO okL appO (varE 1) (consEs (binE addO (binE getO (varE 1) (varE 3)) (binE getO (varE 1) (binE subO (varE 2) (varE 3)))) nilEs)))
noncomputable def law_told_b1 : SF := (seqS law_told_s2
  (seqS law_told_s3
  skipS))
noncomputable def law_told_s4 : SF := (swpS 4 5 (tupE (consEs (lstE nilEs) (consEs (lstE nilEs) nilEs))))
noncomputable def law_told_s5 : SF := (exprS (methO okL appO (varE 4) (consEs (binE subO (binE getO (varE 1) (varE 2)) (binE getO (varE 1) (binE subO (varE 2) (valE (.int 1))))) nilEs)))
noncomputable def law_told_s6 : SF := (exprS (methO okL appO (varE 5) (consEs (binE subO (ifE (cmpT eqO (binE getO (varE 4) (unE negO (valE (.int 1)))) (valE (.int 1))) (binE getO (varE 1) (varE 2)) (binE subO (varE 2) (binE getO (varE 1) (varE 2)))) (binE fdivO (varE 0) (valE (.int 2)))) nilEs)))
noncomputable def law_told_b2 : SF := (seqS law_told_s5
  (seqS law_told_s6
  skipS))
noncomputable def law_told_s7 : SF := (retS (tupE (consEs (varE 4) (consEs (varE 5) nilEs))))
noncomputable def law_told_F : SF := (seqS law_told_s1
  (seqS (forS false 65536 (nameA 2) (rngI (rngF (consEs (valE (.int 3)) (consEs (binE addO (binE mulO (valE (.int 2)) (varE 0)) (valE (.int 1))) nilEs)))) law_told_b1 skipS)
  (seqS law_told_s4
  (seqS (forS false 65536 (nameA 2) (rngI (rngF (consEs (binE addO (varE 0) (valE (.int 1))) (consEs (binE addO (binE mulO (valE (.int 2)) (varE 0)) (valE (.int 1))) nilEs)))) law_told_b2 skipS)
  (seqS law_told_s7
  skipS)))))
theorem law_told_sim (hG : Facts g) : SimSs prog w g 0 (namesOf law_told_st) law_told_nm (bodyOf law_told_st) law_told_F := by
  exact (simss_cons (sims_assign 1 (sim_list (sims_cons sim_int (sims_cons sim_int (sims_cons sim_int sims_nil fun _ => rfl) fun _ => rfl) fun _ => rfl)) rfl (by kernel_rfl) law_told_nd fun _ => rfl)
  (simss_cons (sims_for (xs := [Str.ofString "spot"]) 65536 (sima_name 2 rfl (by kernel_rfl) law_told_nd (List.Mem.head _)) (simi_range (simr_range (by kernel_rfl) (by kernel_rfl) hG.gl_range (sims_cons sim_int (sims_cons (sim_bin (sim_bin sim_int (sim_var 0 rfl (by kernel_rfl)) prim_mul) sim_int prim_add) sims_nil fun _ => rfl) fun _ => rfl) ⟨⟨_, _, rfl, fun _ => rfl⟩, fun _ _ => rfl⟩)) (simss_cons (sims_assign 3 (sim_sub (sim_var 1 rfl (by kernel_rfl)) (sim_un sim_int prim_neg) (prim_get fun _ _ => rfl)) rfl (by kernel_rfl) law_told_nd fun _ => rfl)
  (simss_cons (sims_expr (sim_meth (sim_var 1 rfl (by kernel_rfl)) (sims_cons (sim_bin (sim_sub (sim_var 1 rfl (by kernel_rfl)) (sim_var 3 rfl (by kernel_rfl)) (prim_get fun _ _ => rfl)) (sim_sub (sim_var 1 rfl (by kernel_rfl)) (sim_bin (sim_var 2 rfl (by kernel_rfl)) (sim_var 3 rfl (by kernel_rfl)) prim_sub) (prim_get fun _ _ => rfl)) prim_add) sims_nil fun _ => rfl) ⟨⟨_, _, rfl, fun _ => rfl⟩, fun _ _ => rfl⟩ prim_append (meth_eq (fun _ => rfl) (fun _ => rfl) rfl)) (fun _ eo => inter_false eo) fun _ => rfl)
  simss_nil)) simss_nil rfl fun _ _ => rfl)
  (simss_cons (sims_swap 4 5 (sim_tup (sims_cons (sim_list sims_nil) (sims_cons (sim_list sims_nil) sims_nil fun _ => rfl) fun _ => rfl)) (fun _ => rfl) (swapped_of (by kernel_rfl)) rfl (by kernel_rfl) rfl (by kernel_rfl) law_told_nd)
  (simss_cons (sims_for (xs := [Str.ofString "spot"]) 65536 (sima_name 2 rfl (by kernel_rfl) law_told_nd (List.Mem.head _)) (simi_range (simr_range (by kernel_rfl) (by kernel_rfl) hG.gl_range (sims_cons (sim_bin (sim_var 0 rfl (by kernel_rfl)) sim_int prim_add) (sims_cons (sim_bin (sim_bin sim_int (sim_var 0 rfl (by kernel_rfl)) prim_mul) sim_int prim_add) sims_nil fun _ => rfl) fun _ => rfl) ⟨⟨_, _, rfl, fun _ => rfl⟩, fun _ _ => rfl⟩)) (simss_cons (sims_expr (sim_meth (sim_var 4 rfl (by kernel_rfl)) (sims_cons (sim_bin (sim_sub (sim_var 1 rfl (by kernel_rfl)) (sim_var 2 rfl (by kernel_rfl)) (prim_get fun _ _ => rfl)) (sim_sub (sim_var 1 rfl (by kernel_rfl)) (sim_bin (sim_var 2 rfl (by kernel_rfl)) sim_int prim_sub) (prim_get fun _ _ => rfl)) prim_sub) sims_nil fun _ => rfl) ⟨⟨_, _, rfl, fun _ => rfl⟩, fun _ _ => rfl⟩ prim_append (meth_eq (fun _ => rfl) (fun _ => rfl) rfl)) (fun _ eo => inter_false eo) fun _ => rfl)
  (simss_cons (sims_expr (sim_meth (sim_var 5 rfl (by kernel_rfl)) (sims_cons (sim_bin (sim_ifexp (simt_cmp (sim_sub (sim_var 4 rfl (by kernel_rfl)) (sim_un sim_int prim_neg) (prim_get fun _ _ => rfl)) sim_int prim_eq rfl) (sim_sub (sim_var 1 rfl (by kernel_rfl)) (sim_var 2 rfl (by kernel_rfl)) (prim_get fun _ _ => rfl)) (sim_bin (sim_var 2 rfl (by kernel_rfl)) (sim_sub (sim_var 1 rfl (by kernel_rfl)) (sim_var 2 rfl (by kernel_rfl)) (prim_get fun _ _ => rfl)) prim_sub)) (sim_bin (sim_var 0 rfl (by kernel_rfl)) sim_int prim_fdiv) prim_sub) sims_nil fun _ => rfl) ⟨⟨_, _, rfl, fun _ => rfl⟩, fun _ _ => rfl⟩ prim_append (meth_eq (fun _ => rfl) (fun _ => rfl) rfl)) (fun _ eo => inter_false eo) fun _ => rfl)
  simss_nil)) simss_nil rfl fun _ _ => rfl)
  (simss_cons (sims_ret (sim_tup (sims_cons (sim_var 4 rfl (by kernel_rfl)) (sims_cons (sim_var 5 rfl (by kernel_rfl)) sims_nil fun _ => rfl) fun _ => rfl)))
  simss_nil)))))
noncomputable def op_law_told_1 : CF := plainF 1 5 law_told_F
theorem call_law_told_1 (hG : Facts g) : PrimC prog w g 1 (.ref 89) op_law_told_1 :=
  prim_fnP (locs := [Str.ofString "terms", Str.ofString "spot", Str.ofString "ahead", Str.ofString "steps", Str.ofString "dues"]) 1 (hG.fn_law_told).choose_spec.1 (law_told_sim hG) rfl law_told_nd 5 rfl (hG.fn_law_told).choose_spec.2
noncomputable def op_law_told_f : CF := frameG op_law_told_1
theorem call_law_told_f (hG : Facts g) : PrimC prog w g 1 (.ref 89) op_law_told_f := prim_frameG fun _ hk => call_law_told_1 (hG.keeps hk)
/-! _law_twos -/
noncomputable def law_twos_nm : List Str := [Str.ofString "steps", Str.ofString "firsts", Str.ofString "seconds", Str.ofString "twos", Str.ofString "first", Str.ofString "second"]
theorem law_twos_nd : law_twos_nm.Nodup := by decide +kernel
noncomputable def law_twos_nm1 : List Str := [Str.ofString "spot", Str.ofString "step"]
theorem law_twos_nm1_nd : law_twos_nm1.Nodup := by decide +kernel
noncomputable def law_twos_s1 : SF := (asgS 1 (compE true 65536 [none, none] (enumI (consEs (varE 0) nilEs)) (tupA 2 (consA (nameA 0) (consA (nameA 1) nilA))) (cmpT eqO (varE 1) (valE (.int 1))) (varE 0)))
noncomputable def law_twos_nm2 : List Str := [Str.ofString "spot", Str.ofString "step"]
theorem law_twos_nm2_nd : law_twos_nm2.Nodup := by decide +kernel
noncomputable def law_twos_s2 : SF := (asgS 2 (compE true 65536 [none, none] (enumI (consEs (varE 0) nilEs)) (tupA 2 (consA (nameA 0) (consA (nameA 1) nilA))) (cmpT eqO (varE 1) (valE (.int 0))) (varE 0)))
noncomputable def law_twos_s3 : SF := (asgS 3 (lstE nilEs))
noncomputable def law_twos_s4 : SF := (augS 3 iaddO (lstE (consEs (varE 4) (consEs (varE 5) nilEs))))
noncomputable def law_twos_b1 : SF := (seqS law_twos_s4
  skipS)
noncomputable def law_twos_s5 : SF := (retS (varE 3))
noncomputable def law_twos_F : SF := (seqS law_twos_s1
  (seqS law_twos_s2
  (seqS law_twos_s3
  (seqS (zipS 65536 (consEs (varE 1) (consEs (varE 2) nilEs)) (tupA 2 (consA (nameA 4) (consA (nameA 5) nilA))) law_twos_b1 skipS)
  (seqS law_twos_s5
  skipS)))))
theorem law_twos_sim (hG : Facts g) : SimSs prog w g 0 (namesOf law_twos_st) law_twos_nm (bodyOf law_twos_st) law_twos_F := by
  exact (simss_cons (sims_assignComp 1 true 65536 law_twos_nm1 [none, none] [Str.ofString "spot", Str.ofString "step"] (CompOK.of (by kernel_rfl)) (simi_enum (by kernel_rfl) (by kernel_rfl) hG.gl_enumerate (sims_cons (sim_var 0 rfl (by kernel_rfl)) sims_nil fun _ => rfl) ⟨⟨_, _, rfl, fun _ => rfl⟩, fun _ _ => rfl⟩) (sima_tup (simas_cons (sima_name 0 rfl (by kernel_rfl) law_twos_nm1_nd (List.Mem.head _)) (simas_cons (sima_name 1 rfl (by kernel_rfl) law_twos_nm1_nd (List.Mem.tail _ (List.Mem.head _))) simas_nil fun _ => rfl) fun _ => rfl) (fun _ => rfl) (fun _ => rfl)) (simifs_one (simt_cmp (sim_var 1 rfl (by kernel_rfl)) sim_int prim_eq rfl)) (sim_var 0 rfl (by kernel_rfl)) rfl (by decide) (fun _ _ => rfl) rfl (by kernel_rfl) law_twos_nd (fun _ eo => (swaps_of eo).trans (congrArg pure (by kernel_rfl))))
  (simss_cons (sims_assignComp 2 true 65536 law_twos_nm2 [none, none] [Str.ofString "spot", Str.ofString "step"] (CompOK.of (by kernel_rfl)) (simi_enum (by kernel_rfl) (by kernel_rfl) hG.gl_enumerate (sims_cons (sim_var 0 rfl (by kernel_rfl)) sims_nil fun _ => rfl) ⟨⟨_, _, rfl, fun _ => rfl⟩, fun _ _ => rfl⟩) (sima_tup (simas_cons (sima_name 0 rfl (by kernel_rfl) law_twos_nm2_nd (List.Mem.head _)) (simas_cons (sima_name 1 rfl (by kernel_rfl) law_twos_nm2_nd (List.Mem.tail _ (List.Mem.head _))) simas_nil fun _ => rfl) fun _ => rfl) (fun _ => rfl) (fun _ => rfl)) (simifs_one (simt_cmp (sim_var 1 rfl (by kernel_rfl)) sim_int prim_eq rfl)) (sim_var 0 rfl (by kernel_rfl)) rfl (by decide) (fun _ _ => rfl) rfl (by kernel_rfl) law_twos_nd (fun _ eo => (swaps_of eo).trans (congrArg pure (by kernel_rfl))))
  (simss_cons (sims_assign 3 (sim_list sims_nil) rfl (by kernel_rfl) law_twos_nd fun _ => rfl)
  (simss_cons (sims_zip 65536 (xs := [Str.ofString "first", Str.ofString "second"]) (by kernel_rfl) (by kernel_rfl) hG.gl_zip (sims_cons (sim_var 1 rfl (by kernel_rfl)) (sims_cons (sim_var 2 rfl (by kernel_rfl)) sims_nil fun _ => rfl) fun _ => rfl) ⟨⟨_, _, rfl, fun _ => rfl⟩, fun _ _ => rfl⟩ (sima_tup (simas_cons (sima_name 4 rfl (by kernel_rfl) law_twos_nd (List.Mem.head _)) (simas_cons (sima_name 5 rfl (by kernel_rfl) law_twos_nd (List.Mem.tail _ (List.Mem.head _))) simas_nil fun _ => rfl) fun _ => rfl) (fun _ => rfl) (fun _ => rfl)) (simss_cons (sims_aug 3 (sim_list (sims_cons (sim_var 4 rfl (by kernel_rfl)) (sims_cons (sim_var 5 rfl (by kernel_rfl)) sims_nil fun _ => rfl) fun _ => rfl)) prim_iadd rfl (by kernel_rfl) law_twos_nd)
  simss_nil) simss_nil rfl fun _ _ => rfl)
  (simss_cons (sims_ret (sim_var 3 rfl (by kernel_rfl)))
  simss_nil)))))
noncomputable def op_law_twos_1 : CF := plainF 1 5 law_twos_F
theorem call_law_twos_1 (hG : Facts g) : PrimC prog w g 1 (.ref 101) op_law_twos_1 :=
  prim_fnP (locs := [Str.ofString "firsts", Str.ofString "seconds", Str.ofString "twos", Str.ofString "first", Str.ofString "second"]) 1 (hG.fn_law_twos).choose_spec.1 (law_twos_sim hG) rfl law_twos_nd 5 rfl (hG.fn_law_twos).choose_spec.2
noncomputable def op_law_twos_f : CF := frameG op_law_twos_1
theorem call_law_twos_f (hG : Facts g) : PrimC prog w g 1 (.ref 101) op_law_twos_f := prim_frameG fun _ hk => call_law_twos_1 (hG.keeps hk)
/-! _byteswap -/
noncomputable def byteswap_nm : List Str := [Str.ofString "data", Str.ofString "width", Str.ofString "swapped_data", Str.ofString "i", Str.ofString "j"]
theorem byteswap_nd : byteswap_nm.Nodup := by decide +kernel
noncomputable def byteswap_s1 : SF := (asgS 2 (callE baO (consEs (callE lenO (consEs (varE 0) nilEs)) nilEs)))
noncomputable def byteswap_s2 : SF := (putS setO (binE getO (varE 0) (binE addO (varE 3) (varE 4))) (varE 2) (binE subO (binE subO (binE addO (varE 3) (varE 1)) (valE (.int 1))) (varE 4)))
noncomputable def byteswap_b1 : SF := (seqS byteswap_s2
  skipS)
noncomputable def byteswap_b2 : SF := (seqS (forS false 65536 (nameA 4) (rngI (rngF (consEs (varE 1) nilEs))) byteswap_b1 skipS)
  skipS)
noncomputable def byteswap_s3 : SF := (retS (callE bytO (consEs (varE 2) nilEs)))
noncomputable def byteswap_F : SF := (seqS byteswap_s1
  (seqS (forS false 65536 (nameA 3) (rngI (rngF (consEs (valE (.int 0)) (consEs (callE lenO (consEs (varE 0) nilEs)) (consEs (varE 1) nilEs))))) byteswap_b2 skipS)
  (seqS byteswap_s3
  skipS)))
theorem byteswap_sim (hG : Facts g) : SimSsC prog w g 0 (namesOf byteswap_st) byteswap_nm (bodyOf byteswap_st) byteswap_F := by
  exact (simssC_cons (simsC_assignT 2 (by kernel_rfl) (by kernel_rfl) hG.gl_bytearray (sims_cons (sim_callB (by kernel_rfl) (by kernel_rfl) hG.gl_len (sims_cons (sim_var 0 rfl (by kernel_rfl)) sims_nil fun _ => rfl) ⟨⟨_, _, rfl, fun _ => rfl⟩, fun _ _ => rfl⟩ prim_len) sims_nil fun _ => rfl) ⟨⟨_, _, rfl, fun _ => rfl⟩, fun _ _ => rfl⟩ prim_ba rfl (by kernel_rfl) byteswap_nd (fun _ => rfl))
  (SimSs.toC (simss_cons (sims_for (xs := [Str.ofString "i"]) 65536 (sima_name 3 rfl (by kernel_rfl) byteswap_nd (List.Mem.head _)) (simi_range (simr_range (by kernel_rfl) (by kernel_rfl) hG.gl_range (sims_cons sim_int (sims_cons (sim_callB (by kernel_rfl) (by kernel_rfl) hG.gl_len (sims_cons (sim_var 0 rfl (by kernel_rfl)) sims_nil fun _ => rfl) ⟨⟨_, _, rfl, fun _ => rfl⟩, fun _ _ => rfl⟩ prim_len) (sims_cons (sim_var 1 rfl (by kernel_rfl)) sims_nil fun _ => rfl) fun _ => rfl) fun _ => rfl) ⟨⟨_, _, rfl, fun _ => rfl⟩, fun _ _ => rfl⟩)) (simss_cons (sims_for (xs := [Str.ofString "j"]) 65536 (sima_name 4 rfl (by kernel_rfl) byteswap_nd (List.Mem.head _)) (simi_range (simr_range (by kernel_rfl) (by kernel_rfl) hG.gl_range (sims_cons (sim_var 1 rfl (by kernel_rfl)) sims_nil fun _ => rfl) ⟨⟨_, _, rfl, fun _ => rfl⟩, fun _ _ => rfl⟩)) (simss_cons (sims_put (sim_sub (sim_var 0 rfl (by kernel_rfl)) (sim_bin (sim_var 3 rfl (by kernel_rfl)) (sim_var 4 rfl (by kernel_rfl)) prim_add) (prim_get fun _ _ => rfl)) (sim_var 2 rfl (by kernel_rfl)) (sim_bin (sim_bin (sim_bin (sim_var 3 rfl (by kernel_rfl)) (sim_var 1 rfl (by kernel_rfl)) prim_add) sim_int prim_sub) (sim_var 4 rfl (by kernel_rfl)) prim_sub) prim_set fun _ => rfl)
  simss_nil) simss_nil rfl fun _ _ => rfl)
  simss_nil) simss_nil rfl fun _ _ => rfl)
  (simss_cons (sims_ret (sim_callT (by kernel_rfl) (by kernel_rfl) hG.gl_bytes (sims_cons (sim_var 2 rfl (by kernel_rfl)) sims_nil fun _ => rfl) ⟨⟨_, _, rfl, fun _ => rfl⟩, fun _ _ => rfl⟩ prim_bytes))
  simss_nil))))
noncomputable def op_byteswap_2 : CF := plainF 2 3 byteswap_F
theorem call_byteswap_2 (hG : Facts g) : PrimCC prog w g 1 (.ref 56) op_byteswap_2 :=
  prim_fnC (locs := [Str.ofString "swapped_data", Str.ofString "i", Str.ofString "j"]) 2 (hG.fn_byteswap).choose_spec.1 (byteswap_sim hG) rfl byteswap_nd 3 rfl (hG.fn_byteswap).choose_spec.2
noncomputable def op_byteswap_f : CF := frameG op_byteswap_2
theorem call_byteswap_f (hG : Facts g) : PrimCC prog w g 1 (.ref 56) op_byteswap_f := prim_frameGC fun _ hk => call_byteswap_2 (hG.keeps hk)
/-! _law_order -/
noncomputable def law_order_nm : List Str := [Str.ofString "places", Str.ofString "code", Str.ofString "width", Str.ofString "turned", Str.ofString "order", Str.ofString "start"]
theorem law_order_nd : law_order_nm.Nodup := by decide +kernel
noncomputable def law_order_s1 : SF := (asgS 2 (binE addO (callE lenO (consEs (varE 0) nilEs)) (valE (.int 1))))
noncomputable def law_order_s2 : SF := (asgS 3 (callE op_byteswap_f (consEs (callE op_law_tape_f (consEs (varE 0) (consEs (varE 1) nilEs))) (consEs (varE 2) nilEs))))
noncomputable def law_order_s3 : SF := (asgS 4 (lstE nilEs))
noncomputable def law_order_s4 : SF := (exprS (callE op_insort_right_2 (consEs (varE 4) (consEs (callE tupO (consEs (cutE (varE 3) (intPart (varE 5)) (intPart (binE addO (varE 5) (varE 2)))) nilEs)) nilEs))))
noncomputable def law_order_b1 : SF := (seqS law_order_s4
  skipS)
noncomputable def law_order_s5 : SF := (retS (varE 4))
noncomputable def law_order_F : SF := (seqS law_order_s1
  (seqS law_order_s2
  (seqS law_order_s3
  (seqS (forS false 65536 (nameA 5) (rngI (rngF (consEs (valE (.int 0)) (consEs (callE lenO (consEs (varE 3) nilEs)) (consEs (varE 2) nilEs))))) law_order_b1 skipS)
  (seqS law_order_s5
  skipS)))))
theorem law_order_sim (hG : Facts g) : SimSsC prog w g 3 (namesOf law_order_st) law_order_nm (bodyOf law_order_st) law_order_F := by
  exact (simssC_cons (SimS.toC (sims_assign 2 (sim_bin (sim_callB (by kernel_rfl) (by kernel_rfl) hG.gl_len (sims_cons (sim_var 0 rfl (by kernel_rfl)) sims_nil fun _ => rfl) ⟨⟨_, _, rfl, fun _ => rfl⟩, fun _ _ => rfl⟩ prim_len) sim_int prim_add) rfl (by kernel_rfl) law_order_nd fun _ => rfl))
  (simssC_cons (simsC_assignF 3 (by kernel_rfl) (by kernel_rfl) hG.gl_byteswap hG.ob_byteswap (sims_cons (sim_callF (by kernel_rfl) (by kernel_rfl) hG.gl_law_tape hG.ob_law_tape (sims_cons (sim_var 0 rfl (by kernel_rfl)) (sims_cons (sim_var 1 rfl (by kernel_rfl)) sims_nil fun _ => rfl) fun _ => rfl) ⟨⟨_, _, rfl, fun _ => rfl⟩, fun _ _ => rfl⟩ (call_law_tape_f hG |>.up (by decide))) (sims_cons (sim_var 2 rfl (by kernel_rfl)) sims_nil fun _ => rfl) fun _ => rfl) ⟨⟨_, _, rfl, fun _ => rfl⟩, fun _ _ => rfl⟩ (call_byteswap_f hG |>.up (by decide)) rfl (by kernel_rfl) law_order_nd (fun _ => rfl))
  (SimSs.toC (simss_cons (sims_assign 4 (sim_list sims_nil) rfl (by kernel_rfl) law_order_nd fun _ => rfl)
  (simss_cons (sims_for (xs := [Str.ofString "start"]) 65536 (sima_name 5 rfl (by kernel_rfl) law_order_nd (List.Mem.head _)) (simi_range (simr_range (by kernel_rfl) (by kernel_rfl) hG.gl_range (sims_cons sim_int (sims_cons (sim_callB (by kernel_rfl) (by kernel_rfl) hG.gl_len (sims_cons (sim_var 3 rfl (by kernel_rfl)) sims_nil fun _ => rfl) ⟨⟨_, _, rfl, fun _ => rfl⟩, fun _ _ => rfl⟩ prim_len) (sims_cons (sim_var 2 rfl (by kernel_rfl)) sims_nil fun _ => rfl) fun _ => rfl) fun _ => rfl) ⟨⟨_, _, rfl, fun _ => rfl⟩, fun _ _ => rfl⟩)) (simss_cons (sims_expr (sim_callF (by kernel_rfl) (by kernel_rfl) hG.gl_insort_right hG.ob_insort_right (sims_cons (sim_var 4 rfl (by kernel_rfl)) (sims_cons (sim_callT (by kernel_rfl) (by kernel_rfl) hG.gl_tuple (sims_cons (sim_slice (sim_var 3 rfl (by kernel_rfl)) (simp_some (sim_var 5 rfl (by kernel_rfl))) (simp_some (sim_bin (sim_var 5 rfl (by kernel_rfl)) (sim_var 2 rfl (by kernel_rfl)) prim_add))) sims_nil fun _ => rfl) ⟨⟨_, _, rfl, fun _ => rfl⟩, fun _ _ => rfl⟩ prim_tuple) sims_nil fun _ => rfl) fun _ => rfl) ⟨⟨_, _, rfl, fun _ => rfl⟩, fun _ _ => rfl⟩ (call_insort_right_2 hG |>.up (by decide))) (fun _ eo => inter_false eo) fun _ => rfl)
  simss_nil) simss_nil rfl fun _ _ => rfl)
  (simss_cons (sims_ret (sim_var 4 rfl (by kernel_rfl)))
  simss_nil))))))
noncomputable def op_law_order_2 : CF := plainF 2 4 law_order_F
theorem call_law_order_2 (hG : Facts g) : PrimCC prog w g 4 (.ref 82) op_law_order_2 :=
  prim_fnC (locs := [Str.ofString "width", Str.ofString "turned", Str.ofString "order", Str.ofString "start"]) 2 (hG.fn_law_order).choose_spec.1 (law_order_sim hG) rfl law_order_nd 4 rfl (hG.fn_law_order).choose_spec.2
noncomputable def op_law_order_f : CF := frameG op_law_order_2
theorem call_law_order_f (hG : Facts g) : PrimCC prog w g 4 (.ref 82) op_law_order_f := prim_frameGC fun _ hk => call_law_order_2 (hG.keeps hk)
/-! law -/
noncomputable def law_nm : List Str := [Str.ofString "script", Str.ofString "drawn", Str.ofString "cells", Str.ofString "places", Str.ofString "longer", Str.ofString "shorter", Str.ofString "steps", Str.ofString "dues", Str.ofString "unders", Str.ofString "paired", Str.ofString "spot", Str.ofString "row", Str.ofString "mirror"]
theorem law_nd : law_nm.Nodup := by decide +kernel
noncomputable def law_nm1 : List Str := [Str.ofString "cell"]
theorem law_nm1_nd : law_nm1.Nodup := by decide +kernel
noncomputable def law_s1 : SF := (asgS 1 (compE false 65536 [none] (seqI (cutE (varE 0) noPart (intPart (valE (.int 7))))) (nameA 0) trueT (binE modO (callE intO (consEs (varE 0) nilEs)) (binE powO (valE (.int 10)) (valE (.int 6))))))
noncomputable def law_s2 : SF := (asgS 2 (binE addO (varE 1) (cutE (lstE (consEs (valE (.int 2)) (consEs (valE (.int 5)) (consEs (valE (.int 3)) (consEs (valE (.int 0)) (consEs (valE (.int 9)) (consEs (valE (.int 1)) (consEs (valE (.int 20)) nilEs)))))))) (intPart (callE lenO (consEs (varE 1) nilEs))) noPart)))
noncomputable def law_s3 : SF := (asgS 3 (callE op_law_places_f (consEs (cutE (varE 2) (intPart (valE (.int 2))) (intPart (binE addO (valE (.int 4)) (binE modO (binE getO (varE 2) (valE (.int 0))) (valE (.int 4)))))) nilEs)))
noncomputable def law_s4 : SF := (asgS 4 (callE op_law_order_f (consEs (varE 3) (consEs (binE getO (varE 2) (valE (.int 1))) nilEs))))
noncomputable def law_s5 : SF := (asgS 5 (callE op_law_order_f (consEs (cutE (varE 3) (intPart (valE (.int 1))) noPart) (consEs (binE getO (varE 2) (valE (.int 1))) nilEs))))
noncomputable def law_s6 : SF := (asgA (callE op_law_told_f (consEs (binE powO (valE (.int 2)) (callE lenO (consEs (varE 3) nilEs))) nilEs)) (tupA 2 (consA (nameA 6) (consA (nameA 7) nilA))))
noncomputable def law_nm2 : List Str := [Str.ofString "row"]
theorem law_nm2_nd : law_nm2.Nodup := by decide +kernel
noncomputable def law_s7 : SF := (retS (valE (.bool false)))
noncomputable def law_nm3 : List Str := [Str.ofString "row"]
theorem law_nm3_nd : law_nm3.Nodup := by decide +kernel
noncomputable def law_s8 : SF := (asgS 8 (compE false 65536 [none] (seqI (varE 4)) (nameA 0) trueT (binE addO (tupE (consEs (binE subO (binE addO (binE getO (varE 0) (valE (.int 0))) (binE getO (varE 0) (unE negO (valE (.int 1))))) (valE (.int 1))) nilEs)) (cutE (varE 0) (intPart (valE (.int 1))) (intPart (unE negO (valE (.int 1))))))))
noncomputable def law_nm4 : List Str := [Str.ofString "row", Str.ofString "shorter"]
theorem law_nm4_nd : law_nm4.Nodup := by decide +kernel
noncomputable def law_s9 : SF := (retS (valE (.bool false)))
noncomputable def law_s10 : SF := (asgS 9 (lstE nilEs))
noncomputable def law_s11 : SF := (exprS (callKE op_insort_right_2k (consEs (varE 9) (consEs (tupE (consEs (varE 11) (consEs (varE 10) nilEs))) nilEs)) (valE (.con (.ref 96)))))
noncomputable def law_b1 : SF := (seqS law_s11
  skipS)
noncomputable def law_nm5 : List Str := [Str.ofString "row", Str.ofString "spot"]
theorem law_nm5_nd : law_nm5.Nodup := by decide +kernel
noncomputable def law_s12 : SF := (retS (valE (.bool false)))
noncomputable def law_s13 : SF := (asgS 12 (callE op_byteswap_f (consEs (callE bytO (consEs (varE 6) nilEs)) (consEs (callE lenO (consEs (varE 6) nilEs)) nilEs))))
noncomputable def law_nm6 : List Str := [Str.ofString "step"]
theorem law_nm6_nd : law_nm6.Nodup := by decide +kernel
noncomputable def law_s14 : SF := (retS (andE (callE isbO (consEs (varE 12) (consEs (valE (.con (.type "bytes"))) nilEs))) (binE eqO (varE 12) (callE bytO (consEs (compE false 65536 [none] (seqI (varE 6)) (nameA 0) trueT (binE subO (valE (.int 1)) (varE 0))) nilEs)))))
noncomputable def law_F : SF := (seqS law_s1
  (seqS law_s2
  (seqS law_s3
  (seqS law_s4
  (seqS law_s5
  (seqS law_s6
  (seqS (ifS (cmpT neO (compE false 65536 [none] (seqI (varE 4)) (nameA 0) trueT (binE getO (varE 0) (unE negO (valE (.int 1))))) (varE 6)) (seqS law_s7
  skipS) skipS)
  (seqS law_s8
  (seqS (ifS (cmpT neO (compE false 65536 [none, some 5] (seqI (varE 8)) (nameA 0) trueT (binE addO (valE (.int 1)) (callE op_bisect_left_2 (consEs (varE 1) (consEs (varE 0) nilEs))))) (varE 7)) (seqS law_s9
  skipS) skipS)
  (seqS law_s10
  (seqS (forS true 65536 (tupA 2 (consA (nameA 10) (consA (nameA 11) nilA))) (enumI (consEs (varE 8) nilEs)) law_b1 skipS)
  (seqS (ifS (cmpT neO (compE true 65536 [none, none] (seqI (varE 9)) (tupA 2 (consA (nameA 0) (consA (nameA 1) nilA))) trueT (varE 1)) (callE op_law_twos_f (consEs (varE 6) nilEs))) (seqS law_s12
  skipS) skipS)
  (seqS law_s13
  (seqS law_s14
  skipS))))))))))))))
theorem law_sim (hG : Facts g) : SimSsC prog w g 4 (namesOf law_st) law_nm (bodyOf law_st) law_F := by
  exact (simssC_cons (SimS.toC (sims_assignComp 1 false 65536 law_nm1 [none] [Str.ofString "cell"] (CompOK.of (by kernel_rfl)) (simi_seq (sim_slice (sim_var 0 rfl (by kernel_rfl)) simp_none (simp_some sim_int))) (sima_name 0 rfl (by kernel_rfl) law_nm1_nd (List.Mem.head _)) simifs_nil (sim_bin (sim_callT (by kernel_rfl) (by kernel_rfl) hG.gl_int (sims_cons (sim_var 0 rfl (by kernel_rfl)) sims_nil fun _ => rfl) ⟨⟨_, _, rfl, fun _ => rfl⟩, fun _ _ => rfl⟩ prim_int) (sim_bin sim_int sim_int prim_pow) prim_mod) rfl (by decide) (fun _ _ => rfl) rfl (by kernel_rfl) law_nd (fun _ eo => (swaps_of eo).trans (congrArg pure (by kernel_rfl)))))
  (simssC_cons (SimS.toC (sims_assign 2 (sim_bin (sim_var 1 rfl (by kernel_rfl)) (sim_slice (sim_list (sims_cons sim_int (sims_cons sim_int (sims_cons sim_int (sims_cons sim_int (sims_cons sim_int (sims_cons sim_int (sims_cons sim_int sims_nil fun _ => rfl) fun _ => rfl) fun _ => rfl) fun _ => rfl) fun _ => rfl) fun _ => rfl) fun _ => rfl)) (simp_some (sim_callB (by kernel_rfl) (by kernel_rfl) hG.gl_len (sims_cons (sim_var 1 rfl (by kernel_rfl)) sims_nil fun _ => rfl) ⟨⟨_, _, rfl, fun _ => rfl⟩, fun _ _ => rfl⟩ prim_len)) simp_none) prim_add) rfl (by kernel_rfl) law_nd fun _ => rfl))
  (simssC_cons (SimS.toC (sims_assign 3 (sim_callF (by kernel_rfl) (by kernel_rfl) hG.gl_law_places hG.ob_law_places (sims_cons (sim_slice (sim_var 2 rfl (by kernel_rfl)) (simp_some sim_int) (simp_some (sim_bin sim_int (sim_bin (sim_sub (sim_var 2 rfl (by kernel_rfl)) sim_int (prim_get fun _ _ => rfl)) sim_int prim_mod) prim_add))) sims_nil fun _ => rfl) ⟨⟨_, _, rfl, fun _ => rfl⟩, fun _ _ => rfl⟩ (call_law_places_f hG |>.up (by decide))) rfl (by kernel_rfl) law_nd fun _ => rfl))
  (simssC_cons (simsC_assignF 4 (by kernel_rfl) (by kernel_rfl) hG.gl_law_order hG.ob_law_order (sims_cons (sim_var 3 rfl (by kernel_rfl)) (sims_cons (sim_sub (sim_var 2 rfl (by kernel_rfl)) sim_int (prim_get fun _ _ => rfl)) sims_nil fun _ => rfl) fun _ => rfl) ⟨⟨_, _, rfl, fun _ => rfl⟩, fun _ _ => rfl⟩ (call_law_order_f hG |>.up (by decide)) rfl (by kernel_rfl) law_nd (fun _ => rfl))
  (simssC_cons (simsC_assignF 5 (by kernel_rfl) (by kernel_rfl) hG.gl_law_order hG.ob_law_order (sims_cons (sim_slice (sim_var 3 rfl (by kernel_rfl)) (simp_some sim_int) simp_none) (sims_cons (sim_sub (sim_var 2 rfl (by kernel_rfl)) sim_int (prim_get fun _ _ => rfl)) sims_nil fun _ => rfl) fun _ => rfl) ⟨⟨_, _, rfl, fun _ => rfl⟩, fun _ _ => rfl⟩ (call_law_order_f hG |>.up (by decide)) rfl (by kernel_rfl) law_nd (fun _ => rfl))
  (simssC_cons (SimS.toC (sims_assignTo (xs := [Str.ofString "steps", Str.ofString "dues"]) (sim_callF (by kernel_rfl) (by kernel_rfl) hG.gl_law_told hG.ob_law_told (sims_cons (sim_bin sim_int (sim_callB (by kernel_rfl) (by kernel_rfl) hG.gl_len (sims_cons (sim_var 3 rfl (by kernel_rfl)) sims_nil fun _ => rfl) ⟨⟨_, _, rfl, fun _ => rfl⟩, fun _ _ => rfl⟩ prim_len) prim_pow) sims_nil fun _ => rfl) ⟨⟨_, _, rfl, fun _ => rfl⟩, fun _ _ => rfl⟩ (call_law_told_f hG |>.up (by decide))) (sima_tup (simas_cons (sima_name 6 rfl (by kernel_rfl) law_nd (List.Mem.head _)) (simas_cons (sima_name 7 rfl (by kernel_rfl) law_nd (List.Mem.tail _ (List.Mem.head _))) simas_nil fun _ => rfl) fun _ => rfl) (fun _ => rfl) (fun _ => rfl)) (fun _ => rfl) (fun _ _ => rfl) fun _ => rfl))
  (simssC_cons (SimS.toC (sims_if (simt_cmp (sim_comp false 65536 law_nm2 [none] [Str.ofString "row"] (CompOK.of (by kernel_rfl)) (simi_seq (sim_var 4 rfl (by kernel_rfl))) (sima_name 0 rfl (by kernel_rfl) law_nm2_nd (List.Mem.head _)) simifs_nil (sim_sub (sim_var 0 rfl (by kernel_rfl)) (sim_un sim_int prim_neg) (prim_get fun _ _ => rfl)) rfl (by decide) (fun _ _ => rfl)) (sim_var 6 rfl (by kernel_rfl)) prim_ne rfl) (simss_cons (sims_ret sim_bool)
  simss_nil) simss_nil))
  (simssC_cons (SimS.toC (sims_assignComp 8 false 65536 law_nm3 [none] [Str.ofString "row"] (CompOK.of (by kernel_rfl)) (simi_seq (sim_var 4 rfl (by kernel_rfl))) (sima_name 0 rfl (by kernel_rfl) law_nm3_nd (List.Mem.head _)) simifs_nil (sim_bin (sim_tup (sims_cons (sim_bin (sim_bin (sim_sub (sim_var 0 rfl (by kernel_rfl)) sim_int (prim_get fun _ _ => rfl)) (sim_sub (sim_var 0 rfl (by kernel_rfl)) (sim_un sim_int prim_neg) (prim_get fun _ _ => rfl)) prim_add) sim_int prim_sub) sims_nil fun _ => rfl)) (sim_slice (sim_var 0 rfl (by kernel_rfl)) (simp_some sim_int) (simp_some (sim_un sim_int prim_neg))) prim_add) rfl (by decide) (fun _ _ => rfl) rfl (by kernel_rfl) law_nd (fun _ eo => (swaps_of eo).trans (congrArg pure (by kernel_rfl)))))
  (simssC_cons (SimS.toC (sims_if (simt_cmp (sim_comp false 65536 law_nm4 [none, some 5] [Str.ofString "row"] (CompOK.of (by kernel_rfl)) (simi_seq (sim_var 8 rfl (by kernel_rfl))) (sima_name 0 rfl (by kernel_rfl) law_nm4_nd (List.Mem.head _)) simifs_nil (sim_bin sim_int (sim_callF (by kernel_rfl) (by kernel_rfl) hG.gl_bisect_left hG.ob_bisect_left (sims_cons (sim_var 1 rfl (by kernel_rfl)) (sims_cons (sim_var 0 rfl (by kernel_rfl)) sims_nil fun _ => rfl) fun _ => rfl) ⟨⟨_, _, rfl, fun _ => rfl⟩, fun _ _ => rfl⟩ (call_bisect_left_2 hG |>.up (by decide))) prim_add) rfl (by decide) (fun _ _ => rfl)) (sim_var 7 rfl (by kernel_rfl)) prim_ne rfl) (simss_cons (sims_ret sim_bool)
  simss_nil) simss_nil))
  (simssC_cons (SimS.toC (sims_assign 9 (sim_list sims_nil) rfl (by kernel_rfl) law_nd fun _ => rfl))
  (simssC_cons (SimS.toC (sims_for (xs := [Str.ofString "spot", Str.ofString "row"]) 65536 (sima_tup (simas_cons (sima_name 10 rfl (by kernel_rfl) law_nd (List.Mem.head _)) (simas_cons (sima_name 11 rfl (by kernel_rfl) law_nd (List.Mem.tail _ (List.Mem.head _))) simas_nil fun _ => rfl) fun _ => rfl) (fun _ => rfl) (fun _ => rfl)) (simi_enum (by kernel_rfl) (by kernel_rfl) hG.gl_enumerate (sims_cons (sim_var 8 rfl (by kernel_rfl)) sims_nil fun _ => rfl) ⟨⟨_, _, rfl, fun _ => rfl⟩, fun _ _ => rfl⟩) (simss_cons (sims_expr (sim_callK (by kernel_rfl) (by kernel_rfl) hG.gl_insort_right hG.ob_insort_right (sims_cons (sim_var 9 rfl (by kernel_rfl)) (sims_cons (sim_tup (sims_cons (sim_var 11 rfl (by kernel_rfl)) (sims_cons (sim_var 10 rfl (by kernel_rfl)) sims_nil fun _ => rfl) fun _ => rfl)) sims_nil fun _ => rfl) fun _ => rfl) ⟨⟨_, _, rfl, fun _ => rfl⟩, fun _ _ => rfl⟩ (sim_glob (.ref 96) (by kernel_rfl) (by kernel_rfl) hG.gl_law_under) (call_insort_right_2k hG |>.up (by decide))) (fun _ eo => inter_false eo) fun _ => rfl)
  simss_nil) simss_nil rfl fun _ _ => rfl))
  (simssC_cons (SimS.toC (sims_if (simt_cmp (sim_comp true 65536 law_nm5 [none, none] [Str.ofString "row", Str.ofString "spot"] (CompOK.of (by kernel_rfl)) (simi_seq (sim_var 9 rfl (by kernel_rfl))) (sima_tup (simas_cons (sima_name 0 rfl (by kernel_rfl) law_nm5_nd (List.Mem.head _)) (simas_cons (sima_name 1 rfl (by kernel_rfl) law_nm5_nd (List.Mem.tail _ (List.Mem.head _))) simas_nil fun _ => rfl) fun _ => rfl) (fun _ => rfl) (fun _ => rfl)) simifs_nil (sim_var 1 rfl (by kernel_rfl)) rfl (by decide) (fun _ _ => rfl)) (sim_callF (by kernel_rfl) (by kernel_rfl) hG.gl_law_twos hG.ob_law_twos (sims_cons (sim_var 6 rfl (by kernel_rfl)) sims_nil fun _ => rfl) ⟨⟨_, _, rfl, fun _ => rfl⟩, fun _ _ => rfl⟩ (call_law_twos_f hG |>.up (by decide))) prim_ne rfl) (simss_cons (sims_ret sim_bool)
  simss_nil) simss_nil))
  (simssC_cons (simsC_assignF 12 (by kernel_rfl) (by kernel_rfl) hG.gl_byteswap hG.ob_byteswap (sims_cons (sim_callT (by kernel_rfl) (by kernel_rfl) hG.gl_bytes (sims_cons (sim_var 6 rfl (by kernel_rfl)) sims_nil fun _ => rfl) ⟨⟨_, _, rfl, fun _ => rfl⟩, fun _ _ => rfl⟩ prim_bytes) (sims_cons (sim_callB (by kernel_rfl) (by kernel_rfl) hG.gl_len (sims_cons (sim_var 6 rfl (by kernel_rfl)) sims_nil fun _ => rfl) ⟨⟨_, _, rfl, fun _ => rfl⟩, fun _ _ => rfl⟩ prim_len) sims_nil fun _ => rfl) fun _ => rfl) ⟨⟨_, _, rfl, fun _ => rfl⟩, fun _ _ => rfl⟩ (call_byteswap_f hG |>.up (by decide)) rfl (by kernel_rfl) law_nd (fun _ => rfl))
  (SimSs.toC (simss_cons (sims_ret (sim_and (sim_callB (by kernel_rfl) (by kernel_rfl) hG.gl_isinstance (sims_cons (sim_var 12 rfl (by kernel_rfl)) (sims_cons (sim_glob (.type "bytes") (by kernel_rfl) (by kernel_rfl) hG.gl_bytes) sims_nil fun _ => rfl) fun _ => rfl) ⟨⟨_, _, rfl, fun _ => rfl⟩, fun _ _ => rfl⟩ prim_isb) (sim_cmp (sim_var 12 rfl (by kernel_rfl)) (sim_callT (by kernel_rfl) (by kernel_rfl) hG.gl_bytes (sims_cons (sim_comp false 65536 law_nm6 [none] [Str.ofString "step"] (CompOK.of (by kernel_rfl)) (simi_seq (sim_var 6 rfl (by kernel_rfl))) (sima_name 0 rfl (by kernel_rfl) law_nm6_nd (List.Mem.head _)) simifs_nil (sim_bin sim_int (sim_var 0 rfl (by kernel_rfl)) prim_sub) rfl (by decide) (fun _ _ => rfl)) sims_nil fun _ => rfl) ⟨⟨_, _, rfl, fun _ => rfl⟩, fun _ _ => rfl⟩ prim_bytes) prim_eq rfl)))
  simss_nil)))))))))))))))
noncomputable def op_law_1 : CF := plainF 1 12 law_F
theorem call_law_1 (hG : Facts g) : PrimCC prog w g 5 (.ref 106) op_law_1 :=
  prim_fnC (locs := [Str.ofString "drawn", Str.ofString "cells", Str.ofString "places", Str.ofString "longer", Str.ofString "shorter", Str.ofString "steps", Str.ofString "dues", Str.ofString "unders", Str.ofString "paired", Str.ofString "spot", Str.ofString "row", Str.ofString "mirror"]) 1 (hG.fn_law).choose_spec.1 (law_sim hG) rfl law_nd 12 rfl (hG.fn_law).choose_spec.2
end
end Mine
end
section
set_option maxRecDepth 100000
set_option maxHeartbeats 8000000
namespace Mine
/-- a function's object, of its def -/
noncomputable def fnO (st : Stmt) (pm cd dV kV : Value) : Obj := match st with
  | .FunctionDef n ps b _ _ _ sc _ _ _ => { cls := .type "function", data := .func { docDef n ps b sc pm cd .none with defaults := dV, kwdefaults := kV } }
  | _ => default
noncomputable def heapK (P : Params) : Frag := [
  (3, { cls := Value.type "dict", data := Data.dict #[{ hash := PyData.keyHash P (Str.ofString "__name__"), key := Value.str (Str.ofString "__name__") 165, val := Value.str (Str.ofString "law_wf0025_02") 286 }, { hash := PyData.keyHash P (Str.ofString "__doc__"), key := Value.str (Str.ofString "__doc__") 166, val := Value.none }, { hash := PyData.keyHash P (Str.ofString "__package__"), key := Value.str (Str.ofString "__package__") 167, val := Value.none }, { hash := PyData.keyHash P (Str.ofString "__loader__"), key := Value.str (Str.ofString "__loader__") 168, val := Value.builtin "__main__.__loader__#opaque" }, { hash := PyData.keyHash P (Str.ofString "__spec__"), key := Value.str (Str.ofString "__spec__") 169, val := Value.none }, { hash := PyData.keyHash P (Str.ofString "__annotations__"), key := Value.str (Str.ofString "__annotations__") 170, val := Value.ref 6 }, { hash := PyData.keyHash P (Str.ofString "__builtins__"), key := Value.str (Str.ofString "__builtins__") 171, val := Value.ref 4 }, { hash := PyData.keyHash P (Str.ofString "__file__"), key := Value.str (Str.ofString "__file__") 173, val := Value.str (Str.ofString "/claim/cut.py") 172 }, { hash := PyData.keyHash P (Str.ofString "__cached__"), key := Value.str (Str.ofString "__cached__") 174, val := Value.none }, { hash := PyData.keyHash P (Str.ofString "insort_right"), key := Value.str (Str.ofString "insort_right") 201, val := Value.ref 23 }, { hash := PyData.keyHash P (Str.ofString "bisect_right"), key := Value.str (Str.ofString "bisect_right") 215, val := Value.ref 32 }, { hash := PyData.keyHash P (Str.ofString "bisect_left"), key := Value.str (Str.ofString "bisect_left") 229, val := Value.ref 41 }, { hash := PyData.keyHash P (Str.ofString "COMPILER_FLAG_NAMES"), key := Value.str (Str.ofString "COMPILER_FLAG_NAMES") 262, val := Value.ref 42 }, { hash := PyData.keyHash P (Str.ofString "pretty_flags"), key := Value.str (Str.ofString "pretty_flags") 272, val := Value.ref 49 }, { hash := PyData.keyHash P (Str.ofString "_byteswap"), key := Value.str (Str.ofString "_byteswap") 285, val := Value.ref 56 }, { hash := PyData.keyHash P (Str.ofString "_law_word"), key := Value.str (Str.ofString "_law_word") 295, val := Value.ref 63 }, { hash := PyData.keyHash P (Str.ofString "_law_places"), key := Value.str (Str.ofString "_law_places") 305, val := Value.ref 70 }, { hash := PyData.keyHash P (Str.ofString "_law_tape"), key := Value.str (Str.ofString "_law_tape") 311, val := Value.ref 75 }, { hash := PyData.keyHash P (Str.ofString "_law_order"), key := Value.str (Str.ofString "_law_order") 323, val := Value.ref 82 }, { hash := PyData.keyHash P (Str.ofString "_law_told"), key := Value.str (Str.ofString "_law_told") 335, val := Value.ref 89 }, { hash := PyData.keyHash P (Str.ofString "_law_under"), key := Value.str (Str.ofString "_law_under") 342, val := Value.ref 96 }, { hash := PyData.keyHash P (Str.ofString "_law_twos"), key := Value.str (Str.ofString "_law_twos") 348, val := Value.ref 101 }, { hash := PyData.keyHash P (Str.ofString "law"), key := Value.str (Str.ofString "law") 354, val := Value.ref 106 }] 23 }),
  (42, { cls := Value.type "dict", data := Data.dict #[{ hash := 1, key := Value.int 1 232, val := Value.str (Str.ofString "OPTIMIZED") 233 }, { hash := 2, key := Value.int 2 234, val := Value.str (Str.ofString "NEWLOCALS") 235 }, { hash := 4, key := Value.int 4 236, val := Value.str (Str.ofString "VARARGS") 237 }, { hash := 8, key := Value.int 8 238, val := Value.str (Str.ofString "VARKEYWORDS") 239 }, { hash := 16, key := Value.int 16 240, val := Value.str (Str.ofString "NESTED") 241 }, { hash := 32, key := Value.int 32 242, val := Value.str (Str.ofString "GENERATOR") 243 }, { hash := 64, key := Value.int 64 244, val := Value.str (Str.ofString "NOFREE") 245 }, { hash := 128, key := Value.int 128 246, val := Value.str (Str.ofString "COROUTINE") 247 }, { hash := 256, key := Value.int 256 248, val := Value.str (Str.ofString "ITERABLE_COROUTINE") 249 }, { hash := 512, key := Value.int 512 250, val := Value.str (Str.ofString "ASYNC_GENERATOR") 251 }] 10 }),
  (23, fnO insort_right_st (Value.str (Str.ofString "cpy313.bisect") 187) (Value.ref 22) (Value.ref 15) (Value.ref 16)),
  (22, { cls := Value.type "code", data := Data.fields #[Value.str (Str.ofString "insort_right") 191, Value.str (Str.ofString "insort_right") 192, Value.str (Str.ofString "/claim/cut.py") 193, Value.int 2 0, Value.int 4 0, Value.int 0 0, Value.int 1 0, Value.int 3 0, Value.ref 17, Value.bool true, Value.int 181 0, Value.ref 18, Value.none, Value.ref 19, Value.ref 20, Value.ref 21, Value.int 199 0, Value.int 2 0, Value.str (Str.ofString "/claim/cut.py") 200] }),
  (15, { cls := Value.type "tuple", data := Data.seq #[Value.int 0 189, Value.none] }),
  (16, { cls := Value.type "dict", data := Data.dict #[{ hash := PyData.keyHash P (Str.ofString "key"), key := Value.str (Str.ofString "key") 190, val := Value.none }] 1 }),
  (32, fnO bisect_right_st (Value.str (Str.ofString "cpy313.bisect") 187) (Value.ref 31) (Value.ref 24) (Value.ref 25)),
  (31, { cls := Value.type "code", data := Data.fields #[Value.str (Str.ofString "bisect_right") 204, Value.str (Str.ofString "bisect_right") 205, Value.str (Str.ofString "/claim/cut.py") 206, Value.int 8 0, Value.int 4 0, Value.int 0 0, Value.int 1 0, Value.int 3 0, Value.ref 26, Value.bool true, Value.int 181 0, Value.ref 27, Value.none, Value.ref 28, Value.ref 29, Value.ref 30, Value.int 213 0, Value.int 8 0, Value.str (Str.ofString "/claim/cut.py") 214] }),
  (24, { cls := Value.type "tuple", data := Data.seq #[Value.int 0 202, Value.none] }),
  (25, { cls := Value.type "dict", data := Data.dict #[{ hash := PyData.keyHash P (Str.ofString "key"), key := Value.str (Str.ofString "key") 203, val := Value.none }] 1 }),
  (41, fnO bisect_left_st (Value.str (Str.ofString "cpy313.bisect") 187) (Value.ref 40) (Value.ref 33) (Value.ref 34)),
  (40, { cls := Value.type "code", data := Data.fields #[Value.str (Str.ofString "bisect_left") 218, Value.str (Str.ofString "bisect_left") 219, Value.str (Str.ofString "/claim/cut.py") 220, Value.int 28 0, Value.int 4 0, Value.int 0 0, Value.int 1 0, Value.int 3 0, Value.ref 35, Value.bool true, Value.int 181 0, Value.ref 36, Value.none, Value.ref 37, Value.ref 38, Value.ref 39, Value.int 227 0, Value.int 28 0, Value.str (Str.ofString "/claim/cut.py") 228] }),
  (33, { cls := Value.type "tuple", data := Data.seq #[Value.int 0 216, Value.none] }),
  (34, { cls := Value.type "dict", data := Data.dict #[{ hash := PyData.keyHash P (Str.ofString "key"), key := Value.str (Str.ofString "key") 217, val := Value.none }] 1 }),
  (49, fnO pretty_flags_st (Value.str (Str.ofString "cpy313.dis") 230) (Value.ref 48) (Value.none) (Value.none)),
  (48, { cls := Value.type "code", data := Data.fields #[Value.str (Str.ofString "pretty_flags") 263, Value.str (Str.ofString "pretty_flags") 264, Value.str (Str.ofString "/claim/cut.py") 265, Value.int 50 0, Value.int 1 0, Value.int 0 0, Value.int 0 0, Value.int 3 0, Value.ref 43, Value.bool true, Value.int 181 0, Value.ref 44, Value.none, Value.ref 45, Value.ref 46, Value.ref 47, Value.int 270 0, Value.int 50 0, Value.str (Str.ofString "/claim/cut.py") 271] }),
  (56, fnO byteswap_st (Value.str (Str.ofString "cpy313.wave") 273) (Value.ref 55) (Value.none) (Value.none)),
  (55, { cls := Value.type "code", data := Data.fields #[Value.str (Str.ofString "_byteswap") 275, Value.str (Str.ofString "_byteswap") 276, Value.str (Str.ofString "/claim/cut.py") 277, Value.int 63 0, Value.int 2 0, Value.int 0 0, Value.int 0 0, Value.int 3 0, Value.ref 50, Value.bool true, Value.int 181 0, Value.ref 51, Value.none, Value.ref 52, Value.ref 53, Value.ref 54, Value.int 283 0, Value.int 63 0, Value.str (Str.ofString "/claim/cut.py") 284] }),
  (63, fnO law_word_st (Value.str (Str.ofString "law_wf0025_02") 286) (Value.ref 62) (Value.none) (Value.none)),
  (62, { cls := Value.type "code", data := Data.fields #[Value.str (Str.ofString "_law_word") 288, Value.str (Str.ofString "_law_word") 289, Value.str (Str.ofString "/claim/cut.py") 290, Value.int 70 0, Value.int 1 0, Value.int 0 0, Value.int 0 0, Value.int 3 0, Value.ref 57, Value.bool true, Value.int 181 0, Value.ref 58, Value.none, Value.ref 59, Value.ref 60, Value.ref 61, Value.int 293 0, Value.int 70 0, Value.str (Str.ofString "/claim/cut.py") 294] }),
  (70, fnO law_places_st (Value.str (Str.ofString "law_wf0025_02") 286) (Value.ref 69) (Value.none) (Value.none)),
  (69, { cls := Value.type "code", data := Data.fields #[Value.str (Str.ofString "_law_places") 296, Value.str (Str.ofString "_law_places") 297, Value.str (Str.ofString "/claim/cut.py") 298, Value.int 76 0, Value.int 1 0, Value.int 0 0, Value.int 0 0, Value.int 3 0, Value.ref 64, Value.bool true, Value.int 181 0, Value.ref 65, Value.none, Value.ref 66, Value.ref 67, Value.ref 68, Value.int 303 0, Value.int 76 0, Value.str (Str.ofString "/claim/cut.py") 304] }),
  (75, fnO law_tape_st (Value.str (Str.ofString "law_wf0025_02") 286) (Value.ref 74) (Value.none) (Value.none)),
  (74, { cls := Value.type "code", data := Data.fields #[Value.str (Str.ofString "_law_tape") 306, Value.str (Str.ofString "_law_tape") 307, Value.str (Str.ofString "/claim/cut.py") 308, Value.int 81 0, Value.int 2 0, Value.int 0 0, Value.int 0 0, Value.int 3 0, Value.ref 71, Value.bool true, Value.int 181 0, Value.ref 72, Value.none, Value.none, Value.none, Value.ref 73, Value.int 309 0, Value.int 81 0, Value.str (Str.ofString "/claim/cut.py") 310] }),
  (82, fnO law_order_st (Value.str (Str.ofString "law_wf0025_02") 286) (Value.ref 81) (Value.none) (Value.none)),
  (81, { cls := Value.type "code", data := Data.fields #[Value.str (Str.ofString "_law_order") 312, Value.str (Str.ofString "_law_order") 313, Value.str (Str.ofString "/claim/cut.py") 314, Value.int 92 0, Value.int 2 0, Value.int 0 0, Value.int 0 0, Value.int 3 0, Value.ref 76, Value.bool true, Value.int 181 0, Value.ref 77, Value.none, Value.ref 78, Value.ref 79, Value.ref 80, Value.int 321 0, Value.int 92 0, Value.str (Str.ofString "/claim/cut.py") 322] }),
  (89, fnO law_told_st (Value.str (Str.ofString "law_wf0025_02") 286) (Value.ref 88) (Value.none) (Value.none)),
  (88, { cls := Value.type "code", data := Data.fields #[Value.str (Str.ofString "_law_told") 324, Value.str (Str.ofString "_law_told") 325, Value.str (Str.ofString "/claim/cut.py") 326, Value.int 99 0, Value.int 1 0, Value.int 0 0, Value.int 0 0, Value.int 3 0, Value.ref 83, Value.bool true, Value.int 181 0, Value.ref 84, Value.none, Value.ref 85, Value.ref 86, Value.ref 87, Value.int 333 0, Value.int 99 0, Value.str (Str.ofString "/claim/cut.py") 334] }),
  (96, fnO law_under_st (Value.str (Str.ofString "law_wf0025_02") 286) (Value.ref 95) (Value.none) (Value.none)),
  (95, { cls := Value.type "code", data := Data.fields #[Value.str (Str.ofString "_law_under") 336, Value.str (Str.ofString "_law_under") 337, Value.str (Str.ofString "/claim/cut.py") 338, Value.int 109 0, Value.int 1 0, Value.int 0 0, Value.int 0 0, Value.int 3 0, Value.ref 90, Value.bool true, Value.int 181 0, Value.ref 91, Value.none, Value.ref 92, Value.ref 93, Value.ref 94, Value.int 340 0, Value.int 109 0, Value.str (Str.ofString "/claim/cut.py") 341] }),
  (101, fnO law_twos_st (Value.str (Str.ofString "law_wf0025_02") 286) (Value.ref 100) (Value.none) (Value.none)),
  (100, { cls := Value.type "code", data := Data.fields #[Value.str (Str.ofString "_law_twos") 343, Value.str (Str.ofString "_law_twos") 344, Value.str (Str.ofString "/claim/cut.py") 345, Value.int 111 0, Value.int 1 0, Value.int 0 0, Value.int 0 0, Value.int 3 0, Value.ref 97, Value.bool true, Value.int 181 0, Value.ref 98, Value.none, Value.none, Value.none, Value.ref 99, Value.int 346 0, Value.int 111 0, Value.str (Str.ofString "/claim/cut.py") 347] }),
  (106, fnO law_st (Value.str (Str.ofString "law_wf0025_02") 286) (Value.ref 105) (Value.none) (Value.none)),
  (105, { cls := Value.type "code", data := Data.fields #[Value.str (Str.ofString "law") 349, Value.str (Str.ofString "law") 350, Value.str (Str.ofString "/claim/cut.py") 351, Value.int 118 0, Value.int 1 0, Value.int 0 0, Value.int 0 0, Value.int 3 0, Value.ref 102, Value.bool true, Value.int 181 0, Value.ref 103, Value.none, Value.none, Value.none, Value.ref 104, Value.int 352 0, Value.int 118 0, Value.str (Str.ofString "/claim/cut.py") 353] })]
noncomputable def heapA : List Addr := [3, 42, 23, 22, 15, 16, 32, 31, 24, 25, 41, 40, 33, 34, 49, 48, 56, 55, 63, 62, 70, 69, 75, 74, 82, 81, 89, 88, 96, 95, 101, 100, 106, 105]
theorem heapA_eq (P : Params) : heapA = (heapK P).map (·.1) := rfl
noncomputable def vw : Program := view PySem.Challenge.pw_wf0025_02 [5, 6, 8, 10, 11, 12, 13, 14, 15, 16, 17]
noncomputable def loosN : List Str := [Str.ofString "insort_right", Str.ofString "bisect_right", Str.ofString "bisect_left", Str.ofString "COMPILER_FLAG_NAMES"]
theorem hl : LeftO PySem.Challenge.rw_wf0025_02.row.toRowW.prog vw loosN (fun s => xlAt vw [] s && recOk (RowW.records PySem.Challenge.rw_wf0025_02.row.toRowW) s) (Hook.obs (kHook heapK heapA heapA_eq)) (Hook.val (kHook heapK heapA heapA_eq)) 1326 :=
  LeftO.of_split "special-get-raises" (fun w => by kernel_rfl)
theorem hd_law {d : DefRec} {kwd : List (Str × Expr)} (hdef : defOf vw (Str.ofString "law") = some (d, kwd)) (hp : PySem.Challenge.pw_wf0025_02.theDef (Str.ofString "law") = some (d.params, d.body, d.scope)) (hk : kwWritten? d.params.kwonlyargs d.params.kw_defaults = some kwd)
    (walk : WalkC vw loosN (XL vw []) (Hook.says (kHook heapK heapA heapA_eq)) PySem.Challenge.rw_wf0025_02.row.toRowW d kwd) : PySem.Challenge.rw_wf0025_02.Holds := by
  refine holds_law (by kernel_rfl) fun said => ?_
  refine holds_clean (r := PySem.Challenge.rw_wf0025_02.row) (q := vw) (loose := loosN) (Xt := fun s => xlAt vw [] s && recOk (RowW.records PySem.Challenge.rw_wf0025_02.row.toRowW) s) (XP := XL vw []) (Yf := Hook.obs (kHook heapK heapA heapA_eq)) (Ya := Hook.val (kHook heapK heapA heapA_eq)) (YP := Hook.says (kHook heapK heapA heapA_eq)) (N := 1326) hl (Hook.of _) (Hook.keeps _) (fun s e => xl_of s (Bool.and_eq_true_iff.mp e).1) XL.keeps hdef hp hk (fun s e => recFacts_of (Bool.and_eq_true_iff.mp e).2) (by rfl) said (by decide +kernel) ⟨rfl, rfl, rfl, rfl, rfl, by decide +kernel⟩ ?hw walk
  case hw => w_witness2
end Mine
end
section
set_option maxRecDepth 100000
set_option maxHeartbeats 4000000
namespace Mine
theorem ns_read {h : Heap} {a : Addr} {m : Str → Option Value} {o : Obj} {es : Array DictEntry} {ep : Nat} (N : h.Ns a m) (ho : h.get? a = some o) (hd : o.data = .dict es ep) (x : Str) : m x = nsFind es x := by
  obtain ⟨o', es', ep', e1, e2, _, e3⟩ := N
  rw [ho] at e1; cases e1
  rw [hd] at e2; cases e2
  exact (e3 x).symm
theorem glob_own {h : Heap} {mg mb : Str → Option Value} {o : Obj} {es : Array DictEntry} {ep : Nat} {x : Str} {v : Value} (N : h.Ns mainGlobals mg) (B : h.Ns builtinsNs mb) (ho : h.get? mainGlobals = some o) (hd : o.data = .dict es ep)
    (hx : nsFind es x = some v) : GlobIs h x v := ⟨mg, mb, N, B, .inl ((ns_read N ho hd x).trans hx)⟩
theorem glob_blt {h : Heap} {mg mb : Str → Option Value} {o : Obj} {es : Array DictEntry} {ep : Nat} {x : Str} {v : Value} (N : h.Ns mainGlobals mg) (B : h.Ns builtinsNs mb) (ho : h.get? mainGlobals = some o) (hd : o.data = .dict es ep)
    (hx : nsFind es x = none) (hb : mb x = some v) : GlobIs h x v := ⟨mg, mb, N, B, .inr ⟨(ns_read N ho hd x).trans hx, hb⟩⟩
theorem two_of {α : Type} {vs : List α} (h : vs.length = 2) : ∃ a b, vs = [a, b] := by
  match vs, h with
  | [a, b], _ => exact ⟨a, b, rfl⟩
theorem four_of {α : Type} {vs : List α} (h : vs.length = 4) : ∃ a b c d, vs = [a, b, c, d] := by
  match vs, h with
  | [a, b, c, d], _ => exact ⟨a, b, c, d, rfl⟩
theorem factTab {w : World} {h : Heap} (X : (heapK w.params).In h) : ∀ (prog : Program) (w : World), IntTab prog w h tabA (tabT.map fun p => (PyData.int p.1, PyData.str p.2)) := by
  intro prog w'
  have ho := X 42 _ rfl
  have hes : entriesAreInt [{ hash := 1, key := Value.int 1 232, val := Value.str (Str.ofString "OPTIMIZED") 233 }, { hash := 2, key := Value.int 2 234, val := Value.str (Str.ofString "NEWLOCALS") 235 }, { hash := 4, key := Value.int 4 236, val := Value.str (Str.ofString "VARARGS") 237 }, { hash := 8, key := Value.int 8 238, val := Value.str (Str.ofString "VARKEYWORDS") 239 }, { hash := 16, key := Value.int 16 240, val := Value.str (Str.ofString "NESTED") 241 }, { hash := 32, key := Value.int 32 242, val := Value.str (Str.ofString "GENERATOR") 243 }, { hash := 64, key := Value.int 64 244, val := Value.str (Str.ofString "NOFREE") 245 }, { hash := 128, key := Value.int 128 246, val := Value.str (Str.ofString "COROUTINE") 247 }, { hash := 256, key := Value.int 256 248, val := Value.str (Str.ofString "ITERABLE_COROUTINE") 249 }, { hash := 512, key := Value.int 512 250, val := Value.str (Str.ofString "ASYNC_GENERATOR") 251 }] (tabT.map fun p => (PyData.int p.1, PyData.str p.2)) = true := by kernel_rfl
  obtain ⟨kvs, p, f, ks⟩ := entries_spec (prog := prog) (w := w') hes
  exact ⟨by kernel_rfl, kvs, ⟨_, _, _, ho, ⟨rfl, rfl, rfl⟩, rfl, fun e he => ks e (by simpa using he), p, nodup_of_apart f (by kernel_rfl)⟩, f⟩
theorem factFn_insort_right {w : World} {q : Program} {loose : List Str} {mean} {h : Heap} {mg mb : Str → Option Value} (T : Top q loose mean mg mb h) (X : (heapK w.params).In h) : ∃ fd, FnOK h 23 fd (bodyOf insort_right_st) (namesOf insort_right_st) insort_right_ps ∧ (∀ (s : Shared) (vs : List Value), (∀ b o, h.get? b = some o → s.heap.get? b = some o) → vs.length = 4 → ∃ ws, BindsTo s fd ⟨vs, []⟩ (insort_right_ps.zip (vs ++ ws)) ∧ Plain2 [.con .none] ws) ∧ (∀ (s : Shared) (vs : List Value) (v : Value), (∀ b o, h.get? b = some o → s.heap.get? b = some o) → vs.length = 4 → BindsTo s fd ⟨vs, [(Str.ofString "key", v)]⟩ (insort_right_ps.zip (vs ++ [v]))) ∧ (∀ (s : Shared) (vs : List Value), (∀ b o, h.get? b = some o → s.heap.get? b = some o) → vs.length = 2 → ∃ ws, BindsTo s fd ⟨vs, []⟩ (insort_right_ps.zip (vs ++ ws)) ∧ Plain2 [.int 0, .con .none, .con .none] ws) ∧ (∀ (s : Shared) (vs : List Value) (v : Value), (∀ b o, h.get? b = some o → s.heap.get? b = some o) → vs.length = 2 → ∃ ws, BindsTo s fd ⟨vs, [(Str.ofString "key", v)]⟩ (insort_right_ps.zip (vs ++ (ws ++ [v]))) ∧ Plain2 [.int 0, .con .none] ws) := by
  have ho := X 23 _ rfl
  have keep : ∀ s : Shared, (∀ b o, h.get? b = some o → s.heap.get? b = some o) → (heapK w.params).In s.heap := fun s hk a o e => hk _ _ (X a o e)
  refine ⟨_, ⟨⟨_, ho, rfl⟩, T.nolimit, codeRec_of X (by kernel_rfl), (by kernel_rfl), (by kernel_rfl), rfl, rfl, rfl, rfl, rfl, rfl, by decide +kernel⟩, fun s vs hk hl => ?_, fun s vs v hk hl => ?_, fun s vs hk hl => ?_, fun s vs v hk hl => ?_⟩
  · obtain ⟨a, b, c, d, rfl⟩ := four_of hl
    exact ⟨[.none], kp_binds (keep s hk) (fun S => by kernel_rfl), plain_n⟩
  · obtain ⟨a, b, c, d, rfl⟩ := four_of hl
    exact kp_binds (keep s hk) (fun S => by kernel_rfl)
  · obtain ⟨a, b, rfl⟩ := two_of hl
    exact ⟨[.int 0 189, .none, .none], kp_binds (keep s hk) (fun S => by kernel_rfl), plain_0nnn _⟩
  · obtain ⟨a, b, rfl⟩ := two_of hl
    exact ⟨[.int 0 189, .none], kp_binds (keep s hk) (fun S => by kernel_rfl), plain_0nn _⟩
theorem factFn_bisect_right {w : World} {q : Program} {loose : List Str} {mean} {h : Heap} {mg mb : Str → Option Value} (T : Top q loose mean mg mb h) (X : (heapK w.params).In h) : ∃ fd, FnOK h 32 fd (bodyOf bisect_right_st) (namesOf bisect_right_st) bisect_right_ps ∧ (∀ (s : Shared) (vs : List Value), (∀ b o, h.get? b = some o → s.heap.get? b = some o) → vs.length = 4 → ∃ ws, BindsTo s fd ⟨vs, []⟩ (bisect_right_ps.zip (vs ++ ws)) ∧ Plain2 [.con .none] ws) ∧ (∀ (s : Shared) (vs : List Value) (v : Value), (∀ b o, h.get? b = some o → s.heap.get? b = some o) → vs.length = 4 → BindsTo s fd ⟨vs, [(Str.ofString "key", v)]⟩ (bisect_right_ps.zip (vs ++ [v]))) ∧ (∀ (s : Shared) (vs : List Value), (∀ b o, h.get? b = some o → s.heap.get? b = some o) → vs.length = 2 → ∃ ws, BindsTo s fd ⟨vs, []⟩ (bisect_right_ps.zip (vs ++ ws)) ∧ Plain2 [.int 0, .con .none, .con .none] ws) ∧ (∀ (s : Shared) (vs : List Value) (v : Value), (∀ b o, h.get? b = some o → s.heap.get? b = some o) → vs.length = 2 → ∃ ws, BindsTo s fd ⟨vs, [(Str.ofString "key", v)]⟩ (bisect_right_ps.zip (vs ++ (ws ++ [v]))) ∧ Plain2 [.int 0, .con .none] ws) := by
  have ho := X 32 _ rfl
  have keep : ∀ s : Shared, (∀ b o, h.get? b = some o → s.heap.get? b = some o) → (heapK w.params).In s.heap := fun s hk a o e => hk _ _ (X a o e)
  refine ⟨_, ⟨⟨_, ho, rfl⟩, T.nolimit, codeRec_of X (by kernel_rfl), (by kernel_rfl), (by kernel_rfl), rfl, rfl, rfl, rfl, rfl, rfl, by decide +kernel⟩, fun s vs hk hl => ?_, fun s vs v hk hl => ?_, fun s vs hk hl => ?_, fun s vs v hk hl => ?_⟩
  · obtain ⟨a, b, c, d, rfl⟩ := four_of hl
    exact ⟨[.none], kp_binds (keep s hk) (fun S => by kernel_rfl), plain_n⟩
  · obtain ⟨a, b, c, d, rfl⟩ := four_of hl
    exact kp_binds (keep s hk) (fun S => by kernel_rfl)
  · obtain ⟨a, b, rfl⟩ := two_of hl
    exact ⟨[.int 0 202, .none, .none], kp_binds (keep s hk) (fun S => by kernel_rfl), plain_0nnn _⟩
  · obtain ⟨a, b, rfl⟩ := two_of hl
    exact ⟨[.int 0 202, .none], kp_binds (keep s hk) (fun S => by kernel_rfl), plain_0nn _⟩
theorem factFn_bisect_left {w : World} {q : Program} {loose : List Str} {mean} {h : Heap} {mg mb : Str → Option Value} (T : Top q loose mean mg mb h) (X : (heapK w.params).In h) : ∃ fd, FnOK h 41 fd (bodyOf bisect_left_st) (namesOf bisect_left_st) bisect_left_ps ∧ (∀ (s : Shared) (vs : List Value), (∀ b o, h.get? b = some o → s.heap.get? b = some o) → vs.length = 4 → ∃ ws, BindsTo s fd ⟨vs, []⟩ (bisect_left_ps.zip (vs ++ ws)) ∧ Plain2 [.con .none] ws) ∧ (∀ (s : Shared) (vs : List Value) (v : Value), (∀ b o, h.get? b = some o → s.heap.get? b = some o) → vs.length = 4 → BindsTo s fd ⟨vs, [(Str.ofString "key", v)]⟩ (bisect_left_ps.zip (vs ++ [v]))) ∧ (∀ (s : Shared) (vs : List Value), (∀ b o, h.get? b = some o → s.heap.get? b = some o) → vs.length = 2 → ∃ ws, BindsTo s fd ⟨vs, []⟩ (bisect_left_ps.zip (vs ++ ws)) ∧ Plain2 [.int 0, .con .none, .con .none] ws) ∧ (∀ (s : Shared) (vs : List Value) (v : Value), (∀ b o, h.get? b = some o → s.heap.get? b = some o) → vs.length = 2 → ∃ ws, BindsTo s fd ⟨vs, [(Str.ofString "key", v)]⟩ (bisect_left_ps.zip (vs ++ (ws ++ [v]))) ∧ Plain2 [.int 0, .con .none] ws) := by
  have ho := X 41 _ rfl
  have keep : ∀ s : Shared, (∀ b o, h.get? b = some o → s.heap.get? b = some o) → (heapK w.params).In s.heap := fun s hk a o e => hk _ _ (X a o e)
  refine ⟨_, ⟨⟨_, ho, rfl⟩, T.nolimit, codeRec_of X (by kernel_rfl), (by kernel_rfl), (by kernel_rfl), rfl, rfl, rfl, rfl, rfl, rfl, by decide +kernel⟩, fun s vs hk hl => ?_, fun s vs v hk hl => ?_, fun s vs hk hl => ?_, fun s vs v hk hl => ?_⟩
  · obtain ⟨a, b, c, d, rfl⟩ := four_of hl
    exact ⟨[.none], kp_binds (keep s hk) (fun S => by kernel_rfl), plain_n⟩
  · obtain ⟨a, b, c, d, rfl⟩ := four_of hl
    exact kp_binds (keep s hk) (fun S => by kernel_rfl)
  · obtain ⟨a, b, rfl⟩ := two_of hl
    exact ⟨[.int 0 216, .none, .none], kp_binds (keep s hk) (fun S => by kernel_rfl), plain_0nnn _⟩
  · obtain ⟨a, b, rfl⟩ := two_of hl
    exact ⟨[.int 0 216, .none], kp_binds (keep s hk) (fun S => by kernel_rfl), plain_0nn _⟩
theorem factFn_pretty_flags {w : World} {q : Program} {loose : List Str} {mean} {h : Heap} {mg mb : Str → Option Value} (T : Top q loose mean mg mb h) (X : (heapK w.params).In h) : ∃ fd, FnOK h 49 fd (bodyOf pretty_flags_st) (namesOf pretty_flags_st) pretty_flags_ps ∧ (∀ vs : List Value, vs.length = 1 → bindArgs fd ⟨vs, []⟩ = pure (pretty_flags_ps.zip vs)) := by
  have ho := X 49 _ rfl
  refine ⟨_, ⟨⟨_, ho, rfl⟩, T.nolimit, codeRec_of X (by kernel_rfl), (by kernel_rfl), (by kernel_rfl), rfl, rfl, rfl, rfl, rfl, rfl, by decide +kernel⟩, fun vs hl => ?_⟩
  match vs, hl with
  | [a], _ => rfl
theorem factFn_byteswap {w : World} {q : Program} {loose : List Str} {mean} {h : Heap} {mg mb : Str → Option Value} (T : Top q loose mean mg mb h) (X : (heapK w.params).In h) : ∃ fd, FnOK h 56 fd (bodyOf byteswap_st) (namesOf byteswap_st) byteswap_ps ∧ (∀ vs : List Value, vs.length = 2 → bindArgs fd ⟨vs, []⟩ = pure (byteswap_ps.zip vs)) := by
  have ho := X 56 _ rfl
  refine ⟨_, ⟨⟨_, ho, rfl⟩, T.nolimit, codeRec_of X (by kernel_rfl), (by kernel_rfl), (by kernel_rfl), rfl, rfl, rfl, rfl, rfl, rfl, by decide +kernel⟩, fun vs hl => ?_⟩
  match vs, hl with
  | [a, b], _ => rfl
theorem factFn_law_word {w : World} {q : Program} {loose : List Str} {mean} {h : Heap} {mg mb : Str → Option Value} (T : Top q loose mean mg mb h) (X : (heapK w.params).In h) : ∃ fd, FnOK h 63 fd (bodyOf law_word_st) (namesOf law_word_st) law_word_ps ∧ (∀ vs : List Value, vs.length = 1 → bindArgs fd ⟨vs, []⟩ = pure (law_word_ps.zip vs)) := by
  have ho := X 63 _ rfl
  refine ⟨_, ⟨⟨_, ho, rfl⟩, T.nolimit, codeRec_of X (by kernel_rfl), (by kernel_rfl), (by kernel_rfl), rfl, rfl, rfl, rfl, rfl, rfl, by decide +kernel⟩, fun vs hl => ?_⟩
  match vs, hl with
  | [a], _ => rfl
theorem factFn_law_places {w : World} {q : Program} {loose : List Str} {mean} {h : Heap} {mg mb : Str → Option Value} (T : Top q loose mean mg mb h) (X : (heapK w.params).In h) : ∃ fd, FnOK h 70 fd (bodyOf law_places_st) (namesOf law_places_st) law_places_ps ∧ (∀ vs : List Value, vs.length = 1 → bindArgs fd ⟨vs, []⟩ = pure (law_places_ps.zip vs)) := by
  have ho := X 70 _ rfl
  refine ⟨_, ⟨⟨_, ho, rfl⟩, T.nolimit, codeRec_of X (by kernel_rfl), (by kernel_rfl), (by kernel_rfl), rfl, rfl, rfl, rfl, rfl, rfl, by decide +kernel⟩, fun vs hl => ?_⟩
  match vs, hl with
  | [a], _ => rfl
theorem factFn_law_tape {w : World} {q : Program} {loose : List Str} {mean} {h : Heap} {mg mb : Str → Option Value} (T : Top q loose mean mg mb h) (X : (heapK w.params).In h) : ∃ fd, FnOK h 75 fd (bodyOf law_tape_st) (namesOf law_tape_st) law_tape_ps ∧ (∀ vs : List Value, vs.length = 2 → bindArgs fd ⟨vs, []⟩ = pure (law_tape_ps.zip vs)) := by
  have ho := X 75 _ rfl
  refine ⟨_, ⟨⟨_, ho, rfl⟩, T.nolimit, codeRec_of X (by kernel_rfl), (by kernel_rfl), (by kernel_rfl), rfl, rfl, rfl, rfl, rfl, rfl, by decide +kernel⟩, fun vs hl => ?_⟩
  match vs, hl with
  | [a, b], _ => rfl
theorem factFn_law_order {w : World} {q : Program} {loose : List Str} {mean} {h : Heap} {mg mb : Str → Option Value} (T : Top q loose mean mg mb h) (X : (heapK w.params).In h) : ∃ fd, FnOK h 82 fd (bodyOf law_order_st) (namesOf law_order_st) law_order_ps ∧ (∀ vs : List Value, vs.length = 2 → bindArgs fd ⟨vs, []⟩ = pure (law_order_ps.zip vs)) := by
  have ho := X 82 _ rfl
  refine ⟨_, ⟨⟨_, ho, rfl⟩, T.nolimit, codeRec_of X (by kernel_rfl), (by kernel_rfl), (by kernel_rfl), rfl, rfl, rfl, rfl, rfl, rfl, by decide +kernel⟩, fun vs hl => ?_⟩
  match vs, hl with
  | [a, b], _ => rfl
theorem factFn_law_told {w : World} {q : Program} {loose : List Str} {mean} {h : Heap} {mg mb : Str → Option Value} (T : Top q loose mean mg mb h) (X : (heapK w.params).In h) : ∃ fd, FnOK h 89 fd (bodyOf law_told_st) (namesOf law_told_st) law_told_ps ∧ (∀ vs : List Value, vs.length = 1 → bindArgs fd ⟨vs, []⟩ = pure (law_told_ps.zip vs)) := by
  have ho := X 89 _ rfl
  refine ⟨_, ⟨⟨_, ho, rfl⟩, T.nolimit, codeRec_of X (by kernel_rfl), (by kernel_rfl), (by kernel_rfl), rfl, rfl, rfl, rfl, rfl, rfl, by decide +kernel⟩, fun vs hl => ?_⟩
  match vs, hl with
  | [a], _ => rfl
theorem factFn_law_under {w : World} {q : Program} {loose : List Str} {mean} {h : Heap} {mg mb : Str → Option Value} (T : Top q loose mean mg mb h) (X : (heapK w.params).In h) : ∃ fd, FnOK h 96 fd (bodyOf law_under_st) (namesOf law_under_st) law_under_ps ∧ (∀ vs : List Value, vs.length = 1 → bindArgs fd ⟨vs, []⟩ = pure (law_under_ps.zip vs)) := by
  have ho := X 96 _ rfl
  refine ⟨_, ⟨⟨_, ho, rfl⟩, T.nolimit, codeRec_of X (by kernel_rfl), (by kernel_rfl), (by kernel_rfl), rfl, rfl, rfl, rfl, rfl, rfl, by decide +kernel⟩, fun vs hl => ?_⟩
  match vs, hl with
  | [a], _ => rfl
theorem factFn_law_twos {w : World} {q : Program} {loose : List Str} {mean} {h : Heap} {mg mb : Str → Option Value} (T : Top q loose mean mg mb h) (X : (heapK w.params).In h) : ∃ fd, FnOK h 101 fd (bodyOf law_twos_st) (namesOf law_twos_st) law_twos_ps ∧ (∀ vs : List Value, vs.length = 1 → bindArgs fd ⟨vs, []⟩ = pure (law_twos_ps.zip vs)) := by
  have ho := X 101 _ rfl
  refine ⟨_, ⟨⟨_, ho, rfl⟩, T.nolimit, codeRec_of X (by kernel_rfl), (by kernel_rfl), (by kernel_rfl), rfl, rfl, rfl, rfl, rfl, rfl, by decide +kernel⟩, fun vs hl => ?_⟩
  match vs, hl with
  | [a], _ => rfl
theorem factFn_law {w : World} {q : Program} {loose : List Str} {mean} {h : Heap} {mg mb : Str → Option Value} (T : Top q loose mean mg mb h) (X : (heapK w.params).In h) : ∃ fd, FnOK h 106 fd (bodyOf law_st) (namesOf law_st) law_ps ∧ (∀ vs : List Value, vs.length = 1 → bindArgs fd ⟨vs, []⟩ = pure (law_ps.zip vs)) := by
  have ho := X 106 _ rfl
  refine ⟨_, ⟨⟨_, ho, rfl⟩, T.nolimit, codeRec_of X (by kernel_rfl), (by kernel_rfl), (by kernel_rfl), rfl, rfl, rfl, rfl, rfl, rfl, by decide +kernel⟩, fun vs hl => ?_⟩
  match vs, hl with
  | [a], _ => rfl
theorem facts_of {w : World} {q : Program} {loose : List Str} {mean} {h : Heap} {mg mb : Str → Option Value} (T : Top q loose mean mg mb h) (X : (heapK w.params).In h) : Facts h where
  lim := T.nolimit
  gl_byteswap := glob_own T.g T.b (X 3 _ rfl) rfl (by kernel_rfl)
  gl_insort_right := glob_own T.g T.b (X 3 _ rfl) rfl (by kernel_rfl)
  gl_bisect_right := glob_own T.g T.b (X 3 _ rfl) rfl (by kernel_rfl)
  gl_bisect_left := glob_own T.g T.b (X 3 _ rfl) rfl (by kernel_rfl)
  gl_COMPILER_FLAG_NAMES := glob_own T.g T.b (X 3 _ rfl) rfl (by kernel_rfl)
  gl_pretty_flags := glob_own T.g T.b (X 3 _ rfl) rfl (by kernel_rfl)
  gl_law_word := glob_own T.g T.b (X 3 _ rfl) rfl (by kernel_rfl)
  gl_law_places := glob_own T.g T.b (X 3 _ rfl) rfl (by kernel_rfl)
  gl_law_tape := glob_own T.g T.b (X 3 _ rfl) rfl (by kernel_rfl)
  gl_law_order := glob_own T.g T.b (X 3 _ rfl) rfl (by kernel_rfl)
  gl_law_told := glob_own T.g T.b (X 3 _ rfl) rfl (by kernel_rfl)
  gl_law_under := glob_own T.g T.b (X 3 _ rfl) rfl (by kernel_rfl)
  gl_law_twos := glob_own T.g T.b (X 3 _ rfl) rfl (by kernel_rfl)
  gl_law := glob_own T.g T.b (X 3 _ rfl) rfl (by kernel_rfl)
  gl_len := glob_blt T.g T.b (X 3 _ rfl) rfl (by kernel_rfl) ((T.builtins _ (by decide +kernel)).trans (by kernel_rfl))
  gl_sum := glob_blt T.g T.b (X 3 _ rfl) rfl (by kernel_rfl) ((T.builtins _ (by decide +kernel)).trans (by kernel_rfl))
  gl_hex := glob_blt T.g T.b (X 3 _ rfl) rfl (by kernel_rfl) ((T.builtins _ (by decide +kernel)).trans (by kernel_rfl))
  gl_isinstance := glob_blt T.g T.b (X 3 _ rfl) rfl (by kernel_rfl) ((T.builtins _ (by decide +kernel)).trans (by kernel_rfl))
  gl_bytes := glob_blt T.g T.b (X 3 _ rfl) rfl (by kernel_rfl) ((T.builtins _ (by decide +kernel)).trans (by kernel_rfl))
  gl_int := glob_blt T.g T.b (X 3 _ rfl) rfl (by kernel_rfl) ((T.builtins _ (by decide +kernel)).trans (by kernel_rfl))
  gl_tuple := glob_blt T.g T.b (X 3 _ rfl) rfl (by kernel_rfl) ((T.builtins _ (by decide +kernel)).trans (by kernel_rfl))
  gl_list := glob_blt T.g T.b (X 3 _ rfl) rfl (by kernel_rfl) ((T.builtins _ (by decide +kernel)).trans (by kernel_rfl))
  gl_range := glob_blt T.g T.b (X 3 _ rfl) rfl (by kernel_rfl) ((T.builtins _ (by decide +kernel)).trans (by kernel_rfl))
  gl_enumerate := glob_blt T.g T.b (X 3 _ rfl) rfl (by kernel_rfl) ((T.builtins _ (by decide +kernel)).trans (by kernel_rfl))
  gl_zip := glob_blt T.g T.b (X 3 _ rfl) rfl (by kernel_rfl) ((T.builtins _ (by decide +kernel)).trans (by kernel_rfl))
  gl_bytearray := glob_blt T.g T.b (X 3 _ rfl) rfl (by kernel_rfl) ((T.builtins _ (by decide +kernel)).trans (by kernel_rfl))
  tab := factTab X
  fn_insort_right := factFn_insort_right T X
  fn_bisect_right := factFn_bisect_right T X
  fn_bisect_left := factFn_bisect_left T X
  fn_pretty_flags := factFn_pretty_flags T X
  fn_byteswap := factFn_byteswap T X
  fn_law_word := factFn_law_word T X
  fn_law_places := factFn_law_places T X
  fn_law_tape := factFn_law_tape T X
  fn_law_order := factFn_law_order T X
  fn_law_told := factFn_law_told T X
  fn_law_under := factFn_law_under T X
  fn_law_twos := factFn_law_twos T X
  fn_law := factFn_law T X
theorem holds_of (P : ∀ ns : List Int, ns.length ≤ 63 → ∃ σ', op_law_1 [.blist (ns.map .int)] [] = some (.bool true, σ')) : PySem.Challenge.rw_wf0025_02.Holds := by
  refine hd_law (by rfl) (by rfl) (by rfl) ?_
  intro w s₀ s₁ mg mb G Y fa o pm cd doc dV kV ho hd hcd hD hmg hg args vals as hpre hlay hrd hwl hlo
  have KX := kIn_of Y
  have T := G.T
  clear ho hd hcd hD Y
  have efa : mg (Str.ofString "law") = some (.ref fa) := hmg
  have ela : mg (Str.ofString "law") = some (.ref 106) := (ns_read T.g (KX 3 _ rfl) rfl _).trans (by kernel_rfl)
  clear hmg
  rw [ela] at efa
  cases efa
  wrow_args hpre hlay hrd hwl hlo
  rename_i ns _ _ _ _ _ _ _ l vs _ hL _ _ _ hI _ hn _
  have hF := facts_of T KX
  have hrep : ∀ {xs : List Value} {ms : List Int}, IntsAre xs ms → Reps s₁.heap (fun _ => 0) 0 s₁.heap (ms.map .int) xs := by
    intro xs ms hx
    induction hx with
    | nil => exact .nil
    | cons => rename_i ih; exact .cons (.int _ _) ih
  have R : Rel s₁.heap (fun _ => 0) [] s₁.heap := ⟨fun id o e => by simp at e, fun i j hi => by simp at hi, fun _ _ e => e, fun id hi => by simp at hi⟩
  obtain ⟨σ', hP⟩ := P ns (by omega)
  refine call_law_1 hF callerA s₁ (fun _ => 0) [] [.blist (ns.map .int)] [.ref l] ⟨rfl, by decide +kernel, by decide +kernel⟩ R (.cons (.blist hL (hrep hI)) .nil) _ _ hP _ _ fun v h' tk φ' X r => ?_
  cases r
  exact ⟨.inl ⟨_, _, _, rfl, fun _ => rfl, .bool true, by wrow_post, fun _ => ⟨List.nodup_nil, fun a ha => nomatch ha⟩⟩, OldK.of_keep X.rel.base, rfl, AllBare.of_eq hg⟩
end Mine
end
section
set_option maxRecDepth 100000
namespace Mine
open PySem.StrLaws PySem.Builtin.Str
noncomputable def commaS : Str := Str.ofString ", "
theorem comma_list : commaS.cps.toList = [44, 32] := by decide +kernel
theorem comma_len : commaS.length = 2 := by decide +kernel
theorem at_iff {x : Str} {k : Nat} : At x commaS x.length k ↔ ∃ r, x.cps.toList.drop k = 44 :: 32 :: r := by
  have hlen : x.length = x.cps.toList.length := by simp [Str.length]
  unfold At
  rw [subAt_eq, comma_list, comma_len, hlen]
  constructor
  · rintro ⟨h1, h2⟩
    have h2 := eq_of_beq h2
    generalize hd : x.cps.toList.drop k = d at h2
    match d, h2 with
    | a :: b :: r, h2 =>
      simp at h2
      exact ⟨r, by rw [h2.1, h2.2]⟩
  · rintro ⟨r, hr⟩
    have : (x.cps.toList.drop k).length = r.length + 2 := by rw [hr]; rfl
    rw [List.length_drop] at this
    exact ⟨by omega, by rw [hr]; rfl⟩
theorem sub_list (x : Str) (a b : Nat) : (strSub x a b).cps.toList = (x.cps.toList.drop a).take (b - a) := strSub_toList x a b
theorem str_of_list {x y : Str} (h : x.cps.toList = y.cps.toList) : x = y := Str.ext' (Array.toList_inj.mp h)
theorem join_cons2 (y p q : Str) (r : List Str) : (Str.join y (p :: q :: r)).cps.toList = p.cps.toList ++ (y.cps.toList ++ (Str.join y (q :: r)).cps.toList) := by
  show (p ++ y ++ Str.join y (q :: r)).cps.toList = _
  simp only [Str.cps_append, Array.toList_append, List.append_assoc]
theorem parts_of_join (x : Str) : ∀ (l : List Str) (a f : Nat) (cuts : List Nat), l ≠ [] → (∀ p ∈ l, 44 ∉ p.cps.toList) → x.cps.toList.drop a = (Str.join commaS l).cps.toList →
    ChainG x commaS x.length a cuts f → (∀ k, f ≤ k → ¬ At x commaS x.length k) → partsFrom x 2 a cuts = l
  | [], _, _, _, h, _, _, _, _ => absurd rfl h
  | [p], a, f, cuts, _, hp, hx, hc, hf => by
    have hx : x.cps.toList.drop a = p.cps.toList := hx
    have hlen : x.length = x.cps.toList.length := by simp [Str.length]
    have no : ∀ k, a ≤ k → ¬ At x commaS x.length k := fun k hk h => by
      obtain ⟨r, hr⟩ := at_iff.mp h
      apply hp p (List.mem_singleton_self p)
      rw [← hx]
      have : x.cps.toList.drop k = (x.cps.toList.drop a).drop (k - a) := by rw [List.drop_drop]; congr 1; omega
      rw [this] at hr
      exact List.mem_of_mem_drop (hr ▸ List.mem_cons_self ..)
    cases cuts with
    | nil =>
      show [strSub x a x.length] = [p]
      congr 1
      apply str_of_list
      rw [sub_list, List.take_of_length_le (by rw [List.length_drop]; omega), hx]
    | cons c r => exact absurd hc.2.1 (no c hc.1)
  | p :: q :: l, a, f, cuts, _, hp, hx, hc, hf => by
    rw [join_cons2, comma_list] at hx
    have hat : At x commaS x.length (a + p.cps.toList.length) := by
      refine at_iff.mpr ⟨(Str.join commaS (q :: l)).cps.toList, ?_⟩
      rw [← List.drop_drop, hx, List.drop_left]
      rfl
    have no : ∀ k, a ≤ k → k < a + p.cps.toList.length → ¬ At x commaS x.length k := fun k hk hk2 h => by
      obtain ⟨r, hr⟩ := at_iff.mp h
      apply hp p (List.mem_cons_self ..)
      have e1 : x.cps.toList.drop k = (x.cps.toList.drop a).drop (k - a) := by rw [List.drop_drop]; congr 1; omega
      rw [e1, hx, List.drop_append_of_le_length (by omega)] at hr
      have hne : p.cps.toList.drop (k - a) ≠ [] := by
        intro e
        have := congrArg List.length e
        rw [List.length_drop] at this
        simp at this
        simp at hk2
        omega
      cases hd : p.cps.toList.drop (k - a) with
      | nil => exact absurd hd hne
      | cons u v =>
        rw [hd] at hr
        injection hr with hu _
        subst hu
        exact List.mem_of_mem_drop (hd ▸ List.mem_cons_self ..)
    cases cuts with
    | nil =>
      have ef : f = a := hc
      exact absurd hat (hf _ (by omega))
    | cons c r =>
      have ec : c = a + p.cps.toList.length := by
        have h1 := hc.1
        rcases Nat.lt_trichotomy c (a + p.cps.toList.length) with h | h | h
        · exact absurd hc.2.1 (no c h1 h)
        · exact h
        · exact absurd hat (hc.2.2.1 _ (by omega) h)
      subst ec
      show strSub x a (a + p.cps.toList.length) :: partsFrom x 2 (a + p.cps.toList.length + 2) r = p :: q :: l
      congr 1
      · apply str_of_list
        rw [sub_list, hx, Nat.add_sub_cancel_left, List.take_left]
      · refine parts_of_join x (q :: l) _ f r (by simp) (fun p' h => hp p' (List.mem_cons_of_mem _ h)) ?_ (by have := hc.2.2.2; rwa [comma_len] at this) hf
        rw [← List.drop_drop, ← List.drop_drop, hx, List.drop_left]
        rfl
theorem kind_pos (x : Str) : 1 ≤ Builtin.Str.strKind x := by
  unfold Builtin.Str.strKind
  split
  · omega
  · split <;> omega
theorem split_join {l : List Str} (h0 : l ≠ []) (hp : ∀ p ∈ l, 44 ∉ p.cps.toList) : Txt.split (glued commaS l) commaS = l := by
  rw [glued_eq_join]
  obtain ⟨f, hG, hn⟩ := occ_tight (Str.join commaS l) commaS (by rw [comma_len]; omega)
  have key := parts_of_join (Str.join commaS l) l 0 f _ h0 hp rfl hG hn
  have kc : Builtin.Str.strKind commaS = 1 := by decide +kernel
  unfold Txt.split
  split
  · rename_i hc
    have hlt : (Str.join commaS l).length < 2 := by
      rw [Bool.or_eq_true, decide_eq_true_eq, decide_eq_true_eq, kc, comma_len] at hc
      have := kind_pos (Str.join commaS l)
      omega
    match l, h0 with
    | [p], _ => rfl
    | p :: q :: r, _ =>
      exfalso
      have e := congrArg List.length (join_cons2 commaS p q r)
      rw [List.length_append, List.length_append, comma_list] at e
      simp [Str.length] at hlt e
      omega
  · split
    · rename_i he
      have e0 := List.isEmpty_iff.mp he
      rw [e0] at key
      refine Eq.trans ?_ key
      show [Str.join commaS l] = [strSub (Str.join commaS l) 0 (Str.join commaS l).length]
      rw [sub_whole]
    · rw [partsBetween_eq, comma_len]
      exact key
end Mine
end
section
set_option maxRecDepth 100000
namespace Mine
theorem bitAnd_nat (a b : Nat) : Builtin.bitAnd (a : Int) (b : Int) = ((a &&& b : Nat) : Int) := by
  unfold Builtin.bitAnd
  simp
theorem bitOr_nat (a b : Nat) : Builtin.bitOr (a : Int) (b : Int) = ((a ||| b : Nat) : Int) := by
  unfold Builtin.bitOr Builtin.bitAnd Builtin.bitNot
  have h1 : decide ((0 : Int) ≤ -(a : Int) - 1) = false := by simp; omega
  have h2 : decide ((0 : Int) ≤ -(b : Int) - 1) = false := by simp; omega
  rw [h1, h2]
  simp only
  have e1 : (-(-(a : Int) - 1) - 1).toNat = a := by omega
  have e2 : (-(-(b : Int) - 1) - 1).toNat = b := by omega
  rw [e1, e2]
  omega
theorem and_two_pow_mul (i q : Nat) : (2 ^ i * q) &&& 2 ^ i = 2 ^ i * (q % 2) := by
  apply Nat.eq_of_testBit_eq
  intro j
  rw [Nat.testBit_and, Nat.testBit_two_pow_mul, Nat.testBit_two_pow, Nat.testBit_two_pow_mul]
  by_cases hj : i = j
  · subst hj; simp [Nat.testBit_zero]
  · by_cases h2 : i ≤ j
    · have h3 : (q % 2).testBit (j - i) = false := by
        obtain ⟨m, hm⟩ : ∃ m, j - i = m + 1 := ⟨j - i - 1, by omega⟩
        rw [hm, Nat.testBit_succ]
        have : q % 2 / 2 = 0 := by omega
        rw [this]; simp
      simp [hj, h3]
    · simp [hj, h2]
theorem or_two_pow_mul (i q : Nat) (h : q % 2 = 1) : (2 ^ i * q) ||| 2 ^ i = 2 ^ i * q := by
  apply Nat.eq_of_testBit_eq
  intro j
  rw [Nat.testBit_or, Nat.testBit_two_pow_mul, Nat.testBit_two_pow]
  by_cases hj : i = j
  · subst hj; simp [Nat.testBit_zero, h]
  · simp [hj]
theorem bitAnd_pow (i q : Nat) : Builtin.bitAnd ((2 ^ i * q : Nat) : Int) ((2 ^ i : Nat) : Int) = ((2 ^ i * (q % 2) : Nat) : Int) := by rw [bitAnd_nat, and_two_pow_mul]
theorem bitXor_pow (i q : Nat) (h : q % 2 = 1) : Builtin.bitXor ((2 ^ i * q : Nat) : Int) ((2 ^ i : Nat) : Int) = ((2 ^ i * (q - 1) : Nat) : Int) := by
  unfold Builtin.bitXor
  rw [bitOr_nat, bitAnd_nat, and_two_pow_mul, or_two_pow_mul _ _ h, h, Nat.mul_sub]
  have : 2 ^ i * 1 ≤ 2 ^ i * q := Nat.mul_le_mul_left _ (by omega)
  omega

noncomputable def nameOf (i : Nat) : Str := (tabGet tabT ((2 ^ i : Nat) : Int)).getD (hexS ((2 ^ i : Nat) : Int))
noncomputable def bitsFrom : Nat → Nat → Nat → List Nat
  | 0, _, _ => []
  | k + 1, i, q => if q % 2 = 1 then i :: bitsFrom k (i + 1) (q / 2) else bitsFrom k (i + 1) (q / 2)
theorem hex_short : ∀ i, i < 32 → (hexS ((2 ^ i : Nat) : Int)).length ≤ 65536 := by decide +kernel
theorem pow_cast (i : Nat) : (1 : Int) * 2 ^ i = ((2 ^ i : Nat) : Int) := by rw [Int.one_mul]; norm_cast
theorem pf_even (i q : Nat) (hi : i < 32) (hq : q % 2 = 0) (y : Option AV) (names : List AV) :
    pretty_flags_b1 [some (.int ((2 ^ i * q : Nat) : Int)), some (.ref 0), some (.int i), y] [.list names] = some (.next, [some (.int ((2 ^ i * q : Nat) : Int)), some (.ref 0), some (.int i), some (.int ((2 ^ i : Nat) : Int))], [.list names]) := by
  have h1 : (0 : Int) ≤ (i : Int) ∧ (i : Int) ≤ 1000 ∧ i64 1 = true := ⟨by omega, by omega, by decide⟩
  have e1 : shlO (.int 1) (.int (i : Int)) [.list names] = some (.int ((2 ^ i : Nat) : Int), [.list names]) := by
    unfold shlO
    dsimp only
    rw [if_pos h1, Int.toNat_natCast, pow_cast]
  have e2 : andO (.int ((2 ^ i * q : Nat) : Int)) (.int ((2 ^ i : Nat) : Int)) [.list names] = some (.int 0, [.list names]) := by
    unfold andO
    dsimp only
    rw [bitAnd_pow, hq]
    rfl
  simp only [pretty_flags_b1, pretty_flags_s2, pretty_flags_s3, pretty_flags_s4, seqS, asgS, binE, valE, varE, Fm.get, Fm.put, List.getD_cons_zero, List.getD_cons_succ, List.set_cons_succ, List.set_cons_zero, Option.map_some, Option.bind_some, e1, ifS, valT, e2, truthV, skipS]
  rfl
theorem pf_odd (i q : Nat) (hi : i < 32) (hq : q % 2 = 1) (y : Option AV) (names : List AV) (hn : names.length ≤ 65536) :
    pretty_flags_b1 [some (.int ((2 ^ i * q : Nat) : Int)), some (.ref 0), some (.int i), y] [.list names] =
      some (if q - 1 = 0 then .brk else .next, [some (.int ((2 ^ i * (q - 1) : Nat) : Int)), some (.ref 0), some (.int i), some (.int ((2 ^ i : Nat) : Int))], [.list (names ++ [.str (nameOf i)])]) := by
  have h1 : (0 : Int) ≤ (i : Int) ∧ (i : Int) ≤ 1000 ∧ i64 1 = true := ⟨by omega, by omega, by decide⟩
  have e1 : shlO (.int 1) (.int (i : Int)) [.list names] = some (.int ((2 ^ i : Nat) : Int), [.list names]) := by
    unfold shlO
    dsimp only
    rw [if_pos h1, Int.toNat_natCast, pow_cast]
  have hp : 0 < 2 ^ i := Nat.two_pow_pos i
  have e2 : andO (.int ((2 ^ i * q : Nat) : Int)) (.int ((2 ^ i : Nat) : Int)) [.list names] = some (.int ((2 ^ i : Nat) : Int), [.list names]) := by
    unfold andO
    dsimp only
    rw [bitAnd_pow, hq, Nat.mul_one]
  have e3 : ∀ σ : St, hexO [.int ((2 ^ i : Nat) : Int)] σ = some (.str (hexS ((2 ^ i : Nat) : Int)), σ) := fun σ => by
    unfold hexO
    dsimp only
    rw [if_pos (hex_short i hi)]
  have e4 : ∀ σ : St, ixorO (.int ((2 ^ i * q : Nat) : Int)) (.int ((2 ^ i : Nat) : Int)) σ = some (.int ((2 ^ i * (q - 1) : Nat) : Int), σ) := fun σ => by
    unfold ixorO
    dsimp only
    rw [bitXor_pow _ _ hq]
  have e5 : ∀ σ : St, tabO (.con (.ref 42)) [.int ((2 ^ i : Nat) : Int), .str (hexS ((2 ^ i : Nat) : Int))] σ = some (.str (nameOf i), σ) := fun σ => rfl
  have e6 : ((((2 ^ i : Nat) : Int)) != 0) = true := by
    rw [bne_iff_ne]
    generalize 2 ^ i = z at hp ⊢
    omega
  have e7 : appO (.ref 0) [.str (nameOf i)] [.list names] = some (.con .none, [.list (names ++ [.str (nameOf i)])]) := by
    unfold appO
    simp [hn]
  have e8 : okL (.ref 0) [.list names] = true := rfl
  have e9 : ∀ σ : St, okD tabA (.con (.ref 42)) σ = true := fun σ => rfl
  simp only [pretty_flags_b1, pretty_flags_s2, pretty_flags_s3, pretty_flags_s4, seqS, asgS, binE, valE, varE, Fm.get, Fm.put, List.getD_cons_zero, List.getD_cons_succ, List.set_cons_succ, List.set_cons_zero, Option.map_some, Option.bind_some, e1, ifS, valT, e2, truthV, skipS, e6, if_true, exprS, methO, e8, e9, e5, e3, consEs, nilEs, callE, e7, augS, e4, notT, brkS]
  by_cases hz : q - 1 = 0
  · have : (((2 ^ i * (q - 1) : Nat) : Int) != 0) = false := by rw [hz]; rfl
    rw [this, if_pos hz]; rfl
  · have : (((2 ^ i * (q - 1) : Nat) : Int) != 0) = true := by
      have : 0 < 2 ^ i * (q - 1) := Nat.mul_pos hp (by omega)
      rw [bne_iff_ne]
      generalize 2 ^ i * (q - 1) = z at this ⊢
      omega
    rw [this, if_neg hz]; rfl
end Mine
end
section
set_option maxRecDepth 100000
namespace Mine
/-! loops over a range, turn by turn -/
theorem for_range_zero {tf : AF} {bf ef : SF} {n : Nat} {c st : Int} {ρ : Fm} {σ : St} : forGo false tf bf ef (n + 1) (.range c st 0) ρ σ = ef ρ σ := rfl
theorem for_range_next {tf : AF} {bf ef : SF} {n k : Nat} {c st : Int} {ρ ρ1 ρ2 : Fm} {σ σ1 σ2 : St} (h1 : tf (.int c) ρ σ = some (ρ1, σ1)) (h2 : bf ρ1 σ1 = some (.next, ρ2, σ2)) :
    forGo false tf bf ef (n + 1) (.range c st (k + 1)) ρ σ = forGo false tf bf ef n (.range (c + st) st k) ρ2 σ2 := by
  show (tf (.int c) ρ σ).bind _ = _
  rw [h1, Option.bind_some, h2]
  rfl
theorem for_range_brk {tf : AF} {bf ef : SF} {n k : Nat} {c st : Int} {ρ ρ1 ρ2 : Fm} {σ σ1 σ2 : St} (h1 : tf (.int c) ρ σ = some (ρ1, σ1)) (h2 : bf ρ1 σ1 = some (.brk, ρ2, σ2)) :
    forGo false tf bf ef (n + 1) (.range c st (k + 1)) ρ σ = some (.next, ρ2, σ2) := by
  show (tf (.int c) ρ σ).bind _ = _
  rw [h1, Option.bind_some, h2]
  rfl
/-- an invariant over the turns -/
theorem for_range_inv {tf : AF} {bf ef : SF} {st : Int} (I : Nat → Fm → St → Prop) : ∀ (k j : Nat) (c : Int) (fuel : Nat) (ρ : Fm) (σ : St), k < fuel → I j ρ σ →
    (∀ i ρ σ, j ≤ i → i < j + k → I i ρ σ → ∃ ρ1 σ1 ρ2 σ2, tf (.int (c + ((i - j : Nat) : Int) * st)) ρ σ = some (ρ1, σ1) ∧ bf ρ1 σ1 = some (.next, ρ2, σ2) ∧ I (i + 1) ρ2 σ2) →
    ∃ ρ' σ', forGo false tf bf ef fuel (.range c st k) ρ σ = ef ρ' σ' ∧ I (j + k) ρ' σ'
  | 0, j, c, fuel, ρ, σ, hf, hI, _ => by
    obtain ⟨f, rfl⟩ : ∃ f, fuel = f + 1 := ⟨fuel - 1, by omega⟩
    exact ⟨ρ, σ, rfl, hI⟩
  | k + 1, j, c, fuel, ρ, σ, hf, hI, step => by
    obtain ⟨f, rfl⟩ : ∃ f, fuel = f + 1 := ⟨fuel - 1, by omega⟩
    obtain ⟨ρ1, σ1, ρ2, σ2, h1, h2, h3⟩ := step j ρ σ (Nat.le_refl _) (by omega) hI
    rw [Nat.sub_self] at h1
    rw [for_range_next (by simpa using h1) h2]
    obtain ⟨ρ', σ', e, hI'⟩ := for_range_inv I k (j + 1) (c + st) f ρ2 σ2 (by omega) h3 fun i ρ σ hi1 hi2 hi => by
      obtain ⟨a1, a2, a3, a4, b1, b2, b3⟩ := step i ρ σ (by omega) (by omega) hi
      refine ⟨a1, a2, a3, a4, ?_, b2, b3⟩
      have e1 : ((i - j : Nat) : Int) = ((i - (j + 1) : Nat) : Int) + 1 := by omega
      have e2 : c + st + ((i - (j + 1) : Nat) : Int) * st = c + ((i - j : Nat) : Int) * st := by rw [e1, Int.add_mul, Int.one_mul]; omega
      rw [e2]
      exact b1
    exact ⟨ρ', σ', e, by rwa [show j + (k + 1) = j + 1 + k by omega]⟩

/-! pretty_flags -/
noncomputable def flagList (n : Nat) : List Str := if n = 0 then [hexS 0] else (bitsFrom 32 0 n).map nameOf
theorem bits_zero : ∀ k i, bitsFrom k i 0 = []
  | 0, _ => rfl
  | k + 1, i => by
    show bitsFrom k (i + 1) 0 = []
    exact bits_zero k (i + 1)
theorem hex0_short : (hexS 0).length ≤ 65536 := by decide +kernel
theorem pf_end (x y : Option AV) (names : List AV) (hn : names.length ≤ 65536) : pretty_flags_e1 [some (.int 0), some (.ref 0), x, y] [.list names] = some (.next, [some (.int 0), some (.ref 0), x, y], [.list (names ++ [.str (hexS 0)])]) := by
  have e3 : ∀ σ : St, hexO [.int 0] σ = some (.str (hexS 0), σ) := fun σ => by
    unfold hexO
    dsimp only
    rw [if_pos hex0_short]
  have e7 : appO (.ref 0) [.str (hexS 0)] [.list names] = some (.con .none, [.list (names ++ [.str (hexS 0)])]) := by
    unfold appO
    simp [hn]
  have e8 : okL (.ref 0) [.list names] = true := rfl
  simp only [pretty_flags_e1, pretty_flags_s5, seqS, skipS, exprS, methO, varE, Fm.get, List.getD_cons_zero, List.getD_cons_succ, Option.map_some, Option.bind_some, e8, if_true, consEs, callE, nilEs, e3, e7]
theorem pf_loop : ∀ (k i q fuel : Nat) (x y : Option AV) (names : List AV), i + k = 32 → q < 2 ^ k → k < fuel → names.length + k ≤ 40 →
    ∃ a b c, forGo false (nameA 2) pretty_flags_b1 pretty_flags_e1 fuel (.range i 1 k) [some (.int ((2 ^ i * q : Nat) : Int)), some (.ref 0), x, y] [.list names] =
      some (.next, [a, some (.ref 0), b, c], [.list (names ++ (if q = 0 then [.str (hexS 0)] else (bitsFrom k i q).map fun i => .str (nameOf i)))])
  | 0, i, q, fuel, x, y, names, hi, hq, hf, hl => by
    obtain ⟨f, rfl⟩ : ∃ f, fuel = f + 1 := ⟨fuel - 1, by omega⟩
    have : q = 0 := by omega
    subst this
    rw [for_range_zero, Nat.mul_zero]
    exact ⟨_, _, _, pf_end x y names (by omega)⟩
  | k + 1, i, q, fuel, x, y, names, hi, hq, hf, hl => by
    obtain ⟨f, rfl⟩ : ∃ f, fuel = f + 1 := ⟨fuel - 1, by omega⟩
    have ha : nameA 2 (.int (i : Int)) [some (.int ((2 ^ i * q : Nat) : Int)), some (.ref 0), x, y] [.list names] = some ([some (.int ((2 ^ i * q : Nat) : Int)), some (.ref 0), some (.int i), y], [.list names]) := rfl
    have h2 : 2 ^ (k + 1) = 2 * 2 ^ k := by rw [Nat.pow_succ]; omega
    have hi1 : ((i : Int) + 1) = ((i + 1 : Nat) : Int) := by omega
    rcases Nat.mod_two_eq_zero_or_one q with hq2 | hq2
    · rw [for_range_next ha (pf_even i q (by omega) hq2 y names), hi1]
      have e1 : 2 ^ i * q = 2 ^ (i + 1) * (q / 2) := by
        rw [Nat.pow_succ, Nat.mul_assoc]
        congr 1
        omega
      rw [e1]
      obtain ⟨a, b, c, h⟩ := pf_loop k (i + 1) (q / 2) f _ _ names (by omega) (by omega) (by omega) (by omega)
      refine ⟨a, b, c, h.trans ?_⟩
      congr 6
      by_cases hz : q = 0
      · subst hz; rfl
      · rw [if_neg hz, if_neg (by omega)]
        show _ = (if q % 2 = 1 then _ else _ : List Nat).map _
        rw [if_neg (by omega)]
    · by_cases hz : q - 1 = 0
      · have h := pf_odd i q (by omega) hq2 y names (by omega)
        rw [if_pos hz] at h
        rw [for_range_brk ha h]
        refine ⟨some (.int ((2 ^ i * (q - 1) : Nat) : Int)), some (.int i), some (.int ((2 ^ i : Nat) : Int)), ?_⟩
        have e1 : q = 1 := by omega
        subst e1
        rw [if_neg (by omega)]
        show _ = some (Fl.next, _, [AO.list (names ++ (i :: bitsFrom k (i + 1) 0).map _)])
        rw [bits_zero]
        rfl
      · have h := pf_odd i q (by omega) hq2 y names (by omega)
        rw [if_neg hz] at h
        rw [for_range_next ha h, hi1]
        have e1 : 2 ^ i * (q - 1) = 2 ^ (i + 1) * (q / 2) := by
          rw [Nat.pow_succ, Nat.mul_assoc]
          congr 1
          omega
        rw [e1]
        obtain ⟨a, b, c, h⟩ := pf_loop k (i + 1) (q / 2) f _ _ (names ++ [.str (nameOf i)]) (by omega) (by omega) (by omega) (by simp; omega)
        refine ⟨a, b, c, h.trans ?_⟩
        rw [if_neg (by omega), if_neg (by omega), List.append_assoc]
        show _ = some (Fl.next, _, [AO.list (names ++ (if q % 2 = 1 then i :: bitsFrom k (i + 1) (q / 2) else _ : List Nat).map _)])
        rw [if_pos hq2]
        rfl
theorem strsOf_map : ∀ l : List Str, strsOf (l.map .str) = some l
  | [] => rfl
  | x :: l => by
    show (strsOf (l.map .str)).map (x :: ·) = _
    rw [strsOf_map l]
    rfl
theorem name_short : ∀ i, i < 32 → (nameOf i).length ≤ 20 := by decide +kernel
theorem bits_lt : ∀ k i q, ∀ j ∈ bitsFrom k i q, i ≤ j ∧ j < i + k
  | 0, _, _, _, h => nomatch h
  | k + 1, i, q, j, h => by
    unfold bitsFrom at h
    split at h
    · rcases List.mem_cons.mp h with rfl | h
      · omega
      · have := bits_lt k (i + 1) (q / 2) j h; omega
    · have := bits_lt k (i + 1) (q / 2) j h; omega
theorem bits_len : ∀ k i q, (bitsFrom k i q).length ≤ k
  | 0, _, _ => Nat.le_refl _
  | k + 1, i, q => by
    unfold bitsFrom
    split
    · have := bits_len k (i + 1) (q / 2); simp; omega
    · have := bits_len k (i + 1) (q / 2); omega
theorem flag_short (n : Nat) : (flagList n).length ≤ 32 ∧ ∀ s ∈ flagList n, s.length ≤ 20 := by
  unfold flagList
  split
  · refine ⟨by decide, fun s h => ?_⟩
    rw [List.mem_singleton.mp h]
    decide +kernel
  · refine ⟨by rw [List.length_map]; exact bits_len _ _ _, fun s h => ?_⟩
    obtain ⟨j, hj, rfl⟩ := List.mem_map.mp h
    exact name_short j (by have := bits_lt _ _ _ j hj; omega)
theorem fold_len (x : Str) (m : Nat) : ∀ (l : List Str) (a : Nat), (∀ s ∈ l, s.length ≤ m) → l.foldl (· + ·.length + x.length) a ≤ a + l.length * (m + x.length)
  | [], a, _ => by simp
  | s :: l, a, h => by
    have h1 := h s (List.mem_cons_self ..)
    have := fold_len x m l (a + s.length + x.length) fun s h' => h s (List.mem_cons_of_mem _ h')
    rw [List.foldl_cons, List.length_cons, Nat.add_mul]
    omega
theorem join_spec {l : List Str} {σ : St} {id : Nat} (hσ : σ[id]? = some (.list (l.map .str))) (hl : l.length ≤ 32) (hs : ∀ s ∈ l, s.length ≤ 20) : joinO (.str commaS) [.ref id] σ = some (.str (Builtin.Str.glued commaS l), σ) := by
  unfold joinO
  dsimp only
  rw [hσ]
  dsimp only
  rw [strsOf_map]
  dsimp only
  rw [if_pos]
  unfold Builtin.Str.tooLong
  have := fold_len commaS 20 l 0 hs
  have hcl := comma_len
  have hz : sizeLine = 2 ^ 24 := rfl
  rw [← Array.foldl_toList]
  simp only [decide_eq_false_iff_not, gt_iff_lt, hz]
  have h2 : l.length * (20 + commaS.length) ≤ 32 * 22 := by rw [hcl]; exact Nat.mul_le_mul_right _ hl
  omega
theorem plain_eq {n nl : Nat} {bf : SF} {as : List AV} {σ : St} (h : as.length = n) : plainF n nl bf as σ = callF nl bf as σ := if_pos h
theorem pretty_spec (n : Nat) (h : n < 2 ^ 32) : ∃ σ', op_pretty_flags_1 [.int n] [] = some (.str (Builtin.Str.glued commaS (flagList n)), σ') := by
  obtain ⟨a, b, c, hL⟩ := pf_loop 32 0 n 65536 none none [] rfl h (by omega) (by simp)
  rw [Nat.pow_zero, Nat.one_mul, List.nil_append] at hL
  have hfl : (if n = 0 then [AV.str (hexS 0)] else (bitsFrom 32 0 n).map fun i => AV.str (nameOf i)) = (flagList n).map .str := by
    unfold flagList
    split
    · rfl
    · rw [List.map_map]; rfl
  rw [hfl] at hL
  obtain ⟨h1, h2⟩ := flag_short n
  have hj := join_spec (σ := [.list ((flagList n).map .str)]) (id := 0) rfl h1 h2
  refine ⟨[.list ((flagList n).map .str)], ?_⟩
  refine (plain_eq (n := 1) rfl).trans ?_
  unfold callF
  have e1 : pretty_flags_F ([AV.int n].map some ++ List.replicate 3 none) [] = some (.ret (.str (Builtin.Str.glued commaS (flagList n))), [a, some (.ref 0), b, c], [.list ((flagList n).map .str)]) := by
    show (forGo false (nameA 2) pretty_flags_b1 pretty_flags_e1 65536 (.range (0 : Nat) 1 32) [some (.int n), some (.ref 0), none, none] [.list []] |>.bind fun p => match p.1 with | .next => seqS pretty_flags_s6 skipS p.2.1 p.2.2 | _ => some p) = _
    rw [hL, Option.bind_some]
    show (seqS pretty_flags_s6 skipS [a, some (.ref 0), b, c] [.list ((flagList n).map .str)]) = _
    have hj' : joinO (.str (Str.ofString ", ")) [.ref 0] [.list ((flagList n).map .str)] = some (.str (Builtin.Str.glued commaS (flagList n)), [.list ((flagList n).map .str)]) := hj
    simp only [pretty_flags_s6, seqS, retS, methO, valE, okS, if_true, consEs, nilEs, varE, Fm.get, List.getD_cons_zero, List.getD_cons_succ, Option.map_some, Option.bind_some, hj']
  rw [e1]
  rfl
end Mine
end
section
set_option maxRecDepth 100000
namespace Mine
theorem bit_add {n a : Nat} (h : n.testBit a = false) (j : Nat) : (2 ^ a + n).testBit j = (decide (a = j) || n.testBit j) := by
  rcases Nat.lt_trichotomy j a with hj | hj | hj
  · rw [Nat.testBit_two_pow_add_gt hj]
    have : ¬ a = j := by omega
    simp [this]
  · subst hj
    rw [Nat.testBit_two_pow_add_eq, h]
    simp
  · have hv : n % 2 ^ (a + 1) < 2 ^ a := by
      rw [Nat.testBit_eq_decide_div_mod_eq] at h
      have h2 : n / 2 ^ a % 2 = 0 := by
        have := Nat.mod_two_eq_zero_or_one (n / 2 ^ a)
        simp at h; omega
      rw [Nat.pow_succ, Nat.mod_mul, h2, Nat.mul_zero, Nat.add_zero]
      exact Nat.mod_lt _ (Nat.two_pow_pos a)
    have e1 : n = 2 ^ (a + 1) * (n / 2 ^ (a + 1)) + n % 2 ^ (a + 1) := (Nat.div_add_mod n (2 ^ (a + 1))).symm
    have e2 : 2 ^ a + n = 2 ^ (a + 1) * (n / 2 ^ (a + 1)) + (2 ^ a + n % 2 ^ (a + 1)) := by omega
    have hp : 2 ^ (a + 1) = 2 * 2 ^ a := by rw [Nat.pow_succ]; omega
    have hne : ¬ a = j := by omega
    rw [e2, Nat.testBit_two_pow_mul_add _ (by omega), if_neg (by omega)]
    conv => rhs; rw [e1, Nat.testBit_two_pow_mul_add _ (by omega), if_neg (by omega)]
    simp [hne]
theorem sum_bits : ∀ {S : List Nat}, S.Nodup → ∀ j, ((S.map fun p => 2 ^ p).sum).testBit j = decide (j ∈ S)
  | [], _, j => by simp
  | a :: S, h, j => by
    obtain ⟨ha, hS⟩ := List.nodup_cons.mp h
    have ih := sum_bits hS
    rw [List.map_cons, List.sum_cons, bit_add (by rw [ih]; simp [ha]), ih]
    by_cases hj : a = j
    · subst hj; simp
    · have : ¬ j = a := fun e => hj e.symm
      simp [hj, this]
theorem sum_lt {S : List Nat} {k : Nat} (h : S.Nodup) (hlt : ∀ p ∈ S, p < k) : (S.map fun p => 2 ^ p).sum < 2 ^ k := by
  apply Nat.lt_pow_two_of_testBit
  intro i hi
  rw [sum_bits h]
  simp only [decide_eq_false_iff_not]
  intro hm
  have := hlt i hm
  omega
theorem mem_bits : ∀ (k i q j : Nat), j ∈ bitsFrom k i q ↔ i ≤ j ∧ j < i + k ∧ q.testBit (j - i) = true
  | 0, i, q, j => by
    constructor
    · intro h; cases h
    · intro h; omega
  | k + 1, i, q, j => by
    have ih := mem_bits k (i + 1) (q / 2) j
    have key : j ≠ i → i ≤ j → (q / 2).testBit (j - (i + 1)) = q.testBit (j - i) := fun h1 h2 => by
      rw [Nat.testBit_div_two, show j - (i + 1) + 1 = j - i by omega]
    have key0 : q.testBit (i - i) = decide (q % 2 = 1) := by rw [Nat.sub_self, Nat.testBit_zero]
    unfold bitsFrom
    split
    · rename_i hq
      rw [List.mem_cons, ih]
      constructor
      · rintro (rfl | ⟨h1, h2, h3⟩)
        · exact ⟨Nat.le_refl _, by omega, by rw [key0]; simp [hq]⟩
        · rw [key (by omega) (by omega)] at h3
          exact ⟨by omega, by omega, h3⟩
      · rintro ⟨h1, h2, h3⟩
        by_cases hj : j = i
        · exact .inl hj
        · rw [← key hj h1] at h3
          exact .inr ⟨by omega, by omega, h3⟩
    · rename_i hq
      rw [ih]
      constructor
      · rintro ⟨h1, h2, h3⟩
        rw [key (by omega) (by omega)] at h3
        exact ⟨by omega, by omega, h3⟩
      · rintro ⟨h1, h2, h3⟩
        by_cases hj : j = i
        · subst hj
          rw [key0] at h3
          exact absurd (of_decide_eq_true h3) hq
        · rw [← key hj h1] at h3
          exact ⟨by omega, by omega, h3⟩

/-! the names -/
noncomputable def nameC (i : Nat) : List Nat := (nameOf i).cps.toList
theorem names_apart : ((List.range 32).map nameC).Nodup := by decide +kernel
theorem names_plain : ((List.range 32).all fun i => !(nameC i).contains 44 && !((nameC i) == (hexS 0).cps.toList)) = true := by decide +kernel
theorem hex0_plain : (hexS 0).cps.toList.contains 44 = false := by decide +kernel
theorem name_inj {i j : Nat} (hi : i < 32) (hj : j < 32) (h : nameC i = nameC j) : i = j := by
  have := (List.getElem?_inj (i := i) (j := j) (by simpa using hi) names_apart).mp (by
    rw [List.getElem?_map, List.getElem?_map, List.getElem?_range hi, List.getElem?_range hj]
    exact congrArg some h)
  exact this
theorem name_plain {i : Nat} (hi : i < 32) : 44 ∉ nameC i ∧ nameC i ≠ (hexS 0).cps.toList := by
  have := List.all_eq_true.mp names_plain i (List.mem_range.mpr hi)
  rw [Bool.and_eq_true] at this
  refine ⟨fun h => ?_, fun h => ?_⟩
  · have h1 := this.1
    rw [List.contains_iff_mem.mpr h] at h1
    cases h1
  · have h1 := this.2
    rw [h] at h1
    simp at h1
theorem flag_plain {n : Nat} (h32 : n < 2 ^ 32) : flagList n ≠ [] ∧ ∀ s ∈ flagList n, 44 ∉ s.cps.toList := by
  unfold flagList
  split
  · refine ⟨by simp, fun s h hm => ?_⟩
    rw [List.mem_singleton.mp h] at hm
    have := hex0_plain
    rw [List.contains_iff_mem.mpr hm] at this
    cases this
  · rename_i hn
    refine ⟨fun h => ?_, fun s h => ?_⟩
    · obtain ⟨i, hi⟩ := Nat.exists_testBit_of_ne_zero hn
      have hi32 : i < 32 := by
        rcases Nat.lt_or_ge i 32 with h' | h'
        · exact h'
        · have h1 := Nat.ge_two_pow_of_testBit hi
          have h2 : 2 ^ 32 ≤ 2 ^ i := Nat.pow_le_pow_right (by omega) h'
          omega
      have hm : i ∈ bitsFrom 32 0 n := (mem_bits _ _ _ _).mpr ⟨by omega, by omega, by simpa using hi⟩
      have := congrArg List.length h
      rw [List.length_map] at this
      have h0 : bitsFrom 32 0 n = [] := List.length_eq_zero_iff.mp this
      rw [h0] at hm
      cases hm
    · obtain ⟨j, hj, rfl⟩ := List.mem_map.mp h
      have := bits_lt _ _ _ j hj
      exact (name_plain (i := j) (by omega)).1
theorem told_has (n : Nat) {p : Nat} (hp : p < 32) : ((flagList n).any fun m => m.cps.toList == (nameOf p).cps.toList) = n.testBit p := by
  unfold flagList
  split
  · rename_i h0
    subst h0
    have := (name_plain hp).2
    simp only [List.any_cons, List.any_nil, Bool.or_false, Nat.zero_testBit]
    rw [beq_eq_false_iff_ne]
    exact fun h => this h.symm
  · rw [Bool.eq_iff_iff, List.any_eq_true]
    constructor
    · rintro ⟨s, hs, he⟩
      obtain ⟨j, hj, rfl⟩ := List.mem_map.mp hs
      have hb := (mem_bits _ _ _ _).mp hj
      have : j = p := name_inj (by omega) hp (eq_of_beq he)
      subst this
      simpa using hb.2.2
    · intro h
      refine ⟨nameOf p, List.mem_map.mpr ⟨p, (mem_bits _ _ _ _).mpr ⟨by omega, by omega, by simpa using h⟩, rfl⟩, by simp⟩
end Mine
end
section
set_option maxRecDepth 100000
namespace Mine
/-! the rows of the tape -/
noncomputable abbrev avN (l : List Nat) : List AV := l.map fun (n : Nat) => AV.int (n : Int)
noncomputable abbrev avS (l : List Str) : List AV := l.map .str
noncomputable def lackL (c : Nat) : Nat → Nat → List Nat
  | _, 0 => []
  | r, k + 1 => (if c / 2 ^ r % 2 = 1 then 0 else 1) :: lackL c (r + 1) k
noncomputable def rowL (c k : Nat) : List Nat := lackL c 0 k ++ [k - (lackL c 0 k).sum]
noncomputable def selP (c : Nat) : Nat → List Nat → List Nat
  | _, [] => []
  | r, p :: ps => if c / 2 ^ r % 2 = 1 then p :: selP c (r + 1) ps else selP c (r + 1) ps
noncomputable def choiceN (code size t : Nat) : Nat := (code + (2 * (code / size) + 1) * t) % size
theorem selP_cons {c r q : Nat} {ps : List Nat} : selP c r (q :: ps) = if c / 2 ^ r % 2 = 1 then q :: selP c (r + 1) ps else selP c (r + 1) ps := rfl
theorem selP_sub : ∀ (c r : Nat) (ps : List Nat), ∀ p ∈ selP c r ps, p ∈ ps
  | _, _, [], _, h => nomatch h
  | c, r, q :: ps, p, h => by
    unfold selP at h
    split at h
    · rcases List.mem_cons.mp h with rfl | h
      · exact List.mem_cons_self ..
      · exact List.mem_cons_of_mem _ (selP_sub c (r + 1) ps p h)
    · exact List.mem_cons_of_mem _ (selP_sub c (r + 1) ps p h)
theorem selP_nodup : ∀ (c r : Nat) (ps : List Nat), ps.Nodup → (selP c r ps).Nodup
  | _, _, [], _ => List.nodup_nil
  | c, r, q :: ps, h => by
    obtain ⟨h1, h2⟩ := List.nodup_cons.mp h
    unfold selP
    split
    · exact List.nodup_cons.mpr ⟨fun hm => h1 (selP_sub c (r + 1) ps q hm), selP_nodup c (r + 1) ps h2⟩
    · exact selP_nodup c (r + 1) ps h2
theorem lack_of_sel : ∀ (c r : Nat) (ps : List Nat) (S : List Nat), ps.Nodup → (∀ p ∈ ps, (p ∈ S ↔ p ∈ selP c r ps)) → (ps.map fun p => if decide (p ∈ S) = true then 0 else 1) = lackL c r ps.length
  | _, _, [], _, _, _ => rfl
  | c, r, q :: ps, S, h, hS => by
    obtain ⟨h1, h2⟩ := List.nodup_cons.mp h
    have hq := hS q (List.mem_cons_self ..)
    show (if decide (q ∈ S) = true then 0 else 1) :: ps.map _ = (if c / 2 ^ r % 2 = 1 then 0 else 1) :: lackL c (r + 1) ps.length
    have ih := lack_of_sel c (r + 1) ps S h2 fun p hp => by
      have := hS p (List.mem_cons_of_mem _ hp)
      rw [this, selP_cons]
      by_cases hc : c / 2 ^ r % 2 = 1
      · rw [if_pos hc, List.mem_cons]
        constructor
        · rintro (rfl | h')
          · exact absurd hp h1
          · exact h'
        · exact .inr
      · rw [if_neg hc]
    rw [ih]
    congr 1
    rw [selP_cons] at hq
    by_cases hc : c / 2 ^ r % 2 = 1
    · rw [if_pos hc] at hq
      rw [if_pos hc, if_pos (by simp [hq])]
    · rw [if_neg hc] at hq
      rw [if_neg hc, if_neg]
      simp only [decide_eq_true_eq, hq]
      exact fun h' => h1 (selP_sub c (r + 1) ps q h')
theorem lackL_length : ∀ (c r k : Nat), (lackL c r k).length = k
  | _, _, 0 => rfl
  | c, r, k + 1 => by show (lackL c (r + 1) k).length + 1 = k + 1; rw [lackL_length]
theorem lackL_le : ∀ (c r k : Nat), ∀ x ∈ lackL c r k, x ≤ 1
  | _, _, 0, _, h => nomatch h
  | c, r, k + 1, x, h => by
    rcases List.mem_cons.mp h with rfl | h
    · split <;> omega
    · exact lackL_le c (r + 1) k x h
theorem lackL_sum (c k : Nat) : (lackL c 0 k).sum ≤ k := by
  have : ∀ (l : List Nat), (∀ x ∈ l, x ≤ 1) → l.sum ≤ l.length := by
    intro l
    induction l with
    | nil => intro _; simp
    | cons a l ih =>
      intro h
      have h1 := h a (List.mem_cons_self ..)
      have h2 := ih fun x hx => h x (List.mem_cons_of_mem _ hx)
      rw [List.sum_cons, List.length_cons]
      omega
  have h := this _ (lackL_le c 0 k)
  rwa [lackL_length] at h
theorem rowL_length (c k : Nat) : (rowL c k).length = k + 1 := by unfold rowL; rw [List.length_append, lackL_length]; rfl
theorem rowL_le (c k : Nat) : ∀ x ∈ rowL c k, x ≤ max 1 k := by
  intro x hx
  rcases List.mem_append.mp hx with h | h
  · have := lackL_le c 0 k x h; omega
  · rw [List.mem_singleton.mp h]; omega

/-! ints of lists -/
theorem intsOf_avN (l : List Nat) : intsOf (avN l) = some (l.map fun (n : Nat) => (n : Int)) := by
  induction l with
  | nil => rfl
  | cons a l ih =>
    show (intsOf (avN l)).map ((a : Int) :: ·) = _
    rw [ih]; rfl
theorem sum_cast (l : List Nat) : (l.map fun (n : Nat) => (n : Int)).sum = (l.sum : Int) := by
  induction l with
  | nil => rfl
  | cons a l ih => rw [List.map_cons, List.sum_cons, List.sum_cons, ih]; omega
theorem sumO_avN {σ : St} {id : Nat} {l : List Nat} (h : σ[id]? = some (.list (avN l))) : sumO [.ref id] σ = some (.int (l.sum : Nat), σ) := by
  unfold sumO
  dsimp only
  rw [h]
  dsimp only
  rw [intsOf_avN, Option.map_some, sum_cast]
theorem lenO_list {σ : St} {id : Nat} {l : List AV} (h : σ[id]? = some (.list l)) (hl : l.length ≤ 65536) : lenO [.ref id] σ = some (.int (l.length : Nat), σ) := by
  unfold lenO
  dsimp only
  rw [h]
  dsimp only
  rw [if_pos hl]
theorem fdiv_nat (a b : Nat) : ((a : Int).fdiv (b : Int)) = ((a / b : Nat) : Int) := by rw [Int.fdiv_eq_ediv_of_nonneg _ (by omega)]; rfl
theorem fmod_nat (a b : Nat) : ((a : Int).fmod (b : Int)) = ((a % b : Nat) : Int) := by rw [Int.fmod_eq_emod_of_nonneg _ (by omega)]; rfl
theorem modO_nat {a b : Nat} {σ : St} (hb : b ≠ 0) : modO (.int a) (.int b) σ = some (.int ((a % b : Nat) : Int), σ) := by
  unfold modO
  dsimp only
  rw [if_neg (by omega), fmod_nat]
theorem fdivO_nat {a b : Nat} {σ : St} (hb : b ≠ 0) (h2 : b < 1073741824) : fdivO (.int a) (.int b) σ = some (.int ((a / b : Nat) : Int), σ) := by
  unfold fdivO
  dsimp only
  rw [if_neg (by omega), fdiv_nat]
theorem shlO_nat {p : Nat} {σ : St} (h : p ≤ 1000) : shlO (.int 1) (.int p) σ = some (.int ((2 ^ p : Nat) : Int), σ) := by
  unfold shlO
  dsimp only
  rw [if_pos ⟨by omega, by omega, by decide⟩, Int.toNat_natCast, pow_cast]
theorem shrO_nat {c r : Nat} {σ : St} : shrO (.int c) (.int r) σ = some (.int ((c / 2 ^ r : Nat) : Int), σ) := by
  unfold shrO
  dsimp only
  rw [if_pos (by omega), Int.toNat_natCast, show ((2 : Int) ^ r) = ((2 ^ r : Nat) : Int) by norm_cast, fdiv_nat]
theorem mem_enumV : ∀ {xs : List AV} {i : Nat} {a : AV}, a ∈ enumV i xs → ∃ (r : Nat) (x : AV), a = .tup [.int r, x] ∧ x ∈ xs
  | [], _, _, h => nomatch h
  | x :: xs, i, a, h => by
    rcases List.mem_cons.mp h with rfl | h
    · exact ⟨i, x, rfl, List.mem_cons_self ..⟩
    · obtain ⟨r, y, e, hy⟩ := mem_enumV h
      exact ⟨r, y, e, List.mem_cons_of_mem _ hy⟩
noncomputable def pickO (c : Nat) : AV → Option AV
  | .tup [.int r, .int p] => if c / 2 ^ r.toNat % 2 = 1 then some (.int ((2 ^ p.toNat : Nat) : Int)) else none
  | _ => none
theorem pick_sel : ∀ (c r : Nat) (ps : List Nat), (enumV r (avN ps)).filterMap (pickO c) = avN ((selP c r ps).map fun p => 2 ^ p)
  | _, _, [] => rfl
  | c, r, p :: ps => by
    show (AV.tup [.int r, .int p] :: enumV (r + 1) (avN ps)).filterMap (pickO c) = _
    rw [List.filterMap_cons, pick_sel c (r + 1) ps]
    unfold pickO
    simp only [Int.toNat_natCast]
    rw [selP_cons]
    by_cases hc : c / 2 ^ r % 2 = 1
    · simp only [if_pos hc]; rfl
    · simp only [if_neg hc]
theorem joined_short {n : Nat} : (Builtin.Str.glued commaS (flagList n)).length ≤ 65536 := by
  obtain ⟨h1, h2⟩ := flag_short n
  rw [size_glued]
  have hs : ∀ (l : List Str), (∀ s ∈ l, s.length ≤ 20) → (l.map (·.length)).sum ≤ l.length * 20 := by
    intro l
    induction l with
    | nil => intro _; simp
    | cons a l ih =>
      intro h
      have h1 := h a (List.mem_cons_self ..)
      have h2 := ih fun s hs => h s (List.mem_cons_of_mem _ hs)
      rw [List.map_cons, List.sum_cons, List.length_cons]
      omega
  have h3 := hs _ h2
  rw [comma_len]
  omega
end Mine
end
section
set_option maxRecDepth 100000
namespace Mine
/-! the words -/
theorem word_all : ((List.range 32).all fun p => match op_law_word_1 [.int (p : Nat)] [] with | some (.str s, _) => s.cps.toList == nameC p | _ => false) = true := by decide +kernel
theorem word_spec {p : Nat} (hp : p < 32) (σ : St) : op_law_word_f [.int p] σ = some (.str (nameOf p), σ) := by
  have h := List.all_eq_true.mp word_all p (List.mem_range.mpr hp)
  revert h
  cases e : op_law_word_1 [.int (p : Nat)] [] with
  | none => intro h; cases h
  | some q =>
    obtain ⟨a, σ1⟩ := q
    cases a with
    | str s =>
      intro h
      have hs : s = nameOf p := str_of_list (eq_of_beq h)
      subst hs
      have := frame0 (op := op_law_word_1) (σ := σ) (as := [.int p]) rfl e (adopt_none (ids := []) (σ := σ) (σ1 := σ1) (r := .str (nameOf p)) rfl)
      rwa [List.append_nil] at this
    | _ => intro h; cases h
theorem pretty_f {n : Nat} (h : n < 2 ^ 32) (σ : St) : op_pretty_flags_f [.int n] σ = some (.str (Builtin.Str.glued commaS (flagList n)), σ) := by
  obtain ⟨σ1, e⟩ := pretty_spec n h
  have := frame0 (op := op_pretty_flags_1) (σ := σ) (as := [.int n]) rfl e (adopt_none (ids := []) (σ := σ) (σ1 := σ1) (r := .str (Builtin.Str.glued commaS (flagList n))) rfl)
  rwa [List.append_nil] at this
theorem split_f {n : Nat} (h : n < 2 ^ 32) (σ : St) : splO (.str (Builtin.Str.glued commaS (flagList n))) [.str (Str.ofString ", ")] σ = some (.ref σ.length, σ ++ [.list (avS (flagList n))]) := by
  obtain ⟨h1, h2⟩ := flag_plain h
  unfold splO
  dsimp only
  rw [if_pos ⟨by decide +kernel, joined_short⟩]
  show some (AV.ref σ.length, σ ++ [AO.list ((Txt.split (Builtin.Str.glued commaS (flagList n)) commaS).map .str)]) = _
  rw [split_join h1 h2]

/-! _law_tape, turn by turn -/
section
variable {ps : List Nat} {code t : Nat} {σ : St} {T : List Nat}
noncomputable abbrev tapeP (ps : List Nat) : List AV := avN ps
noncomputable abbrev tapeW (ps : List Nat) : List AV := avS (ps.map nameOf)
theorem tape_s4 {r0 r3 r4 x6 x7 x8 x9 : Option AV} {size : Nat} (hs : size ≠ 0) (hs2 : size < 1073741824) (hc : code < 1000000) :
    law_tape_s4 [r0, some (.int code), some (.int size), r3, r4, some (.int t), x6, x7, x8, x9] σ = some (.next, [r0, some (.int code), some (.int size), r3, r4, some (.int t), some (.int (choiceN code size t : Nat)), x7, x8, x9], σ) := by
  have e1 : mulO (.int 2) (.int ((code / size : Nat) : Int)) σ = some (.int ((2 * (code / size) : Nat) : Int), σ) := by
    unfold mulO
    dsimp only
    rw [if_pos (by decide)]
    congr 2
  have hq : code / size ≤ code := Nat.div_le_self ..
  have e2 : mulO (.int ((2 * (code / size) + 1 : Nat) : Int)) (.int t) σ = some (.int (((2 * (code / size) + 1) * t : Nat) : Int), σ) := by
    unfold mulO
    dsimp only
    rw [if_pos (by unfold i64; rw [Int.natAbs_natCast]; generalize code / size = q at hq ⊢; exact decide_eq_true (by omega))]
    congr 2
  have a1 : addO (.int ((2 * (code / size) : Nat) : Int)) (.int 1) σ = some (.int ((2 * (code / size) + 1 : Nat) : Int), σ) := rfl
  have a2 : addO (.int code) (.int (((2 * (code / size) + 1) * t : Nat) : Int)) σ = some (.int ((code + (2 * (code / size) + 1) * t : Nat) : Int), σ) := rfl
  simp only [law_tape_s4, asgS, binE, varE, valE, Fm.get, Fm.put, List.getD_cons_zero, List.getD_cons_succ, List.set_cons_succ, List.set_cons_zero, Option.map_some, Option.bind_some, fdivO_nat hs hs2, e1, a1, e2, a2, modO_nat hs]
  rfl
theorem tape_s5 {r1 r2 r3 r4 r5 x7 x8 x9 : Option AV} {c : Nat} (h0 : σ[0]? = some (.list (tapeP ps))) (hp : ∀ p ∈ ps, p < 32) (hl : ps.length ≤ 32) :
    law_tape_s5 [some (.ref 0), r1, r2, r3, r4, r5, some (.int c), x7, x8, x9] σ = some (.next, [some (.ref 0), r1, r2, r3, r4, r5, some (.int c), some (.int (((selP c 0 ps).map fun p => 2 ^ p).sum : Nat)), x8, x9], σ ++ [.list (avN ((selP c 0 ps).map fun p => 2 ^ p))]) := by
  have hy : Yields true (fun s => s = σ) (.enumL 0 0) (enumV 0 ((tapeP ps).drop 0)) := yields_enum (fun s hs => by rw [hs]; exact h0) _ 0 (Nat.add_zero _)
  rw [List.drop_zero] at hy
  have hc := comp_pure (tt := true) (tf := tupA 2 (consA (nameA 0) (consA (nameA 1) nilA))) (ts := cmpT eqO (binE modO (binE shrO (varE 2) (varE 0)) (valE (.int 2))) (valE (.int 1))) (ef := binE shlO (valE (.int 1)) (varE 1)) (σ := σ)
    (fun ρ => ∃ x y, ρ = [x, y, some (.int c)]) (pickO c) _ _ 65536 [none, none, some (.int c)] hy (by rw [enumV_length, List.length_map]; omega) ⟨_, _, rfl⟩ (by
      rintro a ha ρ ⟨x, y, rfl⟩
      obtain ⟨r, z, rfl, hz⟩ := mem_enumV ha
      obtain ⟨p, hpm, rfl⟩ := List.mem_map.mp hz
      have hp32 := hp p hpm
      refine ⟨[some (.int r), some (.int p), some (.int c)], ⟨_, _, rfl⟩, rfl, ?_⟩
      have ht : cmpT eqO (binE modO (binE shrO (varE 2) (varE 0)) (valE (.int 2))) (valE (.int 1)) [some (.int r), some (.int p), some (.int c)] σ = some ((((c / 2 ^ r % 2 : Nat) : Int) == 1), σ) := by
        have m2 := modO_nat (a := c / 2 ^ r) (b := 2) (σ := σ) (by omega)
        have m2' : modO (.int ((c / 2 ^ r : Nat) : Int)) (.int 2) σ = some (.int ((c / 2 ^ r % 2 : Nat) : Int), σ) := m2
        simp only [cmpT, binE, varE, valE, Fm.get, List.getD_cons_zero, List.getD_cons_succ, Option.map_some, Option.bind_some, shrO_nat, m2', eqO]
      rw [ht]
      unfold pickO
      simp only [Int.toNat_natCast]
      by_cases hb : c / 2 ^ r % 2 = 1
      · left
        refine ⟨_, by rw [if_pos hb], by rw [hb]; rfl, ?_⟩
        simp only [binE, varE, valE, Fm.get, List.getD_cons_zero, List.getD_cons_succ, Option.map_some, Option.bind_some, shlO_nat (p := p) (σ := σ) (by omega)]
      · right
        refine ⟨by rw [if_neg hb], ?_⟩
        have : c / 2 ^ r % 2 = 0 := by omega
        rw [this]; rfl)
  rw [pick_sel] at hc
  have hE : compE true 65536 [none, none, some 6] (enumI (consEs (varE 0) nilEs)) (tupA 2 (consA (nameA 0) (consA (nameA 1) nilA))) (cmpT eqO (binE modO (binE shrO (varE 2) (varE 0)) (valE (.int 2))) (valE (.int 1))) (binE shlO (valE (.int 1)) (varE 1))
      [some (.ref 0), r1, r2, r3, r4, r5, some (.int c), x7, x8, x9] σ = some (.ref σ.length, σ ++ [.list (avN ((selP c 0 ps).map fun p => 2 ^ p))]) := by
    have hi : enumI (consEs (varE 0) nilEs) [some (.ref 0), r1, r2, r3, r4, r5, some (.int c), x7, x8, x9] σ = some (.enumL 0 0, σ) := by
      simp only [enumI, consEs, nilEs, varE, Fm.get, List.getD_cons_zero, Option.map_some, Option.bind_some, h0]
    unfold compE
    rw [hi, Option.bind_some]
    show (compGo true _ _ _ 65536 (.enumL 0 0) [none, none, some (.int c)] σ).bind _ = _
    rw [hc]
    rfl
  have hs := sumO_avN (σ := σ ++ [.list (avN ((selP c 0 ps).map fun p => 2 ^ p))]) (id := σ.length) get_new
  simp only [law_tape_s5, asgS, callE, consEs, nilEs, hE, Option.bind_some, hs, Fm.put, List.set_cons_succ, List.set_cons_zero]
theorem tape_s6 {r0 r1 r2 r3 r4 r5 x6 x8 x9 : Option AV} {n : Nat} (h : n < 2 ^ 32) :
    law_tape_s6 [r0, r1, r2, r3, r4, r5, x6, some (.int n), x8, x9] σ = some (.next, [r0, r1, r2, r3, r4, r5, x6, some (.int n), some (.ref σ.length), x9], σ ++ [.list (avS (flagList n))]) := by
  simp only [law_tape_s6, asgS, methO, callE, consEs, nilEs, varE, valE, Fm.get, Fm.put, List.getD_cons_zero, List.getD_cons_succ, List.set_cons_succ, List.set_cons_zero, Option.map_some, Option.bind_some, pretty_f h, okS, if_true, split_f h]
noncomputable def lackO (n : Nat) : AV → Option AV
  | .str x => some (.int (if ((flagList n).any fun m => m.cps.toList == x.cps.toList) = true then 0 else 1))
  | _ => none
theorem tape_s7 {r0 r1 r2 r4 r5 x6 x7 x9 : Option AV} {n id : Nat} (h1 : σ[1]? = some (.list (tapeW ps))) (ht : σ[id]? = some (.list (avS (flagList n)))) (hp : ∀ p ∈ ps, p < 32) (hl : ps.length ≤ 32) :
    law_tape_s7 [r0, r1, r2, some (.ref 1), r4, r5, x6, x7, some (.ref id), x9] σ = some (.next, [r0, r1, r2, some (.ref 1), r4, r5, x6, x7, some (.ref id), some (.ref σ.length)], σ ++ [.list (avN (ps.map fun p => if n.testBit p = true then 0 else 1))]) := by
  have hy : Yields false (fun s => s = σ) (.list 1 0) ((tapeW ps).drop 0) := yields_list (fun s hs => by rw [hs]; exact h1) _ 0 (Nat.add_zero _)
  rw [List.drop_zero] at hy
  have hc := comp_pure (tt := false) (tf := nameA 0) (ts := trueT) (ef := ifE (cmpT inO (varE 0) (varE 1)) (valE (.int 0)) (valE (.int 1))) (σ := σ) (fun ρ => ∃ x, ρ = [x, some (.ref id)]) (lackO n) _ _ 65536 [none, some (.ref id)] hy
    (by simp; omega) ⟨_, rfl⟩ (by
      rintro a ha ρ ⟨x, rfl⟩
      obtain ⟨s, hs, rfl⟩ := List.mem_map.mp ha
      refine ⟨[some (.str s), some (.ref id)], ⟨_, rfl⟩, rfl, .inl ⟨_, rfl, rfl, ?_⟩⟩
      have hin : inO (.str s) (.ref id) σ = some (.bool ((flagList n).any fun m => m.cps.toList == s.cps.toList), σ) := by
        unfold inO
        dsimp only
        rw [ht]
        dsimp only
        rw [strsOf_map]
        rfl
      simp only [ifE, cmpT, binE, varE, valE, Fm.get, List.getD_cons_zero, List.getD_cons_succ, Option.map_some, Option.bind_some, hin]
      split <;> rfl)
  have hf : (tapeW ps).filterMap (lackO n) = avN (ps.map fun p => if n.testBit p = true then 0 else 1) := by
    clear hc hy h1 hl
    induction ps with
    | nil => rfl
    | cons p ps ih =>
      show (AV.str (nameOf p) :: tapeW ps).filterMap (lackO n) = _
      rw [List.filterMap_cons, ih fun q hq => hp q (List.mem_cons_of_mem _ hq)]
      unfold lackO
      dsimp only
      rw [told_has n (hp p (List.mem_cons_self ..))]
      show AV.int _ :: _ = AV.int (((if n.testBit p = true then 0 else 1 : Nat)) : Int) :: _
      congr 2
      split <;> rfl
  rw [hf] at hc
  have hE : compE false 65536 [none, some 8] (seqI (varE 3)) (nameA 0) trueT (ifE (cmpT inO (varE 0) (varE 1)) (valE (.int 0)) (valE (.int 1))) [r0, r1, r2, some (.ref 1), r4, r5, x6, x7, some (.ref id), x9] σ =
      some (.ref σ.length, σ ++ [.list (avN (ps.map fun p => if n.testBit p = true then 0 else 1))]) := by
    have hi : seqI (varE 3) [r0, r1, r2, some (.ref 1), r4, r5, x6, x7, some (.ref id), x9] σ = some (.list 1 0, σ) := by
      simp only [seqI, varE, Fm.get, List.getD_cons_zero, List.getD_cons_succ, Option.map_some, Option.bind_some, h1]
    unfold compE
    rw [hi, Option.bind_some]
    show (compGo false _ _ _ 65536 (.list 1 0) [none, some (.ref id)] σ).bind _ = _
    rw [hc]
    rfl
  simp only [law_tape_s7, asgS, hE, Option.bind_some, Fm.put, List.set_cons_succ, List.set_cons_zero]
theorem tape_s8 {r0 r1 r2 r5 x6 x7 x8 : Option AV} {L : List Nat} {id : Nat} (h1 : σ[1]? = some (.list (tapeW ps))) (h2 : σ[2]? = some (.list (avN T))) (hL : σ[id]? = some (.list (avN L))) (hl : ps.length ≤ 32) (hLl : L.length ≤ 32) (hT : T.length ≤ 60000) (hs : L.sum ≤ ps.length) :
    law_tape_s8 [r0, r1, r2, some (.ref 1), some (.ref 2), r5, x6, x7, x8, some (.ref id)] σ =
      some (.next, [r0, r1, r2, some (.ref 1), some (.ref 2), r5, x6, x7, x8, some (.ref id)], ((σ ++ [AO.list (avN [ps.length - L.sum])]) ++ [AO.list (avN (L ++ [ps.length - L.sum]))]).set 2 (.list (avN (T ++ (L ++ [ps.length - L.sum]))))) := by
  have l1 := lenO_list h1 (by simp; omega)
  have l2 := sumO_avN hL
  have hlen : (tapeW ps).length = ps.length := by simp
  rw [hlen] at l1
  have s1 : subO (.int (ps.length : Nat)) (.int (L.sum : Nat)) σ = some (.int ((ps.length - L.sum : Nat) : Int), σ) := by
    unfold subO
    dsimp only
    congr 3
    omega
  have n1 : newL [AV.int ((ps.length - L.sum : Nat) : Int)] σ = some (.ref σ.length, σ ++ [.list (avN [ps.length - L.sum])]) := by
    unfold newL
    rw [if_pos (by simp)]
    rfl
  have hlt2 : 2 < σ.length := (List.getElem?_eq_some_iff.mp h2).1
  have a1 : addO (.ref id) (.ref σ.length) (σ ++ [.list (avN [ps.length - L.sum])]) = some (.ref (σ.length + 1), (σ ++ [.list (avN [ps.length - L.sum])]) ++ [.list (avN (L ++ [ps.length - L.sum]))]) := by
    unfold addO
    dsimp only
    rw [get_old hL, get_new]
    dsimp only
    unfold newL
    rw [if_pos (by simp; omega)]
    congr 2
    · simp
    · rw [← List.map_append]
  have i1 : iaddO (.ref 2) (.ref (σ.length + 1)) ((σ ++ [.list (avN [ps.length - L.sum])]) ++ [.list (avN (L ++ [ps.length - L.sum]))]) =
      some (.ref 2, ((σ ++ [AO.list (avN [ps.length - L.sum])]) ++ [AO.list (avN (L ++ [ps.length - L.sum]))]).set 2 (.list (avN (T ++ (L ++ [ps.length - L.sum]))))) := by
    unfold iaddO
    dsimp only
    have hn : ((σ ++ [.list (avN [ps.length - L.sum])]) ++ [AO.list (avN (L ++ [ps.length - L.sum]))])[σ.length + 1]? = some (.list (avN (L ++ [ps.length - L.sum]))) := by
      have := get_new (σ := σ ++ [.list (avN [ps.length - L.sum])]) (o := AO.list (avN (L ++ [ps.length - L.sum])))
      rwa [List.length_append] at this
    rw [if_neg (by omega), get_old (get_old h2), hn]
    dsimp only
    rw [if_pos (by simp; omega)]
    rw [← List.map_append]
  simp only [law_tape_s8, augS, binE, lstE, callE, consEs, nilEs, varE, Fm.get, Fm.put, List.getD_cons_zero, List.getD_cons_succ, List.set_cons_succ, List.set_cons_zero, Option.map_some, Option.bind_some, l1, l2, s1, n1, a1, i1]
end
end Mine
end
section
set_option maxRecDepth 100000
namespace Mine
noncomputable def tapeL (code k t : Nat) : List Nat := (List.range t).flatMap fun i => rowL (choiceN code (2 ^ k) i) k
theorem tapeL_succ (code k t : Nat) : tapeL code k (t + 1) = tapeL code k t ++ rowL (choiceN code (2 ^ k) t) k := by
  unfold tapeL
  rw [List.range_succ, List.flatMap_append]
  simp
theorem tapeL_length (code k : Nat) : ∀ t, (tapeL code k t).length = t * (k + 1)
  | 0 => by simp [tapeL]
  | t + 1 => by rw [tapeL_succ, List.length_append, tapeL_length, rowL_length, Nat.add_mul, Nat.one_mul]
theorem tapeL_le (code k : Nat) : ∀ t, ∀ x ∈ tapeL code k t, x ≤ max 1 k
  | 0, x, h => by simp [tapeL] at h
  | t + 1, x, h => by
    rw [tapeL_succ] at h
    rcases List.mem_append.mp h with h | h
    · exact tapeL_le code k t x h
    · exact rowL_le _ _ x h
theorem lacks_eq {ps : List Nat} (hn : ps.Nodup) (c : Nat) : (ps.map fun p => if ((((selP c 0 ps).map fun p => 2 ^ p).sum).testBit p) = true then 0 else 1) = lackL c 0 ps.length := by
  rw [← lack_of_sel c 0 ps (selP c 0 ps) hn fun p _ => Iff.rfl]
  apply List.map_congr_left
  intro p _
  rw [sum_bits (selP_nodup c 0 ps hn)]
theorem toNat_map (l : List Nat) : l.map (Int.toNat ∘ fun (n : Nat) => (n : Int)) = l := by
  conv => rhs; rw [← List.map_id l]
  exact List.map_congr_left fun n _ => Int.toNat_natCast n
theorem fits_long {i : Int} (h1 : -100000000 ≤ i) (h2 : i ≤ 100000000) : Builtin.Range.rangeFitsLong i = true := by
  unfold Builtin.Range.rangeFitsLong
  rw [Bool.and_eq_true]
  exact ⟨decide_eq_true (by omega), decide_eq_true (by omega)⟩
theorem range_size1 (a b : Nat) : Builtin.Range.rangeSize a b 1 = ((b - a : Nat) : Int) := by
  unfold Builtin.Range.rangeSize
  rw [if_pos (by omega)]
  split
  · rw [Int.ediv_one]; omega
  · omega
theorem rngIt_one {a b : Nat} (ha : a ≤ 65536) (hb : b ≤ 65536) : rngIt a b 1 = some (.range a 1 (b - a)) := by
  unfold rngIt
  rw [range_size1, Int.toNat_natCast, if_pos]
  refine ⟨?_, by omega⟩
  unfold Builtin.Range.small
  rw [range_size1]
  simp only [fits_long (i := (a : Int)) (by omega) (by omega), fits_long (i := (b : Int)) (by omega) (by omega), fits_long (i := 1) (by omega) (by omega), fits_long (i := ((b - a : Nat) : Int)) (by omega) (by omega), Bool.true_and]
  rw [if_pos (by omega), show (b : Int) + (1 - 1) = b by omega, fits_long (i := (b : Int)) (by omega) (by omega), Bool.or_true]
theorem tape_body {ps : List Nat} {code t : Nat} {σ : St} {T : List Nat} {x6 x7 x8 x9 : Option AV} (hn : ps.Nodup) (hp : ∀ p ∈ ps, p < 32) (hl : ps.length ≤ 5) (hc : code < 1000000) (hT : T.length ≤ 60000)
    (h0 : σ[0]? = some (.list (tapeP ps))) (h1 : σ[1]? = some (.list (tapeW ps))) (h2 : σ[2]? = some (.list (avN T))) :
    ∃ y6 y7 y8 y9 σ', law_tape_b1 [some (.ref 0), some (.int code), some (.int ((2 ^ ps.length : Nat) : Int)), some (.ref 1), some (.ref 2), some (.int t), x6, x7, x8, x9] σ =
      some (.next, [some (.ref 0), some (.int code), some (.int ((2 ^ ps.length : Nat) : Int)), some (.ref 1), some (.ref 2), some (.int t), y6, y7, y8, y9], σ') ∧
      σ'[0]? = some (.list (tapeP ps)) ∧ σ'[1]? = some (.list (tapeW ps)) ∧ σ'[2]? = some (.list (avN (T ++ rowL (choiceN code (2 ^ ps.length) t) ps.length))) := by
  have hsz : 2 ^ ps.length ≤ 2 ^ 5 := Nat.pow_le_pow_right (by omega) hl
  have hsz0 : 2 ^ ps.length ≠ 0 := Nat.ne_of_gt (Nat.two_pow_pos _)
  have e4 := tape_s4 (σ := σ) (r0 := some (.ref 0)) (r3 := some (.ref 1)) (r4 := some (.ref 2)) (x6 := x6) (x7 := x7) (x8 := x8) (x9 := x9) (t := t) hsz0 (by omega) hc
  generalize hch : choiceN code (2 ^ ps.length) t = c at e4 ⊢
  have e5 := tape_s5 (σ := σ) (r1 := some (.int code)) (r2 := some (.int ((2 ^ ps.length : Nat) : Int))) (r3 := some (.ref 1)) (r4 := some (.ref 2)) (r5 := some (.int t)) (x7 := x7) (x8 := x8) (x9 := x9) (c := c) h0 hp (by omega)
  have hlt : ((selP c 0 ps).map fun p => 2 ^ p).sum < 2 ^ 32 := sum_lt (selP_nodup c 0 ps hn) fun p h => hp p (selP_sub c 0 ps p h)
  have hlk := lacks_eq hn c
  generalize hnum : ((selP c 0 ps).map fun p => 2 ^ p).sum = n at e5 hlt hlk
  generalize hσ5 : σ ++ [AO.list (avN ((selP c 0 ps).map fun p => 2 ^ p))] = σ5 at e5
  have e6 := tape_s6 (σ := σ5) (r0 := some (.ref 0)) (r1 := some (.int code)) (r2 := some (.int ((2 ^ ps.length : Nat) : Int))) (r3 := some (.ref 1)) (r4 := some (.ref 2)) (r5 := some (.int t)) (x6 := some (.int c)) (x8 := x8) (x9 := x9) hlt
  have k0 : (σ5 ++ [AO.list (avS (flagList n))])[0]? = some (.list (tapeP ps)) := get_old (by rw [← hσ5]; exact get_old h0)
  have k1 : (σ5 ++ [AO.list (avS (flagList n))])[1]? = some (.list (tapeW ps)) := get_old (by rw [← hσ5]; exact get_old h1)
  have k2 : (σ5 ++ [AO.list (avS (flagList n))])[2]? = some (.list (avN T)) := get_old (by rw [← hσ5]; exact get_old h2)
  have kt : (σ5 ++ [AO.list (avS (flagList n))])[σ5.length]? = some (.list (avS (flagList n))) := get_new
  generalize hid : σ5.length = id at e6 kt
  generalize hσ6 : σ5 ++ [AO.list (avS (flagList n))] = σ6 at e6 k0 k1 k2 kt
  have e7 := tape_s7 (σ := σ6) (r0 := some (.ref 0)) (r1 := some (.int code)) (r2 := some (.int ((2 ^ ps.length : Nat) : Int))) (r4 := some (.ref 2)) (r5 := some (.int t)) (x6 := some (.int c)) (x7 := some (.int n)) (x9 := x9) k1 kt hp (by omega)
  rw [hlk] at e7
  have l0 : (σ6 ++ [AO.list (avN (lackL c 0 ps.length))])[0]? = some (.list (tapeP ps)) := get_old k0
  have l1 : (σ6 ++ [AO.list (avN (lackL c 0 ps.length))])[1]? = some (.list (tapeW ps)) := get_old k1
  have l2 : (σ6 ++ [AO.list (avN (lackL c 0 ps.length))])[2]? = some (.list (avN T)) := get_old k2
  have lL : (σ6 ++ [AO.list (avN (lackL c 0 ps.length))])[σ6.length]? = some (.list (avN (lackL c 0 ps.length))) := get_new
  generalize hid7 : σ6.length = id7 at e7 lL
  generalize hσ7 : σ6 ++ [AO.list (avN (lackL c 0 ps.length))] = σ7 at e7 l0 l1 l2 lL
  have e8 := tape_s8 (σ := σ7) (r0 := some (.ref 0)) (r1 := some (.int code)) (r2 := some (.int ((2 ^ ps.length : Nat) : Int))) (r5 := some (.int t)) (x6 := some (.int c)) (x7 := some (.int n)) (x8 := some (.ref id)) l1 l2 lL (by omega) (by rw [lackL_length]; omega) hT (lackL_sum c ps.length)
  have w0 := get_old (τ := [AO.list (avN (lackL c 0 ps.length ++ [ps.length - (lackL c 0 ps.length).sum]))]) (get_old (τ := [AO.list (avN [ps.length - (lackL c 0 ps.length).sum])]) l0)
  have w1 := get_old (τ := [AO.list (avN (lackL c 0 ps.length ++ [ps.length - (lackL c 0 ps.length).sum]))]) (get_old (τ := [AO.list (avN [ps.length - (lackL c 0 ps.length).sum])]) l1)
  have w2 := get_old (τ := [AO.list (avN (lackL c 0 ps.length ++ [ps.length - (lackL c 0 ps.length).sum]))]) (get_old (τ := [AO.list (avN [ps.length - (lackL c 0 ps.length).sum])]) l2)
  have v0 := (List.getElem?_set_ne (a := AO.list (avN (T ++ (lackL c 0 ps.length ++ [ps.length - (lackL c 0 ps.length).sum])))) (i := 2) (j := 0) (by omega)).trans w0
  have v1 := (List.getElem?_set_ne (a := AO.list (avN (T ++ (lackL c 0 ps.length ++ [ps.length - (lackL c 0 ps.length).sum])))) (i := 2) (j := 1) (by omega)).trans w1
  have v2 := List.getElem?_set_self (a := AO.list (avN (T ++ (lackL c 0 ps.length ++ [ps.length - (lackL c 0 ps.length).sum])))) (List.getElem?_eq_some_iff.mp w2).1
  generalize hσ8 : ((σ7 ++ [AO.list (avN [ps.length - (lackL c 0 ps.length).sum])]) ++ [AO.list (avN (lackL c 0 ps.length ++ [ps.length - (lackL c 0 ps.length).sum]))]).set 2 (.list (avN (T ++ (lackL c 0 ps.length ++ [ps.length - (lackL c 0 ps.length).sum])))) = σ8 at e8 v0 v1 v2
  refine ⟨some (.int c), some (.int n), some (.ref id), some (.ref id7), σ8, ?_, v0, v1, v2⟩
  unfold law_tape_b1
  rw [seq_next e4, seq_next e5, seq_next e6, seq_next e7, seq_next e8]
  rfl
theorem tape_s1 {ps : List Nat} {code k : Nat} (hk : ps.length = k) (hn : ps.Nodup) (hp : ∀ p ∈ ps, p < 32) (hl : k ≤ 5) (hc : code < 1000000) : law_tape_s1 [some (.ref 0), some (.int code), none, none, none, none, none, none, none, none] [.list (avN ps)] = some (.next, [some (.ref 0), some (.int code), some (.int ((2 ^ k : Nat) : Int)), none, none, none, none, none, none, none], [.list (avN ps)]) := by
    have l1 := lenO_list (σ := [.list (avN ps)]) (id := 0) (l := avN ps) rfl (by simp; omega)
    rw [List.length_map, hk] at l1
    have p1 : powO (.int 2) (.int k) [.list (avN ps)] = some (.int ((2 ^ k : Nat) : Int), [.list (avN ps)]) := by
      unfold powO
      dsimp only
      rw [if_pos ⟨by omega, by omega, by decide⟩, Int.toNat_natCast]
      congr 2
    simp only [law_tape_s1, asgS, binE, callE, consEs, nilEs, varE, valE, Fm.get, Fm.put, List.getD_cons_zero, List.getD_cons_succ, List.set_cons_succ, List.set_cons_zero, Option.map_some, Option.bind_some, l1, p1]
theorem tape_s2 {ps : List Nat} {code k : Nat} (hk : ps.length = k) (hn : ps.Nodup) (hp : ∀ p ∈ ps, p < 32) (hl : k ≤ 5) (hc : code < 1000000) : law_tape_s2 [some (.ref 0), some (.int code), some (.int ((2 ^ k : Nat) : Int)), none, none, none, none, none, none, none] [.list (avN ps)] =
      some (.next, [some (.ref 0), some (.int code), some (.int ((2 ^ k : Nat) : Int)), some (.ref 1), none, none, none, none, none, none], [.list (avN ps), .list (tapeW ps)]) := by
    have hy : Yields false (fun s => s = [AO.list (avN ps)]) (.list 0 0) ((avN ps).drop 0) := yields_list (fun s hs => by rw [hs]; rfl) _ 0 (Nat.add_zero _)
    rw [List.drop_zero] at hy
    have hcm := comp_pure (tt := false) (tf := nameA 0) (ts := trueT) (ef := callE op_law_word_f (consEs (varE 0) nilEs)) (σ := [AO.list (avN ps)]) (fun ρ => ∃ x, ρ = [x]) (fun a => match a with | .int p => some (.str (nameOf p.toNat)) | _ => none) _ _ 65536 [none] hy
      (by simp; omega) ⟨_, rfl⟩ (by
        rintro a ha ρ ⟨x, rfl⟩
        obtain ⟨p, hpm, rfl⟩ := List.mem_map.mp ha
        refine ⟨[some (.int p)], ⟨_, rfl⟩, rfl, .inl ⟨_, rfl, rfl, ?_⟩⟩
        simp only [callE, consEs, nilEs, varE, Fm.get, List.getD_cons_zero, Option.map_some, Option.bind_some, word_spec (hp p hpm), Int.toNat_natCast])
    have hf : (avN ps).filterMap (fun a => match a with | .int p => some (AV.str (nameOf p.toNat)) | _ => none) = tapeW ps := by
      rw [List.filterMap_map]
      clear hcm hy hp hn hk
      induction ps with
      | nil => rfl
      | cons p ps ih => rw [List.filterMap_cons, ih]; simp
    rw [hf] at hcm
    have hE : compE false 65536 [none] (seqI (varE 0)) (nameA 0) trueT (callE op_law_word_f (consEs (varE 0) nilEs)) [some (.ref 0), some (.int code), some (.int ((2 ^ k : Nat) : Int)), none, none, none, none, none, none, none] [.list (avN ps)] = some (.ref 1, [.list (avN ps), .list (tapeW ps)]) := by
      show (compGo false _ _ _ 65536 (.list 0 0) [none] [.list (avN ps)]).bind _ = _
      rw [hcm]
      rfl
    simp only [law_tape_s2, asgS, hE, Option.bind_some, Fm.put, List.set_cons_succ, List.set_cons_zero]
theorem tape_s3 {ps : List Nat} {code k : Nat} (hk : ps.length = k) (hn : ps.Nodup) (hp : ∀ p ∈ ps, p < 32) (hl : k ≤ 5) (hc : code < 1000000) : law_tape_s3 [some (.ref 0), some (.int code), some (.int ((2 ^ k : Nat) : Int)), some (.ref 1), none, none, none, none, none, none] [.list (avN ps), .list (tapeW ps)] =
      some (.next, [some (.ref 0), some (.int code), some (.int ((2 ^ k : Nat) : Int)), some (.ref 1), some (.ref 2), none, none, none, none, none], [.list (avN ps), .list (tapeW ps), .list []]) := rfl
theorem tape_loop {ps : List Nat} {code k : Nat} (hk : ps.length = k) (hn : ps.Nodup) (hp : ∀ p ∈ ps, p < 32) (hl : k ≤ 5) (hc : code < 1000000) : ∃ σ' x5 x6 x7 x8 x9, forGo false (nameA 5) law_tape_b1 skipS 65536 (.range 0 1 (2 ^ k)) [some (.ref 0), some (.int code), some (.int ((2 ^ k : Nat) : Int)), some (.ref 1), some (.ref 2), none, none, none, none, none] [.list (avN ps), .list (tapeW ps), .list []] =
      some (.next, [some (.ref 0), some (.int code), some (.int ((2 ^ k : Nat) : Int)), some (.ref 1), some (.ref 2), x5, x6, x7, x8, x9], σ') ∧ σ'[0]? = some (.list (avN ps)) ∧ σ'[1]? = some (.list (tapeW ps)) ∧ σ'[2]? = some (.list (avN (tapeL code k (2 ^ k)))) := by
  have hsz : 2 ^ k ≤ 2 ^ 5 := Nat.pow_le_pow_right (by omega) hl
  have hy : Yields false (fun _ => True) (.range 0 1 (2 ^ k)) (rngVals 0 1 (2 ^ k)) := yields_range _ _ _
  obtain ⟨ρ', σ', e4, t, ⟨x5, x6, x7, x8, x9, rfl⟩, ht, h0, h1, h2⟩ := for_run (tt := false) (P := fun _ => True) (tf := nameA 5) (bf := law_tape_b1) (ef := skipS)
    (fun as ρ σ => ∃ t, (∃ x5 x6 x7 x8 x9, ρ = [some (.ref 0), some (.int code), some (.int ((2 ^ k : Nat) : Int)), some (.ref 1), some (.ref 2), x5, x6, x7, x8, x9]) ∧ (t ≤ 2 ^ k ∧ as = rngVals (t : Nat) 1 (2 ^ k - t)) ∧ σ[0]? = some (.list (avN ps)) ∧ σ[1]? = some (.list (tapeW ps)) ∧ σ[2]? = some (.list (avN (tapeL code k t))))
    (fun _ _ _ _ => trivial) (by
      rintro a as ρ σ ⟨t, ⟨x5, x6, x7, x8, x9, rfl⟩, ⟨ht, hr⟩, h0, h1, h2⟩
      obtain ⟨m, hm⟩ : ∃ m, 2 ^ k - t = m + 1 := by
        cases hz : 2 ^ k - t with
        | zero => rw [hz] at hr; cases hr
        | succ m => exact ⟨m, rfl⟩
      rw [hm] at hr
      injection hr with ha has
      subst ha
      obtain ⟨y6, y7, y8, y9, σ', e, g0, g1, g2⟩ := tape_body (x6 := x6) (x7 := x7) (x8 := x8) (x9 := x9) (t := t) hn hp (by omega) hc (by rw [tapeL_length]; have : t * (k + 1) ≤ 32 * 6 := Nat.mul_le_mul (by omega) (by omega); omega) h0 h1 h2
      rw [hk] at e g2
      refine ⟨_, σ, _, σ', rfl, e, t + 1, ⟨_, _, _, _, _, rfl⟩, ⟨by omega, ?_⟩, g0, g1, ?_⟩
      · rw [has]
        have : 2 ^ k - (t + 1) = m := by omega
        rw [this]
        congr 1
      · rw [tapeL_succ]; exact g2)
    _ _ 65536 [some (.ref 0), some (.int code), some (.int ((2 ^ k : Nat) : Int)), some (.ref 1), some (.ref 2), none, none, none, none, none] [.list (avN ps), .list (tapeW ps), .list []] hy (by rw [rngVals_length]; omega)
    ⟨0, ⟨_, _, _, _, _, rfl⟩, ⟨Nat.zero_le _, rfl⟩, rfl, rfl, by simp [tapeL]⟩
  have htt : t = 2 ^ k := by
    have := congrArg List.length ht.2
    rw [rngVals_length] at this
    simp at this
    omega
  subst htt
  exact ⟨σ', x5, x6, x7, x8, x9, e4, h0, h1, h2⟩
theorem tape_s9 {ps : List Nat} {code k : Nat} (hk : ps.length = k) (hn : ps.Nodup) (hp : ∀ p ∈ ps, p < 32) (hl : k ≤ 5) (hc : code < 1000000) {σ' : St} {x5 x6 x7 x8 x9 : Option AV} (h2 : σ'[2]? = some (.list (avN (tapeL code k (2 ^ k))))) : law_tape_s9 [some (.ref 0), some (.int code), some (.int ((2 ^ k : Nat) : Int)), some (.ref 1), some (.ref 2), x5, x6, x7, x8, x9] σ' = some (.ret (.bytes (tapeL code k (2 ^ k))), [some (.ref 0), some (.int code), some (.int ((2 ^ k : Nat) : Int)), some (.ref 1), some (.ref 2), x5, x6, x7, x8, x9], σ')   := by
  have hsz : 2 ^ k ≤ 2 ^ 5 := Nat.pow_le_pow_right (by omega) hl
  have b1 : bytO [.ref 2] σ' = some (.bytes (tapeL code k (2 ^ k)), σ') := by
    unfold bytO
    dsimp only
    rw [h2]
    dsimp only
    rw [intsOf_avN]
    dsimp only
    rw [if_pos]
    · rw [List.map_map]
      congr 3
      exact toNat_map _
    · refine ⟨List.all_eq_true.mpr fun n hn => ?_, ?_⟩
      · obtain ⟨x, hx, rfl⟩ := List.mem_map.mp hn
        have := tapeL_le _ _ _ x hx
        simp
        omega
      · rw [List.length_map, tapeL_length]
        have : 2 ^ k * (k + 1) ≤ 32 * 6 := Nat.mul_le_mul (by omega) (by omega)
        omega
  simp only [law_tape_s9, retS, callE, consEs, nilEs, varE, Fm.get, List.getD_cons_zero, List.getD_cons_succ, Option.map_some, Option.bind_some, b1]
theorem rngIt_to {b : Nat} (hb : b ≤ 65536) : rngIt 0 (b : Int) 1 = some (.range 0 1 b) := by
  have h := rngIt_one (a := 0) (b := b) (Nat.zero_le _) hb
  rw [Nat.sub_zero] at h
  exact h
theorem rngI_to {i : Nat} {b : Nat} {ρ : Fm} {σ : St} (hb : b ≤ 65536) (h : Fm.get ρ i = some (.int b)) : rngI (rngF (consEs (varE i) nilEs)) ρ σ = some (.range 0 1 b, σ) := by
  have e : rngF (consEs (varE i) nilEs) ρ σ = some ((0, (b : Int), 1), σ) := by
    unfold rngF consEs varE
    rw [h]
    rfl
  unfold rngI
  rw [e, Option.bind_some]
  dsimp only
  rw [rngIt_to hb, Option.bind_some]
theorem pow_small {k : Nat} (hl : k ≤ 5) : 2 ^ k ≤ 65536 := by
  have hsz : 2 ^ k ≤ 2 ^ 5 := Nat.pow_le_pow_right (by omega) hl
  omega
theorem tape_for {ps : List Nat} {code k : Nat} (hk : ps.length = k) (hn : ps.Nodup) (hp : ∀ p ∈ ps, p < 32) (hl : k ≤ 5) (hc : code < 1000000) : ∃ σ' x5 x6 x7 x8 x9, forS false 65536 (nameA 5) (rngI (rngF (consEs (varE 2) nilEs))) law_tape_b1 skipS [some (.ref 0), some (.int code), some (.int ((2 ^ k : Nat) : Int)), some (.ref 1), some (.ref 2), none, none, none, none, none] [.list (avN ps), .list (tapeW ps), .list []] =
      some (.next, [some (.ref 0), some (.int code), some (.int ((2 ^ k : Nat) : Int)), some (.ref 1), some (.ref 2), x5, x6, x7, x8, x9], σ') ∧ σ'[0]? = some (.list (avN ps)) ∧ σ'[1]? = some (.list (tapeW ps)) ∧ σ'[2]? = some (.list (avN (tapeL code k (2 ^ k)))) := by
  obtain ⟨σ', x5, x6, x7, x8, x9, e4, h⟩ := tape_loop hk hn hp hl hc
  refine ⟨σ', x5, x6, x7, x8, x9, ?_, h⟩
  unfold forS
  rw [rngI_to (pow_small hl) rfl, Option.bind_some]
  exact e4
theorem tape_F {ps : List Nat} {code k : Nat} (hk : ps.length = k) (hn : ps.Nodup) (hp : ∀ p ∈ ps, p < 32) (hl : k ≤ 5) (hc : code < 1000000) : ∃ σ' ρ', law_tape_F [some (.ref 0), some (.int code), none, none, none, none, none, none, none, none] [.list (avN ps)] = some (.ret (.bytes (tapeL code k (2 ^ k))), ρ', σ') ∧ σ'[0]? = some (.list (avN ps)) := by
  obtain ⟨σ', x5, x6, x7, x8, x9, ef, h0, h1, h2⟩ := tape_for hk hn hp hl hc
  have e9 := tape_s9 (x5 := x5) (x6 := x6) (x7 := x7) (x8 := x8) (x9 := x9) hk hn hp hl hc h2
  refine ⟨σ', [some (.ref 0), some (.int code), some (.int ((2 ^ k : Nat) : Int)), some (.ref 1), some (.ref 2), x5, x6, x7, x8, x9], ?_, h0⟩
  unfold law_tape_F
  rw [seq_next (tape_s1 hk hn hp hl hc), seq_next (tape_s2 hk hn hp hl hc), seq_next (tape_s3 (code := code) hk hn hp hl hc), seq_next ef]
  exact seq_ret e9
theorem callF_of {nl : Nat} {bf : SF} {as : List AV} {σ : St} {v : AV} {ρ' : Fm} {σ' : St} {ρ : Fm} (hρ : as.map some ++ List.replicate nl none = ρ) (h : bf ρ σ = some (.ret v, ρ', σ')) : callF nl bf as σ = some (v, σ') := by
  unfold callF
  rw [hρ, h]
  rfl
theorem tape_spec {ps : List Nat} {code k : Nat} (hk : ps.length = k) (hn : ps.Nodup) (hp : ∀ p ∈ ps, p < 32) (hl : k ≤ 5) (hc : code < 1000000) : ∃ σ1, op_law_tape_2 [.ref 0, .int code] [.list (avN ps)] = some (.bytes (tapeL code k (2 ^ k)), σ1) ∧ σ1[0]? = some (.list (avN ps)) := by
  obtain ⟨σ', ρ', hF, h0⟩ := tape_F hk hn hp hl hc
  exact ⟨σ', (plain_eq (n := 2) rfl).trans (callF_of rfl hF), h0⟩
end Mine
end
section
set_option maxRecDepth 100000
namespace Mine
/-! _byteswap: each row turned about -/
theorem set_mid {α : Type} (A B : List α) (z x : α) : (A ++ z :: B).set A.length x = A ++ x :: B := by
  rw [List.set_append_right _ _ (Nat.le_refl _), Nat.sub_self]
  rfl
theorem no_pylong {a b : Int} (hb : b.natAbs < 2 ^ 30) : Builtin.divisionGoesByPylong a b = false := by
  unfold Builtin.divisionGoesByPylong
  have h : (if (b == 0) = true then 0 else b.natAbs.log2 / 30 + 1) ≤ 2 := by
    split
    · omega
    · rename_i h0
      have hn : b.natAbs ≠ 0 := fun h => h0 (by simp; omega)
      have := (Nat.log2_lt hn).mpr hb
      omega
  dsimp only
  have h2 : decide ((if (b == 0) = true then 0 else b.natAbs.log2 / 30 + 1) > 300) = false := by
    rw [decide_eq_false_iff_not]; omega
  rw [h2, Bool.false_and]
theorem range_size_w {m w : Nat} (hw : 0 < w) : Builtin.Range.rangeSize 0 ((m * w : Nat) : Int) (w : Int) = (m : Int) := by
  unfold Builtin.Range.rangeSize
  rw [if_pos (by omega)]
  cases m with
  | zero => rw [Nat.zero_mul]; rfl
  | succ m =>
    have h1 : (m + 1) * w = w * m + w := by rw [Nat.succ_mul, Nat.mul_comm]
    have hpos : 0 < (m + 1) * w := by omega
    rw [if_pos (by omega)]
    have e1 : (((m + 1) * w : Nat) : Int) - 0 - 1 = ((w * m + (w - 1) : Nat) : Int) := by omega
    rw [e1]
    have e2 : ((w * m + (w - 1) : Nat) : Int) / (w : Int) = (((w * m + (w - 1)) / w : Nat) : Int) := rfl
    rw [e2, Nat.mul_add_div hw, Nat.div_eq_of_lt (by omega)]
    omega
theorem rngIt_step {m w : Nat} (hw : 0 < w) (hw2 : w ≤ 65536) (hm : m * w ≤ 65536) : rngIt 0 ((m * w : Nat) : Int) (w : Int) = some (.range 0 w m) := by
  have hmw : m ≤ m * w := Nat.le_mul_of_pos_right m hw
  unfold rngIt
  rw [range_size_w hw, Int.toNat_natCast, if_pos]
  refine ⟨?_, by omega⟩
  unfold Builtin.Range.small
  rw [range_size_w hw]
  simp only [fits_long (i := 0) (by omega) (by omega), fits_long (i := ((m * w : Nat) : Int)) (by omega) (by omega), fits_long (i := (w : Int)) (by omega) (by omega), fits_long (i := (m : Int)) (by omega) (by omega), Bool.true_and]
  rw [if_pos (by omega), fits_long (by omega) (by omega), Bool.or_true]
theorem rngI_step {ρ : Fm} {σ : St} {f2 f3 : EF} {m w : Nat} (hw : 0 < w) (hw2 : w ≤ 65536) (hm : m * w ≤ 65536) (h2 : f2 ρ σ = some (.int ((m * w : Nat) : Int), σ)) (h3 : f3 ρ σ = some (.int w, σ)) :
    rngI (rngF (consEs (valE (.int 0)) (consEs f2 (consEs f3 nilEs)))) ρ σ = some (.range 0 w m, σ) := by
  have e : rngF (consEs (valE (.int 0)) (consEs f2 (consEs f3 nilEs))) ρ σ = some ((0, ((m * w : Nat) : Int), (w : Int)), σ) := by
    have e0 : consEs (valE (.int 0)) (consEs f2 (consEs f3 nilEs)) ρ σ = some ([.int 0, .int ((m * w : Nat) : Int), .int w], σ) := by
      simp only [consEs, valE, Option.bind_some, h2, h3, nilEs]
    unfold rngF
    rw [e0, Option.bind_some]
    dsimp only
    rw [if_pos ⟨by omega, no_pylong (by rw [Int.natAbs_natCast]; omega)⟩]
  unfold rngI
  rw [e, Option.bind_some]
  dsimp only
  rw [rngIt_step hw hw2 hm, Option.bind_some]
theorem swap_put {d : List Nat} {w base j x m : Nat} {pre R : List Nat} (hx : d[base + j]? = some x) (hx2 : x < 256) (hd : d.length ≤ 65536) (hb : pre.length = base) (hm : base + w - 1 - j = base + m) (hjw : j < w) (hl : (pre ++ (List.replicate (m + 1) 0 ++ R)).length ≤ 65536) :
    byteswap_b1 [some (.bytes d), some (.int w), some (.ref 0), some (.int base), some (.int j)] [.barr (pre ++ (List.replicate (m + 1) 0 ++ R))] =
      some (.next, [some (.bytes d), some (.int w), some (.ref 0), some (.int base), some (.int j)], [.barr (pre ++ (List.replicate m 0 ++ (x :: R)))]) := by
  have hlt := (List.getElem?_eq_some_iff.mp hx).1
  have g1 : ∀ σ : St, getO (.bytes d) (.int ((base + j : Nat) : Int)) σ = some (.int (x : Nat), σ) := fun σ => by
    unfold getO
    dsimp only
    rw [if_pos ⟨by omega, by omega, hd⟩, Int.toNat_natCast, List.getD_eq_getElem?_getD, hx]
    rfl
  have a1 : ∀ σ : St, addO (.int (base : Nat)) (.int (j : Nat)) σ = some (.int ((base + j : Nat) : Int), σ) := fun σ => rfl
  have a2 : ∀ σ : St, addO (.int (base : Nat)) (.int (w : Nat)) σ = some (.int ((base + w : Nat) : Int), σ) := fun σ => rfl
  have s1 : ∀ σ : St, subO (.int ((base + w : Nat) : Int)) (.int 1) σ = some (.int ((base + w - 1 : Nat) : Int), σ) := fun σ => by
    unfold subO
    dsimp only
    congr 3
    omega
  have s2 : ∀ σ : St, subO (.int ((base + w - 1 : Nat) : Int)) (.int (j : Nat)) σ = some (.int ((base + m : Nat) : Int), σ) := fun σ => by
    unfold subO
    dsimp only
    congr 3
    omega
  have p1 : setO (.ref 0) (.int ((base + m : Nat) : Int)) (.int (x : Nat)) [.barr (pre ++ (List.replicate (m + 1) 0 ++ R))] = some [.barr (pre ++ (List.replicate m 0 ++ (x :: R)))] := by
    have hll : base + m < (pre ++ (List.replicate (m + 1) 0 ++ R)).length := by simp; omega
    unfold setO
    dsimp only [List.getElem?_cons_zero]
    rw [if_pos ⟨by omega, by omega, hl, by omega, by omega⟩, Int.toNat_natCast, Int.toNat_natCast]
    have e1 : pre ++ (List.replicate (m + 1) 0 ++ R) = (pre ++ List.replicate m 0) ++ 0 :: R := by
      rw [List.replicate_succ', List.append_assoc, List.append_assoc]; rfl
    rw [e1]
    have e2 : base + m = (pre ++ List.replicate m 0).length := by simp; omega
    rw [e2, set_mid]
    show some [AO.barr (pre ++ List.replicate m 0 ++ x :: R)] = _
    rw [List.append_assoc]
  simp only [byteswap_b1, byteswap_s2, seqS, skipS, putS, binE, varE, valE, Fm.get, List.getD_cons_zero, List.getD_cons_succ, Option.map_some, Option.bind_some, a1, g1, a2, s1, s2, p1]
theorem swap_row {d row : List Nat} {w base : Nat} {pre suf : List Nat} {y : Option AV} (hrow : row.length = w) (hr : ∀ j, j < w → d[base + j]? = row[j]?) (h256 : ∀ x ∈ row, x < 256) (hd : d.length ≤ 65536) (hb : pre.length = base) (hw : w ≤ 65535) (hl : pre.length + w + suf.length ≤ 65536) :
    ∃ y', byteswap_b2 [some (.bytes d), some (.int w), some (.ref 0), some (.int base), y] [.barr (pre ++ (List.replicate w 0 ++ suf))] =
      some (.next, [some (.bytes d), some (.int w), some (.ref 0), some (.int base), y'], [.barr (pre ++ (row.reverse ++ suf))]) := by
  obtain ⟨ρ', σ', e, ⟨y', rfl⟩, rfl⟩ := for_range_inv (tf := nameA 4) (bf := byteswap_b1) (ef := skipS) (st := 1)
    (fun j ρ σ => (∃ y, ρ = [some (.bytes d), some (.int w), some (.ref 0), some (.int base), y]) ∧ σ = [AO.barr (pre ++ (List.replicate (w - j) 0 ++ ((row.take j).reverse ++ suf)))])
    w 0 0 65536 [some (.bytes d), some (.int w), some (.ref 0), some (.int base), y] [.barr (pre ++ (List.replicate w 0 ++ suf))] (by omega) ⟨⟨y, rfl⟩, by simp⟩ (by
      rintro j ρ σ h1 h2 ⟨⟨y, rfl⟩, rfl⟩
      rw [Nat.zero_add] at h2
      have hj : row[j]? = some row[j] := List.getElem?_eq_getElem (by omega)
      refine ⟨[some (.bytes d), some (.int w), some (.ref 0), some (.int base), some (.int j)], _, _, _, ?_, swap_put (x := row[j]) (m := w - (j + 1)) (R := (row.take j).reverse ++ suf) ((hr j h2).trans hj) (h256 _ (List.getElem_mem _)) hd hb (by omega) h2 ?_, ⟨_, rfl⟩, ?_⟩
      · have e1 : w - j = w - (j + 1) + 1 := by omega
        rw [e1]
        show some ([_, _, _, _, some (AV.int (0 + ((j - 0 : Nat) : Int) * 1))], _) = _
        have : (0 : Int) + ((j - 0 : Nat) : Int) * 1 = (j : Int) := by omega
        rw [this]
      · simp
        omega
      · have ht : row.take (j + 1) = row.take j ++ [row[j]] := by rw [List.take_add_one, hj]; rfl
        rw [ht, List.reverse_append]
        rfl)
  refine ⟨y', ?_⟩
  have ef : forS false 65536 (nameA 4) (rngI (rngF (consEs (varE 1) nilEs))) byteswap_b1 skipS [some (.bytes d), some (.int w), some (.ref 0), some (.int base), y] [.barr (pre ++ (List.replicate w 0 ++ suf))] =
      some (.next, [some (.bytes d), some (.int w), some (.ref 0), some (.int base), y'], [.barr (pre ++ (row.reverse ++ suf))]) := by
    unfold forS
    rw [rngI_to (b := w) (by omega) rfl, Option.bind_some]
    refine e.trans ?_
    rw [Nat.zero_add, Nat.sub_self, List.take_of_length_le (by omega)]
    rfl
  unfold byteswap_b2
  rw [seq_next ef]
  rfl

theorem flat_len {w : Nat} : ∀ {rows : List (List Nat)}, (∀ r ∈ rows, r.length = w) → rows.flatten.length = rows.length * w
  | [], _ => by simp
  | r :: rows, h => by
    rw [List.flatten_cons, List.length_append, h r (List.mem_cons_self ..), flat_len fun q hq => h q (List.mem_cons_of_mem _ hq), List.length_cons, Nat.succ_mul]
    omega
theorem flatten_get {w : Nat} {rows : List (List Nat)} (h : ∀ r ∈ rows, r.length = w) {a : Nat} {row : List Nat} (ha : rows[a]? = some row) {j : Nat} (hj : j < w) : rows.flatten[a * w + j]? = row[j]? := by
  induction rows generalizing a with
  | nil => simp at ha
  | cons r rows ih =>
    have hr := h r (List.mem_cons_self ..)
    cases a with
    | zero =>
      simp at ha
      subst ha
      rw [Nat.zero_mul, Nat.zero_add, List.flatten_cons, List.getElem?_append_left (by omega)]
    | succ a =>
      have ha' : rows[a]? = some row := by simpa using ha
      rw [List.flatten_cons, List.getElem?_append_right (by rw [hr, Nat.succ_mul]; omega), hr]
      have : (a + 1) * w + j - w = a * w + j := by rw [Nat.succ_mul]; omega
      rw [this]
      exact ih (fun q hq => h q (List.mem_cons_of_mem _ hq)) ha'
theorem swap_spec {w : Nat} {rows : List (List Nat)} (hw : 0 < w) (hw2 : w ≤ 65535) (h : ∀ r ∈ rows, r.length = w) (h256 : ∀ r ∈ rows, ∀ x ∈ r, x < 256) (hl : rows.length * w ≤ 65535) :
    ∃ σ', op_byteswap_2 [.bytes rows.flatten, .int w] [] = some (.bytes ((rows.map List.reverse).flatten), σ') := by
  have hfl := flat_len h
  have hrl : rows.length ≤ rows.length * w := Nat.le_mul_of_pos_right _ hw
  have l1 : ∀ σ : St, lenO [.bytes rows.flatten] σ = some (.int ((rows.length * w : Nat) : Int), σ) := fun σ => by
    unfold lenO
    dsimp only
    rw [if_pos (by omega), hfl]
  have s1 : byteswap_s1 [some (.bytes rows.flatten), some (.int w), none, none, none] [] = some (.next, [some (.bytes rows.flatten), some (.int w), some (.ref 0), none, none], [.barr (List.replicate (rows.length * w) 0)]) := by
    have b1 : baO [.int ((rows.length * w : Nat) : Int)] [] = some (.ref 0, [.barr (List.replicate (rows.length * w) 0)]) := by
      unfold baO
      dsimp only
      rw [if_pos ⟨by omega, by omega⟩, Int.toNat_natCast]
      rfl
    simp only [byteswap_s1, asgS, callE, consEs, nilEs, varE, Fm.get, Fm.put, List.getD_cons_zero, List.set_cons_succ, List.set_cons_zero, Option.map_some, Option.bind_some, l1, b1]
  obtain ⟨ρ', σ', e, ⟨y, y', rfl⟩, rfl⟩ := for_range_inv (tf := nameA 3) (bf := byteswap_b2) (ef := skipS) (st := (w : Int))
    (fun a ρ σ => (∃ y y', ρ = [some (.bytes rows.flatten), some (.int w), some (.ref 0), y, y']) ∧ σ = [AO.barr (((rows.take a).map List.reverse).flatten ++ List.replicate ((rows.length - a) * w) 0)])
    rows.length 0 0 65536 [some (.bytes rows.flatten), some (.int w), some (.ref 0), none, none] [.barr (List.replicate (rows.length * w) 0)] (by omega) ⟨⟨_, _, rfl⟩, by simp⟩ (by
      rintro a ρ σ h1 h2 ⟨⟨y, y', rfl⟩, rfl⟩
      rw [Nat.zero_add] at h2
      have hrow : rows[a]? = some rows[a] := List.getElem?_eq_getElem h2
      have hmem : rows[a] ∈ rows := List.getElem_mem _
      have hpre : (((rows.take a).map List.reverse).flatten).length = a * w := by
        rw [flat_len (w := w), List.length_map, List.length_take, Nat.min_eq_left (by omega)]
        intro r hr
        obtain ⟨q, hq, rfl⟩ := List.mem_map.mp hr
        rw [List.length_reverse]
        exact h q (List.mem_of_mem_take hq)
      have e1 : (rows.length - a) * w = w + (rows.length - (a + 1)) * w := by
        have : rows.length - a = (rows.length - (a + 1)) + 1 := by omega
        rw [this, Nat.succ_mul, Nat.add_comm]
      have e2 : a * w + w + (rows.length - (a + 1)) * w = rows.length * w := by
        have : rows.length = a + 1 + (rows.length - (a + 1)) := by omega
        conv => rhs; rw [this]
        rw [Nat.add_mul, Nat.succ_mul]
      obtain ⟨y2, eb⟩ := swap_row (d := rows.flatten) (row := rows[a]) (w := w) (base := a * w) (pre := ((rows.take a).map List.reverse).flatten) (suf := List.replicate ((rows.length - (a + 1)) * w) 0) (y := y') (h _ hmem) (fun j hj => flatten_get h hrow hj) (h256 _ hmem) (by omega) hpre hw2 (by rw [hpre, List.length_replicate]; omega)
      refine ⟨[some (.bytes rows.flatten), some (.int w), some (.ref 0), some (.int ((a * w : Nat) : Int)), y'], _, _, _, ?_, eb, ⟨_, _, rfl⟩, ?_⟩
      · rw [e1, List.replicate_append_replicate.symm]
        show some ([_, _, _, some (AV.int (0 + ((a - 0 : Nat) : Int) * (w : Int))), _], _) = _
        have : (0 : Int) + ((a - 0 : Nat) : Int) * (w : Int) = ((a * w : Nat) : Int) := by rw [Nat.sub_zero, Int.natCast_mul]; omega
        rw [this]
      · have ht : rows.take (a + 1) = rows.take a ++ [rows[a]] := by rw [List.take_add_one, hrow]; rfl
        rw [ht, List.map_append, List.flatten_append, List.append_assoc]
        simp)
  have ef : forS false 65536 (nameA 3) (rngI (rngF (consEs (valE (.int 0)) (consEs (callE lenO (consEs (varE 0) nilEs)) (consEs (varE 1) nilEs))))) byteswap_b2 skipS [some (.bytes rows.flatten), some (.int w), some (.ref 0), none, none] [.barr (List.replicate (rows.length * w) 0)] =
      some (.next, [some (.bytes rows.flatten), some (.int w), some (.ref 0), y, y'], [.barr (rows.map List.reverse).flatten]) := by
    unfold forS
    rw [rngI_step (m := rows.length) hw (by omega) (by omega) (by simp only [callE, consEs, nilEs, varE, Fm.get, List.getD_cons_zero, Option.map_some, Option.bind_some, l1]) rfl, Option.bind_some]
    refine e.trans ?_
    rw [Nat.zero_add, Nat.sub_self, Nat.zero_mul, List.take_length]
    simp [skipS]
  have e3 : byteswap_s3 [some (.bytes rows.flatten), some (.int w), some (.ref 0), y, y'] [.barr (rows.map List.reverse).flatten] =
      some (.ret (.bytes (rows.map List.reverse).flatten), [some (.bytes rows.flatten), some (.int w), some (.ref 0), y, y'], [.barr (rows.map List.reverse).flatten]) := by
    have hl2 : ((rows.map List.reverse).flatten).length = rows.length * w := by
      rw [flat_len (w := w), List.length_map]
      intro r hr
      obtain ⟨q, hq, rfl⟩ := List.mem_map.mp hr
      rw [List.length_reverse]
      exact h q hq
    have b1 : bytO [.ref 0] [.barr (rows.map List.reverse).flatten] = some (.bytes (rows.map List.reverse).flatten, [.barr (rows.map List.reverse).flatten]) := by
      unfold bytO
      dsimp only [List.getElem?_cons_zero]
      rw [if_pos (by omega)]
    simp only [byteswap_s3, retS, callE, consEs, nilEs, varE, Fm.get, List.getD_cons_zero, List.getD_cons_succ, Option.map_some, Option.bind_some, b1]
  have hF : byteswap_F [some (.bytes rows.flatten), some (.int w), none, none, none] [] = some (.ret (.bytes (rows.map List.reverse).flatten), [some (.bytes rows.flatten), some (.int w), some (.ref 0), y, y'], [.barr (rows.map List.reverse).flatten]) := by
    unfold byteswap_F
    rw [seq_next s1, seq_next ef, seq_ret e3]
  exact ⟨_, (plain_eq (n := 2) rfl).trans (callF_of rfl hF)⟩
theorem swap_f {w : Nat} {rows : List (List Nat)} (hw : 0 < w) (hw2 : w ≤ 65535) (h : ∀ r ∈ rows, r.length = w) (h256 : ∀ r ∈ rows, ∀ x ∈ r, x < 256) (hl : rows.length * w ≤ 65535) (σ : St) :
    op_byteswap_f [.bytes rows.flatten, .int w] σ = some (.bytes ((rows.map List.reverse).flatten), σ) := by
  obtain ⟨σ1, e⟩ := swap_spec hw hw2 h h256 hl
  have := frame0 (op := op_byteswap_2) (σ := σ) (as := [.bytes rows.flatten, .int w]) rfl e (adopt_none (ids := []) (σ := σ) (σ1 := σ1) (r := .bytes ((rows.map List.reverse).flatten)) rfl)
  rwa [List.append_nil] at this
end Mine
end
section
set_option maxRecDepth 100000
namespace Mine
/-! bisect_right, insort_right without a key -/
/-- the place: ahead of it no item lies above x, from it on every one -/
structure Place (σ : St) (xs : List AV) (x : AV) (pos : Nat) : Prop where
  le : pos ≤ xs.length
  lo : ∀ (i : Nat) a, xs[i]? = some a → i < pos → ltO x a σ = some (.bool false, σ)
  hi : ∀ (i : Nat) a, xs[i]? = some a → pos ≤ i → ltO x a σ = some (.bool true, σ)
theorem getO_list {σ : St} {id : Nat} {xs : List AV} {i : Nat} {a : AV} (h : σ[id]? = some (.list xs)) (hl : xs.length ≤ 65000) (ha : xs[i]? = some a) : getO (.ref id) (.int (i : Nat)) σ = some (a, σ) := by
  have hlt := (List.getElem?_eq_some_iff.mp ha).1
  unfold getO
  dsimp only
  rw [h]
  dsimp only
  have e : idxN (i : Nat) xs.length = some i := by
    unfold idxN
    rw [if_neg (by omega), if_pos ⟨by omega, by omega⟩, Int.toNat_natCast]
  rw [e, Option.bind_some, ha]
  rfl
theorem mid_nat (a b : Nat) (σ : St) : fdivO (.int ((a + b : Nat) : Int)) (.int 2) σ = some (.int (((a + b) / 2 : Nat) : Int), σ) := fdivO_nat (b := 2) (by omega) (by omega)
section
variable {σ : St} {id : Nat} {xs : List AV} {x : AV} {pos : Nat}
theorem bis_body {lo hi : Nat} {r4 y : Option AV} (h : σ[id]? = some (.list xs)) (hl : xs.length ≤ 65000) (P : Place σ xs x pos) (h1 : lo < hi) (h2 : hi ≤ xs.length) :
    bisect_right_b1 [some (.ref id), some x, some (.int (lo : Nat)), some (.int (hi : Nat)), r4, y] σ =
      some (.next, if (lo + hi) / 2 < pos then [some (.ref id), some x, some (.int (((lo + hi) / 2 + 1 : Nat) : Int)), some (.int (hi : Nat)), r4, some (.int (((lo + hi) / 2 : Nat) : Int))]
        else [some (.ref id), some x, some (.int (lo : Nat)), some (.int (((lo + hi) / 2 : Nat) : Int)), r4, some (.int (((lo + hi) / 2 : Nat) : Int))], σ) := by
  have a1 : addO (.int (lo : Nat)) (.int (hi : Nat)) σ = some (.int ((lo + hi : Nat) : Int), σ) := rfl
  have m1 := mid_nat lo hi σ
  have hm : (lo + hi) / 2 < xs.length := by omega
  generalize (lo + hi) / 2 = mid at *
  have ha : xs[mid]? = some xs[mid] := List.getElem?_eq_getElem hm
  have g1 := getO_list (i := mid) h hl ha
  have a2 : addO (.int (mid : Nat)) (.int 1) σ = some (.int ((mid + 1 : Nat) : Int), σ) := rfl
  by_cases hp : mid < pos
  · rw [if_pos hp]
    simp only [bisect_right_b1, bisect_right_s2, bisect_right_s3, bisect_right_s4, seqS, skipS, asgS, ifS, cmpT, binE, varE, valE, Fm.get, Fm.put, List.getD_cons_zero, List.getD_cons_succ, List.set_cons_succ, List.set_cons_zero, Option.map_some, Option.bind_some, a1, m1, g1, P.lo mid _ ha hp, a2]
    rfl
  · rw [if_neg hp]
    simp only [bisect_right_b1, bisect_right_s2, bisect_right_s3, bisect_right_s4, seqS, skipS, asgS, ifS, cmpT, binE, varE, valE, Fm.get, Fm.put, List.getD_cons_zero, List.getD_cons_succ, List.set_cons_succ, List.set_cons_zero, Option.map_some, Option.bind_some, a1, m1, g1, P.hi mid _ ha (by omega), if_true]
theorem while_true {tf : TF} {bf ef : SF} {n : Nat} {ρ ρ1 : Fm} {σ σ1 σ2 : St} (ht : tf ρ σ = some (true, σ1)) (hb : bf ρ σ1 = some (.next, ρ1, σ2)) : whileGo tf bf ef (n + 1) ρ σ = whileGo tf bf ef n ρ1 σ2 := by
  show (tf ρ σ).bind _ = _
  rw [ht, Option.bind_some]
  dsimp only
  rw [if_pos rfl, hb]
  rfl
theorem while_false {tf : TF} {bf ef : SF} {n : Nat} {ρ : Fm} {σ σ1 : St} (ht : tf ρ σ = some (false, σ1)) : whileGo tf bf ef (n + 1) ρ σ = ef ρ σ1 := by
  show (tf ρ σ).bind _ = _
  rw [ht, Option.bind_some]
  dsimp only
  rw [if_neg (by decide)]
theorem bis_test {lo hi : Nat} {r0 r1 r4 y : Option AV} : cmpT ltO (varE 2) (varE 3) [r0, r1, some (.int (lo : Nat)), some (.int (hi : Nat)), r4, y] σ = some (decide (lo < hi), σ) := by
  have : ltO (.int (lo : Nat)) (.int (hi : Nat)) σ = some (.bool (decide (lo < hi)), σ) := by
    show some (AV.bool (decide ((lo : Int) < hi)), σ) = _
    congr 3
    exact decide_eq_decide.mpr (by omega)
  simp only [cmpT, binE, varE, Fm.get, List.getD_cons_zero, List.getD_cons_succ, Option.map_some, Option.bind_some, this]
theorem bis_stop {lo hi fuel : Nat} {r4 y : Option AV} (h2 : 0 < fuel) (hlt : ¬ lo < hi) (h3 : lo ≤ pos) (h4 : pos ≤ hi) :
    whileGo (cmpT ltO (varE 2) (varE 3)) bisect_right_b1 skipS fuel [some (.ref id), some x, some (.int (lo : Nat)), some (.int (hi : Nat)), r4, y] σ = some (.next, [some (.ref id), some x, some (.int (pos : Nat)), some (.int (pos : Nat)), r4, y], σ) := by
  obtain ⟨m, rfl⟩ : ∃ m, fuel = m + 1 := ⟨fuel - 1, by omega⟩
  have ht : cmpT ltO (varE 2) (varE 3) [some (.ref id), some x, some (.int (lo : Nat)), some (.int (hi : Nat)), r4, y] σ = some (false, σ) := bis_test.trans (by rw [decide_eq_false hlt])
  rw [while_false ht]
  have e1 : lo = pos := by omega
  have e2 : hi = pos := by omega
  rw [e1, e2]
  rfl
theorem half_lo {lo hi n : Nat} (h1 : hi - lo ≤ n + 1) (hlt : lo < hi) : hi - ((lo + hi) / 2 + 1) ≤ n ∧ (lo + hi) / 2 - lo ≤ n ∧ (lo + hi) / 2 ≤ hi := by omega
theorem bis_loop {r4 : Option AV} (h : σ[id]? = some (.list xs)) (hl : xs.length ≤ 65000) (P : Place σ xs x pos) : ∀ (n lo hi fuel : Nat) (y : Option AV), hi - lo ≤ n → n < fuel → lo ≤ pos → pos ≤ hi → hi ≤ xs.length →
    ∃ y', whileGo (cmpT ltO (varE 2) (varE 3)) bisect_right_b1 skipS fuel [some (.ref id), some x, some (.int (lo : Nat)), some (.int (hi : Nat)), r4, y] σ = some (.next, [some (.ref id), some x, some (.int (pos : Nat)), some (.int (pos : Nat)), r4, y'], σ) := by
  intro n
  induction n with
  | zero => exact fun lo hi fuel y h1 h2 h3 h4 h5 => ⟨y, bis_stop h2 (by omega) h3 h4⟩
  | succ n ih =>
    intro lo hi fuel y h1 h2 h3 h4 h5
    by_cases hlt : lo < hi
    · obtain ⟨m, rfl⟩ : ∃ m, fuel = m + 1 := ⟨fuel - 1, by omega⟩
      have hb := bis_body (r4 := r4) (y := y) h hl P hlt h5
      have ht : cmpT ltO (varE 2) (varE 3) [some (.ref id), some x, some (.int (lo : Nat)), some (.int (hi : Nat)), r4, y] σ = some (true, σ) := bis_test.trans (by rw [decide_eq_true hlt])
      rw [while_true ht hb]
      obtain ⟨k1, k2, k3⟩ := half_lo h1 hlt
      by_cases hp : (lo + hi) / 2 < pos
      · rw [if_pos hp]
        exact ih ((lo + hi) / 2 + 1) hi m _ k1 (Nat.lt_of_succ_lt_succ h2) hp h4 h5
      · rw [if_neg hp]
        exact ih lo ((lo + hi) / 2) m _ k2 (Nat.lt_of_succ_lt_succ h2) h3 (Nat.le_of_not_lt hp) (Nat.le_trans k3 h5)
    · exact ⟨y, bis_stop (Nat.lt_of_le_of_lt (Nat.zero_le _) h2) hlt h3 h4⟩
theorem bisect_spec (h : σ[id]? = some (.list xs)) (hl : xs.length ≤ 65000) (P : Place σ xs x pos) : op_bisect_right_4 [.ref id, x, .int 0, .con .none] σ = some (.int (pos : Nat), σ) := by
  have l1 := lenO_list h (by omega)
  have s1 : ifS (cmpT ltO (varE 2) (valE (.int 0))) (seqS noneS skipS) skipS [some (.ref id), some x, some (.int ((0 : Nat) : Int)), some (.con .none), some (.con .none), none] σ = some (.next, [some (.ref id), some x, some (.int ((0 : Nat) : Int)), some (.con .none), some (.con .none), none], σ) := rfl
  have s2 : ifS (cmpT isO (varE 3) (valE (.con .none))) (seqS bisect_right_s1 skipS) skipS [some (.ref id), some x, some (.int ((0 : Nat) : Int)), some (.con .none), some (.con .none), none] σ =
      some (.next, [some (.ref id), some x, some (.int ((0 : Nat) : Int)), some (.int (xs.length : Nat)), some (.con .none), none], σ) := by
    have t1 : cmpT isO (varE 3) (valE (.con .none)) [some (.ref id), some x, some (.int ((0 : Nat) : Int)), some (.con .none), some (.con .none), none] σ = some (true, σ) := rfl
    simp only [ifS, t1, Option.bind_some, if_true, bisect_right_s1, seqS, skipS, asgS, callE, consEs, nilEs, varE, Fm.get, Fm.put, List.getD_cons_zero, List.set_cons_succ, List.set_cons_zero, Option.map_some, l1]
  obtain ⟨y', e⟩ := bis_loop (r4 := some (.con .none)) h hl P xs.length 0 xs.length 65536 none (by omega) (by omega) (by omega) P.le (Nat.le_refl _)
  have s3 : ifS (cmpT isO (varE 4) (valE (.con .none))) (seqS (whileGo (cmpT ltO (varE 2) (varE 3)) bisect_right_b1 skipS 65536) skipS) (seqS (whileGo (cmpT ltO (varE 2) (varE 3)) bisect_right_b2 skipS 65536) skipS) [some (.ref id), some x, some (.int ((0 : Nat) : Int)), some (.int (xs.length : Nat)), some (.con .none), none] σ =
      some (.next, [some (.ref id), some x, some (.int (pos : Nat)), some (.int (pos : Nat)), some (.con .none), y'], σ) := by
    have t1 : cmpT isO (varE 4) (valE (.con .none)) [some (.ref id), some x, some (.int ((0 : Nat) : Int)), some (.int (xs.length : Nat)), some (.con .none), none] σ = some (true, σ) := rfl
    unfold ifS
    rw [t1, Option.bind_some]
    dsimp only
    rw [if_pos rfl, seq_next e]
    rfl
  have s4 : bisect_right_s8 [some (.ref id), some x, some (.int (pos : Nat)), some (.int (pos : Nat)), some (.con .none), y'] σ = some (.ret (.int (pos : Nat)), [some (.ref id), some x, some (.int (pos : Nat)), some (.int (pos : Nat)), some (.con .none), y'], σ) := rfl
  have hF : bisect_right_F [some (.ref id), some x, some (.int ((0 : Nat) : Int)), some (.con .none), some (.con .none), none] σ = some (.ret (.int (pos : Nat)), [some (.ref id), some x, some (.int (pos : Nat)), some (.int (pos : Nat)), some (.con .none), y'], σ) := by
    unfold bisect_right_F
    rw [seq_next s1, seq_next s2, seq_next s3, seq_ret s4]
  exact callF_of (nl := 1) (as := [.ref id, x, .int 0, .con .none, .con .none]) rfl hF
theorem insO_list {x : AV} (h : σ[id]? = some (.list xs)) (hl : xs.length ≤ 65000) (hp : pos ≤ xs.length) : insO (.ref id) [.int (pos : Nat), x] σ = some (.con .none, σ.set id (.list (insL xs pos x))) := by
  unfold insO
  dsimp only
  rw [h]
  dsimp only
  rw [if_pos ⟨by omega, by omega, by omega⟩, Int.toNat_natCast]
theorem insort_spec (h : σ[id]? = some (.list xs)) (hl : xs.length ≤ 65000) (P : Place σ xs x pos) : op_insort_right_2 [.ref id, x] σ = some (.con .none, σ.set id (.list (insL xs pos x))) := by
  have s1 : ifS (cmpT isO (varE 4) (valE (.con .none))) (seqS insort_right_s1 skipS) (seqS insort_right_s2 skipS) [some (.ref id), some x, some (.int 0), some (.con .none), some (.con .none)] σ =
      some (.next, [some (.ref id), some x, some (.int (pos : Nat)), some (.con .none), some (.con .none)], σ) := by
    have t1 : cmpT isO (varE 4) (valE (.con .none)) [some (.ref id), some x, some (.int 0), some (.con .none), some (.con .none)] σ = some (true, σ) := rfl
    simp only [ifS, t1, Option.bind_some, if_true, insort_right_s1, seqS, skipS, asgS, callE, consEs, nilEs, varE, Fm.get, Fm.put, List.getD_cons_zero, List.getD_cons_succ, List.set_cons_succ, List.set_cons_zero, Option.map_some, bisect_spec h hl P]
  have s2 : insort_right_s3 [some (.ref id), some x, some (.int (pos : Nat)), some (.con .none), some (.con .none)] σ = some (.next, [some (.ref id), some x, some (.int (pos : Nat)), some (.con .none), some (.con .none)], σ.set id (.list (insL xs pos x))) := by
    have ok : okL (.ref id) σ = true := by unfold okL; dsimp only; rw [h]
    simp only [insort_right_s3, exprS, methO, consEs, nilEs, varE, Fm.get, List.getD_cons_zero, List.getD_cons_succ, Option.map_some, Option.bind_some, ok, if_true, insO_list h hl P.le]
  have hF : insort_right_F [some (.ref id), some x, some (.int 0), some (.con .none), some (.con .none)] σ = some (.next, [some (.ref id), some x, some (.int (pos : Nat)), some (.con .none), some (.con .none)], σ.set id (.list (insL xs pos x))) := by
    unfold insort_right_F
    rw [seq_next s1, seq_next s2]
    rfl
  show (insort_right_F [some (.ref id), some x, some (.int 0), some (.con .none), some (.con .none)] σ).bind _ = _
  rw [hF]
  rfl
end
end Mine
end
section
set_option maxRecDepth 100000
namespace Mine
/-! rows in order -/
noncomputable def ltR : List Nat → List Nat → Bool
  | [], [] => false
  | [], _ :: _ => true
  | _ :: _, [] => false
  | x :: xs, y :: ys => if x = y then ltR xs ys else decide (x < y)
theorem ltL_cast : ∀ (a b : List Nat), ltL (a.map fun (n : Nat) => (n : Int)) (b.map fun (n : Nat) => (n : Int)) = ltR a b
  | [], [] => rfl
  | [], _ :: _ => rfl
  | _ :: _, [] => rfl
  | x :: xs, y :: ys => by
    show (if (x : Int) = (y : Int) then ltL (xs.map _) (ys.map _) else decide ((x : Int) < y)) = if x = y then ltR xs ys else decide (x < y)
    rw [ltL_cast xs ys]
    by_cases h : x = y
    · rw [if_pos h, if_pos (by omega)]
    · rw [if_neg h, if_neg (by omega)]
      exact decide_eq_decide.mpr (by omega)
theorem ltR_irrefl : ∀ a, ltR a a = false
  | [] => rfl
  | x :: xs => by
    show (if x = x then ltR xs xs else _) = false
    rw [if_pos rfl, ltR_irrefl xs]
theorem ltR_trans : ∀ {a b c}, ltR a b = true → ltR b c = true → ltR a c = true
  | [], [], _, h, _ => by cases h
  | [], _ :: _, [], _, h => by cases h
  | [], _ :: _, _ :: _, _, _ => rfl
  | _ :: _, [], _, h, _ => by cases h
  | _ :: _, _ :: _, [], _, h => by cases h
  | x :: xs, y :: ys, z :: zs, h1, h2 => by
    have h1' : (if x = y then ltR xs ys else decide (x < y)) = true := h1
    have h2' : (if y = z then ltR ys zs else decide (y < z)) = true := h2
    show (if x = z then ltR xs zs else decide (x < z)) = true
    by_cases e1 : x = y
    · rw [if_pos e1] at h1'
      by_cases e2 : y = z
      · rw [if_pos e2] at h2'
        rw [if_pos (e1.trans e2)]
        exact ltR_trans h1' h2'
      · rw [if_neg e2] at h2'
        rw [if_neg (by omega)]
        have := of_decide_eq_true h2'
        exact decide_eq_true (by omega)
    · rw [if_neg e1] at h1'
      have a1 := of_decide_eq_true h1'
      by_cases e2 : y = z
      · rw [if_neg (by omega)]
        exact decide_eq_true (by omega)
      · rw [if_neg e2] at h2'
        have := of_decide_eq_true h2'
        rw [if_neg (by omega)]
        exact decide_eq_true (by omega)
theorem ltR_total : ∀ {a b}, ltR a b = false → ltR b a = false → a = b
  | [], [], _, _ => rfl
  | [], _ :: _, h, _ => by cases h
  | _ :: _, [], _, h => by cases h
  | x :: xs, y :: ys, h1, h2 => by
    have h1' : (if x = y then ltR xs ys else decide (x < y)) = false := h1
    have h2' : (if y = x then ltR ys xs else decide (y < x)) = false := h2
    by_cases e : x = y
    · rw [if_pos e] at h1'
      rw [if_pos e.symm] at h2'
      rw [e, ltR_total h1' h2']
    · rw [if_neg e] at h1'
      rw [if_neg (fun h => e h.symm)] at h2'
      have := of_decide_eq_false h1'
      have := of_decide_eq_false h2'
      omega
noncomputable abbrev SortedR (l : List (List Nat)) : Prop := l.Pairwise fun a b => ltR a b = true
noncomputable def insR (x : List Nat) : List (List Nat) → List (List Nat)
  | [] => [x]
  | a :: as => if ltR x a = true then x :: a :: as else a :: insR x as
noncomputable def posR (x : List Nat) : List (List Nat) → Nat
  | [] => 0
  | a :: as => if ltR x a = true then 0 else posR x as + 1
theorem mem_insR {x y : List Nat} : ∀ {l : List (List Nat)}, y ∈ insR x l ↔ y = x ∨ y ∈ l
  | [] => by simp [insR]
  | a :: as => by
    unfold insR
    split
    · simp
    · rw [List.mem_cons, mem_insR, List.mem_cons]
      constructor
      · rintro (h | h | h)
        · exact .inr (.inl h)
        · exact .inl h
        · exact .inr (.inr h)
      · rintro (h | h | h)
        · exact .inr (.inl h)
        · exact .inl h
        · exact .inr (.inr h)
theorem sorted_insR {x : List Nat} : ∀ {l : List (List Nat)}, SortedR l → x ∉ l → SortedR (insR x l)
  | [], _, _ => List.pairwise_singleton ..
  | a :: as, h, hx => by
    obtain ⟨h1, h2⟩ := List.pairwise_cons.mp h
    unfold insR
    split
    · rename_i hlt
      refine List.pairwise_cons.mpr ⟨fun b hb => ?_, h⟩
      rcases List.mem_cons.mp hb with rfl | hb
      · exact hlt
      · exact ltR_trans hlt (h1 b hb)
    · rename_i hlt
      have hlt : ltR x a = false := by simpa using hlt
      refine List.pairwise_cons.mpr ⟨fun b hb => ?_, sorted_insR h2 fun h => hx (List.mem_cons_of_mem _ h)⟩
      rcases mem_insR.mp hb with rfl | hb
      · cases hc : ltR a b with
        | true => rfl
        | false => exact absurd (ltR_total hlt hc) fun e => hx (e ▸ List.mem_cons_self ..)
      · exact h1 b hb
theorem sorted_ext : ∀ {l m : List (List Nat)}, SortedR l → SortedR m → (∀ y, y ∈ l ↔ y ∈ m) → l = m
  | [], [], _, _, _ => rfl
  | [], b :: m, _, _, h => absurd ((h b).mpr (List.mem_cons_self ..)) (by simp)
  | a :: l, [], _, _, h => absurd ((h a).mp (List.mem_cons_self ..)) (by simp)
  | a :: l, b :: m, hl, hm, h => by
    obtain ⟨h1, h2⟩ := List.pairwise_cons.mp hl
    obtain ⟨g1, g2⟩ := List.pairwise_cons.mp hm
    have hab : a = b := by
      rcases List.mem_cons.mp ((h a).mp (List.mem_cons_self ..)) with e | ha
      · exact e
      · rcases List.mem_cons.mp ((h b).mpr (List.mem_cons_self ..)) with e | hb
        · exact e.symm
        · have := ltR_trans (h1 b hb) (g1 a ha)
          rw [ltR_irrefl] at this
          cases this
    subst hab
    have notl : ∀ {x : List Nat} {t : List (List Nat)}, (∀ b ∈ t, ltR x b = true) → x ∉ t := fun hx hm => by
      have := hx _ hm
      rw [ltR_irrefl] at this
      cases this
    rw [sorted_ext h2 g2 fun y => ?_]
    constructor
    · intro hy
      rcases List.mem_cons.mp ((h y).mp (List.mem_cons_of_mem _ hy)) with rfl | h'
      · exact absurd hy (notl h1)
      · exact h'
    · intro hy
      rcases List.mem_cons.mp ((h y).mpr (List.mem_cons_of_mem _ hy)) with rfl | h'
      · exact absurd hy (notl g1)
      · exact h'
noncomputable def ordF (f : Nat → List Nat) : Nat → List (List Nat)
  | 0 => []
  | t + 1 => insR (f t) (ordF f t)
theorem ordF_spec {f : Nat → List Nat} : ∀ {t : Nat}, (∀ i j, i < t → j < t → f i = f j → i = j) → SortedR (ordF f t) ∧ ∀ y, y ∈ ordF f t ↔ ∃ i, i < t ∧ y = f i
  | 0, _ => ⟨List.Pairwise.nil, fun y => Iff.intro (fun h => by cases h) (fun ⟨i, h, _⟩ => absurd h (Nat.not_lt_zero _))⟩
  | t + 1, h => by
    obtain ⟨h1, h2⟩ := ordF_spec (t := t) fun i j hi hj e => h i j (by omega) (by omega) e
    refine ⟨sorted_insR h1 fun hm => ?_, fun y => ?_⟩
    · obtain ⟨i, hi, e⟩ := (h2 _).mp hm
      have := h t i (by omega) (by omega) e
      omega
    · show y ∈ insR (f t) (ordF f t) ↔ _
      rw [mem_insR, h2]
      constructor
      · rintro (rfl | ⟨i, hi, rfl⟩)
        · exact ⟨t, by omega, rfl⟩
        · exact ⟨i, by omega, rfl⟩
      · rintro ⟨i, hi, rfl⟩
        by_cases e : i = t
        · exact .inl (by rw [e])
        · exact .inr ⟨i, by omega, rfl⟩
theorem ordF_perm {f g : Nat → List Nat} {t : Nat} (hf : ∀ i j, i < t → j < t → f i = f j → i = j) (hg : ∀ i j, i < t → j < t → g i = g j → i = j) (h1 : ∀ i, i < t → ∃ j, j < t ∧ f i = g j) (h2 : ∀ j, j < t → ∃ i, i < t ∧ f i = g j) : ordF f t = ordF g t := by
  obtain ⟨a1, a2⟩ := ordF_spec hf
  obtain ⟨b1, b2⟩ := ordF_spec hg
  refine sorted_ext a1 b1 fun y => ?_
  rw [a2, b2]
  constructor
  · rintro ⟨i, hi, rfl⟩
    obtain ⟨j, hj, e⟩ := h1 i hi
    exact ⟨j, hj, e⟩
  · rintro ⟨j, hj, rfl⟩
    obtain ⟨i, hi, e⟩ := h2 j hj
    exact ⟨i, hi, e.symm⟩
theorem ordF_length {f : Nat → List Nat} : ∀ t, (ordF f t).length = t
  | 0 => rfl
  | t + 1 => by
    have h : ∀ (x : List Nat) (l : List (List Nat)), (insR x l).length = l.length + 1 := by
      intro x l
      induction l with
      | nil => rfl
      | cons a as ih =>
        unfold insR
        split
        · rfl
        · rw [List.length_cons, ih]; rfl
    show (insR (f t) (ordF f t)).length = t + 1
    rw [h, ordF_length t]

/-! rows as tuples -/
noncomputable abbrev tupR (r : List Nat) : AV := .tup (avN r)
theorem lt_rows (a b : List Nat) (σ : St) : ltO (tupR a) (tupR b) σ = some (.bool (ltR a b), σ) := by
  unfold ltO
  dsimp only
  rw [intsOf_avN, intsOf_avN]
  dsimp only
  rw [ltL_cast]
theorem place_rows {σ : St} {x : List Nat} : ∀ {l : List (List Nat)}, SortedR l → Place σ (l.map tupR) (tupR x) (posR x l)
  | [], _ => ⟨Nat.zero_le _, fun i a h => by simp at h, fun i a h => by simp at h⟩
  | b :: l, h => by
    obtain ⟨h1, h2⟩ := List.pairwise_cons.mp h
    have ih := place_rows (σ := σ) (x := x) h2
    by_cases hlt : ltR x b = true
    · have e : posR x (b :: l) = 0 := if_pos hlt
      rw [e]
      refine ⟨Nat.zero_le _, fun i a _ hi => absurd hi (Nat.not_lt_zero _), fun i a ha _ => ?_⟩
      obtain ⟨r, hr, rfl⟩ := List.mem_map.mp (List.mem_of_getElem? ha)
      rw [lt_rows]
      rcases List.mem_cons.mp hr with rfl | hr
      · rw [hlt]
      · rw [ltR_trans hlt (h1 r hr)]
    · have e : posR x (b :: l) = posR x l + 1 := if_neg hlt
      have hlt' : ltR x b = false := by simpa using hlt
      rw [e]
      refine ⟨by have := ih.le; simp at this ⊢; omega, fun i a ha hi => ?_, fun i a ha hi => ?_⟩
      · cases i with
        | zero =>
          simp at ha
          rw [← ha, lt_rows, hlt']
        | succ i => exact ih.lo i a (by simpa using ha) (by omega)
      · cases i with
        | zero => omega
        | succ i => exact ih.hi i a (by simpa using ha) (by omega)
theorem insL_rows {x : List Nat} : ∀ {l : List (List Nat)}, insL (l.map tupR) (posR x l) (tupR x) = (insR x l).map tupR
  | [] => rfl
  | b :: l => by
    unfold insR posR
    split
    · rfl
    · have ih := insL_rows (x := x) (l := l)
      show tupR b :: insL (l.map tupR) (posR x l) (tupR x) = tupR b :: (insR x l).map tupR
      rw [ih]
theorem insort_rows {σ : St} {id : Nat} {x : List Nat} {l : List (List Nat)} (h : σ[id]? = some (.list (l.map tupR))) (hl : l.length ≤ 65000) (hs : SortedR l) : op_insort_right_2 [.ref id, tupR x] σ = some (.con .none, σ.set id (.list ((insR x l).map tupR))) := by
  rw [insort_spec h (by simpa using hl) (place_rows hs), insL_rows]
end Mine
end
section
set_option maxRecDepth 100000
namespace Mine
/-! all sets of k flags, in order -/
theorem row_inj : ((List.range 6).all fun k => (List.range (2 ^ k)).all fun c => (List.range (2 ^ k)).all fun c' => !(rowL c k == rowL c' k) || c == c') = true := by decide +kernel
theorem turn_inj : ((List.range 6).all fun k => (List.range (2 ^ k)).all fun q => (List.range (2 ^ k)).all fun d => !(((2 * q + 1) * d) % 2 ^ k == 0) || d == 0) = true := by decide +kernel
theorem turn_sur : ((List.range 6).all fun k => (List.range (2 ^ k)).all fun q => (List.range (2 ^ k)).all fun d => (List.range (2 ^ k)).any fun t => ((2 * q + 1) * t) % 2 ^ k == d) = true := by decide +kernel
theorem rowL_inj {k c c' : Nat} (hk : k < 6) (hc : c < 2 ^ k) (hc' : c' < 2 ^ k) (h : rowL c k = rowL c' k) : c = c' := by
  have h1 := List.all_eq_true.mp (List.all_eq_true.mp (List.all_eq_true.mp row_inj k (List.mem_range.mpr hk)) c (List.mem_range.mpr hc)) c' (List.mem_range.mpr hc')
  rw [h] at h1
  simpa using h1
theorem mul_mod_right (q s t : Nat) : ((2 * q + 1) * t) % s = ((2 * (q % s) + 1) * t) % s := by
  have e : (2 * q + 1) % s = (2 * (q % s) + 1) % s := by
    rw [Nat.add_mod, Nat.mul_mod, Nat.add_mod (2 * (q % s)), Nat.mul_mod 2 (q % s), Nat.mod_mod]
  rw [Nat.mul_mod, e, ← Nat.mul_mod]
theorem choice_inj {code k t t' : Nat} (hk : k < 6) (ht : t < 2 ^ k) (ht' : t' < 2 ^ k) (h : choiceN code (2 ^ k) t = choiceN code (2 ^ k) t') : t = t' := by
  have hs : 0 < 2 ^ k := Nat.two_pow_pos k
  unfold choiceN at h
  generalize code / 2 ^ k = q at h
  have key : ∀ {a b : Nat}, a ≤ b → b < 2 ^ k → (code + (2 * q + 1) * a) % 2 ^ k = (code + (2 * q + 1) * b) % 2 ^ k → a = b := by
    intro a b hab hb he
    have h1 : ((2 * q + 1) * (b - a)) % 2 ^ k = 0 := by
      have e1 : (code + (2 * q + 1) * b) - (code + (2 * q + 1) * a) = (2 * q + 1) * (b - a) := by rw [Nat.mul_sub]; omega
      rw [← e1]
      exact Nat.sub_mod_eq_zero_of_mod_eq he.symm
    rw [mul_mod_right] at h1
    have h2 := List.all_eq_true.mp (List.all_eq_true.mp (List.all_eq_true.mp turn_inj k (List.mem_range.mpr hk)) (q % 2 ^ k) (List.mem_range.mpr (Nat.mod_lt _ hs))) (b - a) (List.mem_range.mpr (by omega))
    rw [h1] at h2
    have : b - a = 0 := by simpa using h2
    omega
  rcases Nat.le_total t t' with hle | hle
  · exact key hle ht' h
  · exact (key hle ht h.symm).symm
theorem choice_sur {code k c : Nat} (hk : k < 6) (hc : c < 2 ^ k) : ∃ t, t < 2 ^ k ∧ choiceN code (2 ^ k) t = c := by
  have hs : 0 < 2 ^ k := Nat.two_pow_pos k
  unfold choiceN
  generalize code / 2 ^ k = q
  have hd : (c + (2 ^ k - code % 2 ^ k)) % 2 ^ k < 2 ^ k := Nat.mod_lt _ hs
  have h2 := List.all_eq_true.mp (List.all_eq_true.mp (List.all_eq_true.mp turn_sur k (List.mem_range.mpr hk)) (q % 2 ^ k) (List.mem_range.mpr (Nat.mod_lt _ hs))) _ (List.mem_range.mpr hd)
  obtain ⟨t, ht, e⟩ := List.any_eq_true.mp h2
  have e := eq_of_beq e
  rw [← mul_mod_right] at e
  refine ⟨t, List.mem_range.mp ht, ?_⟩
  rw [Nat.add_mod, e]
  have hm : code % 2 ^ k < 2 ^ k := Nat.mod_lt _ hs
  generalize code % 2 ^ k = a at hm ⊢
  generalize 2 ^ k = s at *
  rw [Nat.add_mod_mod]
  have : a + (c + (s - a)) = c + s := by omega
  rw [this, Nat.add_mod_right, Nat.mod_eq_of_lt hc]
noncomputable def rowT (k c : Nat) : List Nat := (rowL c k).reverse
noncomputable def canon (k : Nat) : List (List Nat) := ordF (rowT k) (2 ^ k)
theorem order_canon {code k : Nat} (hk : k < 6) : ordF (fun t => rowT k (choiceN code (2 ^ k) t)) (2 ^ k) = canon k := by
  have hs : 0 < 2 ^ k := Nat.two_pow_pos k
  have hlt : ∀ t, choiceN code (2 ^ k) t < 2 ^ k := fun t => Nat.mod_lt _ hs
  have hr : ∀ {c c'}, c < 2 ^ k → c' < 2 ^ k → rowT k c = rowT k c' → c = c' := fun h1 h2 e => rowL_inj hk h1 h2 (List.reverse_inj.mp e)
  exact ordF_perm (fun i j hi hj e => choice_inj hk hi hj (hr (hlt _) (hlt _) e)) (fun i j hi hj e => hr hi hj e) (fun i hi => ⟨_, hlt i, rfl⟩) fun j hj => by
    obtain ⟨t, ht, e⟩ := choice_sur (code := code) hk hj
    exact ⟨t, ht, by rw [e]⟩
theorem turns_inj {code k : Nat} (hk : k < 6) : ∀ i j, i < 2 ^ k → j < 2 ^ k → rowT k (choiceN code (2 ^ k) i) = rowT k (choiceN code (2 ^ k) j) → i = j := by
  have hs : 0 < 2 ^ k := Nat.two_pow_pos k
  have hlt : ∀ t, choiceN code (2 ^ k) t < 2 ^ k := fun t => Nat.mod_lt _ hs
  exact fun i j hi hj e => choice_inj hk hi hj (rowL_inj hk (hlt _) (hlt _) (List.reverse_inj.mp e))
noncomputable def tapeRows (code k : Nat) : List (List Nat) := (List.range (2 ^ k)).map fun i => rowL (choiceN code (2 ^ k) i) k
theorem tape_rows (code k : Nat) : tapeL code k (2 ^ k) = (tapeRows code k).flatten := by
  unfold tapeL tapeRows
  rw [List.flatMap_def]
theorem flatten_cut {w : Nat} {rows : List (List Nat)} (h : ∀ r ∈ rows, r.length = w) {a : Nat} {row : List Nat} (ha : rows[a]? = some row) : (rows.flatten.drop (a * w)).take w = row := by
  induction rows generalizing a with
  | nil => simp at ha
  | cons r rows ih =>
    have hr := h r (List.mem_cons_self ..)
    cases a with
    | zero =>
      simp at ha
      subst ha
      rw [Nat.zero_mul, List.drop_zero, List.flatten_cons, List.take_append_of_le_length (by omega), List.take_of_length_le (by omega)]
    | succ a =>
      have ha' : rows[a]? = some row := by simpa using ha
      have : (a + 1) * w = r.length + a * w := by rw [Nat.succ_mul, hr]; omega
      rw [List.flatten_cons, this, ← List.drop_drop, List.drop_left]
      exact ih (fun q hq => h q (List.mem_cons_of_mem _ hq)) ha'
theorem cutL_nat {α : Type} {xs : List α} {a b : Nat} (ha : a ≤ xs.length) (hb : b ≤ xs.length) : cutL xs (some (a : Int)) (some (b : Int)) = (xs.drop a).take (b - a) := by
  have hc : ∀ {n i : Nat}, i ≤ n → clipAt n (i : Int) = i := fun {n i} h => by
    unfold clipAt
    rw [if_neg (by omega)]
    omega
  unfold cutL
  simp only [Option.elim_some, hc ha, hc hb]
theorem order_turn {ps : List Nat} {rows : List (List Nat)} {code w a : Nat} {O : List (List Nat)} {y : Option AV} {row : List Nat} (h : ∀ r ∈ rows, r.length = w) (ha : rows[a]? = some row) (hl : rows.flatten.length ≤ 65000) (hO : O.length ≤ 65000) (hs : SortedR O) :
    law_order_b1 [some (.ref 0), some (.int code), some (.int (w : Nat)), some (.bytes rows.flatten), some (.ref 1), some (.int ((a * w : Nat) : Int))] [.list (avN ps), .list (O.map tupR)] =
      some (.next, [some (.ref 0), some (.int code), some (.int (w : Nat)), some (.bytes rows.flatten), some (.ref 1), some (.int ((a * w : Nat) : Int))], [.list (avN ps), .list ((insR row O).map tupR)]) := by
  have hfl := flat_len h
  have hal : a < rows.length := (List.getElem?_eq_some_iff.mp ha).1
  have h1 : a * w + w ≤ rows.length * w := by
    have := Nat.mul_le_mul_right w (show a + 1 ≤ rows.length by omega)
    rw [Nat.succ_mul] at this
    exact this
  have c1 : ∀ σ : St, cutO (.bytes rows.flatten) (some ((a * w : Nat) : Int)) (some ((a * w + w : Nat) : Int)) σ = some (.bytes row, σ) := fun σ => by
    unfold cutO
    dsimp only
    rw [if_pos (by omega), cutL_nat (by omega) (by omega), Nat.add_sub_cancel_left, flatten_cut h ha]
  have a1 : ∀ σ : St, addO (.int ((a * w : Nat) : Int)) (.int (w : Nat)) σ = some (.int ((a * w + w : Nat) : Int), σ) := fun σ => rfl
  have hrow : row.length = w := h _ (List.mem_of_getElem? ha)
  have t1 : ∀ σ : St, tupO [.bytes row] σ = some (tupR row, σ) := fun σ => by
    unfold tupO
    dsimp only
    rw [if_pos (by rw [hrow]; rw [hfl] at hl; omega)]
  have i1 := insort_rows (σ := [.list (avN ps), .list (O.map tupR)]) (id := 1) (x := row) (l := O) rfl hO hs
  simp only [law_order_b1, law_order_s4, seqS, skipS, exprS, callE, consEs, nilEs, cutE, intPart, binE, varE, Fm.get, List.getD_cons_zero, List.getD_cons_succ, Option.map_some, Option.bind_some, a1, c1, t1, i1]
  rfl
theorem order_spec {ps : List Nat} {code k : Nat} (hk : ps.length = k) (hn : ps.Nodup) (hp : ∀ p ∈ ps, p < 32) (hl : k ≤ 5) (hc : code < 1000000) :
    ∃ σ1, op_law_order_2 [.ref 0, .int code] [.list (avN ps)] = some (.ref 1, σ1) ∧ σ1[0]? = some (.list (avN ps)) ∧ σ1[1]? = some (.list ((canon k).map tupR)) := by
  have hsz : 2 ^ k ≤ 32 := Nat.le_trans (Nat.pow_le_pow_right (by decide) hl) (by decide)
  have hrl : (tapeRows code k).length = 2 ^ k := by unfold tapeRows; rw [List.length_map, List.length_range]
  have hrw : ∀ r ∈ tapeRows code k, r.length = k + 1 := fun r hr => by
    obtain ⟨i, _, rfl⟩ := List.mem_map.mp hr
    exact rowL_length _ _
  have hr2 : ∀ r ∈ tapeRows code k, ∀ x ∈ r, x < 256 := fun r hr x hx => by
    obtain ⟨i, _, rfl⟩ := List.mem_map.mp hr
    have := rowL_le _ _ x hx
    omega
  have hmul : 2 ^ k * (k + 1) ≤ 32 * 6 := Nat.mul_le_mul hsz (by omega)
  have s1 : law_order_s1 [some (.ref 0), some (.int code), none, none, none, none] [.list (avN ps)] = some (.next, [some (.ref 0), some (.int code), some (.int ((k + 1 : Nat) : Int)), none, none, none], [.list (avN ps)]) := by
    have l1 := lenO_list (σ := [.list (avN ps)]) (id := 0) (l := avN ps) rfl (by simp; omega)
    rw [List.length_map, hk] at l1
    have a1 : ∀ σ : St, addO (.int (k : Nat)) (.int 1) σ = some (.int ((k + 1 : Nat) : Int), σ) := fun σ => rfl
    simp only [law_order_s1, asgS, binE, callE, consEs, nilEs, varE, valE, Fm.get, Fm.put, List.getD_cons_zero, List.set_cons_succ, List.set_cons_zero, Option.map_some, Option.bind_some, l1, a1]
  have t1 : op_law_tape_f [.ref 0, .int code] [.list (avN ps)] = some (.bytes (tapeRows code k).flatten, [.list (avN ps)]) := by
    obtain ⟨σ1, e, h0⟩ := tape_spec hk hn hp hl hc
    have := frame1 (op := op_law_tape_2) (pre := []) (post := [.int code]) (id := 0) (xs := avN ps) (σ := [.list (avN ps)]) rfl rfl rfl (by have := nrs_ints (ps.map fun (n : Nat) => (n : Int)); rwa [List.map_map] at this) e h0 (adopt_none (ids := [0]) (σ := [.list (avN ps)]) (σ1 := σ1) (r := .bytes (tapeL code k (2 ^ k))) rfl)
    rw [← tape_rows]
    exact this
  have s2 : law_order_s2 [some (.ref 0), some (.int code), some (.int ((k + 1 : Nat) : Int)), none, none, none] [.list (avN ps)] =
      some (.next, [some (.ref 0), some (.int code), some (.int ((k + 1 : Nat) : Int)), some (.bytes ((tapeRows code k).map List.reverse).flatten), none, none], [.list (avN ps)]) := by
    have b1 := swap_f (w := k + 1) (rows := tapeRows code k) (by omega) (by omega) hrw hr2 (by rw [hrl]; omega) [.list (avN ps)]
    simp only [law_order_s2, asgS, callE, consEs, nilEs, varE, Fm.get, Fm.put, List.getD_cons_zero, List.getD_cons_succ, List.set_cons_succ, List.set_cons_zero, Option.map_some, Option.bind_some, t1, b1]
  have s3 : law_order_s3 [some (.ref 0), some (.int code), some (.int ((k + 1 : Nat) : Int)), some (.bytes ((tapeRows code k).map List.reverse).flatten), none, none] [.list (avN ps)] =
      some (.next, [some (.ref 0), some (.int code), some (.int ((k + 1 : Nat) : Int)), some (.bytes ((tapeRows code k).map List.reverse).flatten), some (.ref 1), none], [.list (avN ps), .list []]) := rfl
  have hvw : ∀ r ∈ (tapeRows code k).map List.reverse, r.length = k + 1 := fun r hr => by
    obtain ⟨q, hq, rfl⟩ := List.mem_map.mp hr
    rw [List.length_reverse]; exact hrw q hq
  have hvl : ((tapeRows code k).map List.reverse).length = 2 ^ k := by rw [List.length_map, hrl]
  have hvf := flat_len hvw
  rw [hvl] at hvf
  have hget : ∀ t, t < 2 ^ k → ((tapeRows code k).map List.reverse)[t]? = some (rowT k (choiceN code (2 ^ k) t)) := fun t ht => by
    unfold tapeRows
    rw [List.getElem?_map, List.getElem?_map, List.getElem?_range ht]
    rfl
  generalize (tapeRows code k).map List.reverse = V at *
  obtain ⟨ρ', σ', e, ⟨y, rfl⟩, rfl⟩ := for_range_inv (tf := nameA 5) (bf := law_order_b1) (ef := skipS) (st := ((k + 1 : Nat) : Int))
    (fun t ρ σ => (∃ y, ρ = [some (.ref 0), some (.int code), some (.int ((k + 1 : Nat) : Int)), some (.bytes V.flatten), some (.ref 1), y]) ∧ σ = [AO.list (avN ps), AO.list ((ordF (fun t => rowT k (choiceN code (2 ^ k) t)) t).map tupR)])
    (2 ^ k) 0 0 65536 [some (.ref 0), some (.int code), some (.int ((k + 1 : Nat) : Int)), some (.bytes V.flatten), some (.ref 1), none] [.list (avN ps), .list []] (by omega) ⟨⟨_, rfl⟩, rfl⟩ (by
      rintro t ρ σ h1 h2 ⟨⟨y, rfl⟩, rfl⟩
      rw [Nat.zero_add] at h2
      have hso := (ordF_spec (f := fun t => rowT k (choiceN code (2 ^ k) t)) (t := t) fun i j hi hj e => turns_inj (by omega) i j (by omega) (by omega) e).1
      refine ⟨[some (.ref 0), some (.int code), some (.int ((k + 1 : Nat) : Int)), some (.bytes V.flatten), some (.ref 1), some (.int ((t * (k + 1) : Nat) : Int))], _, _, _, ?_, order_turn (ps := ps) (a := t) (y := y) (w := k + 1) (row := rowT k (choiceN code (2 ^ k) t)) hvw (hget t h2) (by rw [hvf]; omega) (by rw [ordF_length]; omega) hso, ⟨_, rfl⟩, rfl⟩
      show some ([_, _, _, _, _, some (AV.int (0 + ((t - 0 : Nat) : Int) * ((k + 1 : Nat) : Int)))], _) = _
      have : (0 : Int) + ((t - 0 : Nat) : Int) * ((k + 1 : Nat) : Int) = ((t * (k + 1) : Nat) : Int) := by rw [Nat.sub_zero, Int.natCast_mul]; omega
      rw [this])
  rw [Nat.zero_add, order_canon (by omega)] at e
  have ef : forS false 65536 (nameA 5) (rngI (rngF (consEs (valE (.int 0)) (consEs (callE lenO (consEs (varE 3) nilEs)) (consEs (varE 2) nilEs))))) law_order_b1 skipS [some (.ref 0), some (.int code), some (.int ((k + 1 : Nat) : Int)), some (.bytes V.flatten), some (.ref 1), none] [.list (avN ps), .list []] =
      some (.next, [some (.ref 0), some (.int code), some (.int ((k + 1 : Nat) : Int)), some (.bytes V.flatten), some (.ref 1), y], [.list (avN ps), .list ((canon k).map tupR)]) := by
    have l1 : ∀ σ : St, lenO [.bytes V.flatten] σ = some (.int ((2 ^ k * (k + 1) : Nat) : Int), σ) := fun σ => by
      unfold lenO
      dsimp only
      rw [if_pos (by omega), hvf]
    unfold forS
    rw [rngI_step (m := 2 ^ k) (w := k + 1) (by omega) (by omega) (by omega) (by simp only [callE, consEs, nilEs, varE, Fm.get, List.getD_cons_zero, List.getD_cons_succ, Option.map_some, Option.bind_some, l1]) rfl, Option.bind_some]
    exact e
  have s5 : law_order_s5 [some (.ref 0), some (.int code), some (.int ((k + 1 : Nat) : Int)), some (.bytes V.flatten), some (.ref 1), y] [.list (avN ps), .list ((canon k).map tupR)] = some (.ret (.ref 1), [some (.ref 0), some (.int code), some (.int ((k + 1 : Nat) : Int)), some (.bytes V.flatten), some (.ref 1), y], [.list (avN ps), .list ((canon k).map tupR)]) := rfl
  have hF : law_order_F [some (.ref 0), some (.int code), none, none, none, none] [.list (avN ps)] = some (.ret (.ref 1), [some (.ref 0), some (.int code), some (.int ((k + 1 : Nat) : Int)), some (.bytes V.flatten), some (.ref 1), y], [.list (avN ps), .list ((canon k).map tupR)]) := by
    unfold law_order_F
    rw [seq_next s1, seq_next s2, seq_next s3, seq_next ef, seq_ret s5]
  exact ⟨_, (plain_eq (n := 2) rfl).trans (callF_of rfl hF), rfl, rfl⟩
theorem nrs_rows (l : List (List Nat)) : nrs (l.map tupR) = true := by
  induction l with
  | nil => rfl
  | cons r l ih =>
    have h1 : nrs (avN r) = true := by have := nrs_ints (r.map fun (n : Nat) => (n : Int)); rwa [List.map_map] at this
    show (okVs _ (avN r) && okVs _ (l.map tupR)) = true
    rw [Bool.and_eq_true]
    exact ⟨h1, ih⟩
theorem nrs_avN (l : List Nat) : nrs (avN l) = true := by have := nrs_ints (l.map fun (n : Nat) => (n : Int)); rwa [List.map_map] at this
theorem order_f {ps : List Nat} {code k id : Nat} {σ : St} (hσ : σ[id]? = some (.list (avN ps))) (hk : ps.length = k) (hn : ps.Nodup) (hp : ∀ p ∈ ps, p < 32) (hl : k ≤ 5) (hc : code < 1000000) :
    op_law_order_f [.ref id, .int code] σ = some (.ref σ.length, σ ++ [.list ((canon k).map tupR)]) := by
  obtain ⟨σ1, e, h0, h1⟩ := order_spec hk hn hp hl hc
  exact frame1 (op := op_law_order_2) (pre := []) (post := [.int code]) (id := id) (xs := avN ps) (σ := σ) rfl rfl hσ (nrs_avN ps) e h0 (adopt_list (Nat.le_refl 1) h1 (nrs_rows _))
end Mine
end
section
set_option maxRecDepth 100000
namespace Mine
/-! _law_places: places drawn one after the other -/
theorem popO_list {σ : St} {id i : Nat} {L : List Nat} {x : Nat} (h : σ[id]? = some (.list (avN L))) (hl : L.length ≤ 65000) (hx : L[i]? = some x) : popO (.ref id) [.int (i : Nat)] σ = some (.int (x : Nat), σ.set id (.list (avN (L.eraseIdx i)))) := by
  have hlt := (List.getElem?_eq_some_iff.mp hx).1
  unfold popO
  dsimp only
  rw [h]
  dsimp only
  rw [if_pos ⟨by simp; omega, by omega, by simp; omega⟩, Int.toNat_natCast, List.getElem?_map, hx]
  show some (AV.int (x : Nat), _) = _
  congr 4
  rw [List.eraseIdx_eq_take_drop_succ, List.eraseIdx_eq_take_drop_succ]
  unfold avN
  rw [List.map_append, List.map_take, List.map_drop]
theorem appO_list {σ : St} {id : Nat} {xs : List AV} {a : AV} (h : σ[id]? = some (.list xs)) (hl : xs.length ≤ 65000) : appO (.ref id) [a] σ = some (.con .none, σ.set id (.list (xs ++ [a]))) := by
  unfold appO
  dsimp only
  rw [h]
  dsimp only
  rw [if_pos (by omega)]
structure Drawn (L P : List Nat) : Prop where
  nd : (L ++ P).Nodup
  lt : ∀ x ∈ L ++ P, x < 32
  len : L.length + P.length = 32
theorem Drawn.step {L P : List Nat} {i x : Nat} (D : Drawn L P) (hx : L[i]? = some x) : Drawn (L.eraseIdx i) (P ++ [x]) := by
  have hlt := (List.getElem?_eq_some_iff.mp hx).1
  have hperm : (L.eraseIdx i ++ (P ++ [x])).Perm (L ++ P) := by
    have e : L = L.take i ++ x :: L.drop (i + 1) := by
      have h1 := List.take_append_drop i L
      rw [List.drop_eq_getElem_cons hlt] at h1
      have h2 : L[i] = x := by
        have := List.getElem?_eq_getElem hlt
        rw [hx] at this
        exact (Option.some.inj this).symm
      rw [h2] at h1
      exact h1.symm
    rw [List.eraseIdx_eq_take_drop_succ]
    conv => rhs; rw [e]
    rw [← List.append_assoc]
    refine (List.perm_append_comm).trans ?_
    show (x :: (L.take i ++ L.drop (i + 1) ++ P)).Perm _
    rw [List.append_assoc, List.append_assoc]
    exact (List.perm_middle).symm
  refine ⟨hperm.nodup_iff.mpr D.nd, fun y hy => D.lt y (hperm.mem_iff.mp hy), ?_⟩
  have h2 := D.len
  rw [List.length_eraseIdx, if_pos hlt, List.length_append]
  simp
  omega
theorem places_turn {cs L P : List Nat} {c x : Nat} {y : Option AV} (hc : L[c % L.length]? = some x) (hl : L.length ≤ 32) (hp : P.length ≤ 32) :
    law_places_b1 [some (.ref 0), some (.ref 1), some (.ref 2), some (.int (c : Nat))] [.list (avN cs), .list (avN L), .list (avN P)] =
      some (.next, [some (.ref 0), some (.ref 1), some (.ref 2), some (.int (c : Nat))], [.list (avN cs), .list (avN (L.eraseIdx (c % L.length))), .list (avN (P ++ [x]))]) := by
  have hne : L.length ≠ 0 := by
    intro h
    have := (List.getElem?_eq_some_iff.mp hc).1
    omega
  have l1 := lenO_list (σ := [.list (avN cs), .list (avN L), .list (avN P)]) (id := 1) (l := avN L) rfl (by simp; omega)
  rw [List.length_map] at l1
  have m1 := modO_nat (a := c) (b := L.length) (σ := [.list (avN cs), .list (avN L), .list (avN P)]) hne
  have p1 := popO_list (σ := [.list (avN cs), .list (avN L), .list (avN P)]) (id := 1) (L := L) rfl (by omega) hc
  have a1 := appO_list (σ := [.list (avN cs), .list (avN (L.eraseIdx (c % L.length))), .list (avN P)]) (id := 2) (xs := avN P) (a := .int (x : Nat)) rfl (by simp; omega)
  have ok1 : okL (.ref 1) [.list (avN cs), .list (avN L), .list (avN P)] = true := rfl
  have ok2 : okL (.ref 2) [.list (avN cs), .list (avN L), .list (avN P)] = true := rfl
  have e1 : ([AO.list (avN cs), .list (avN L), .list (avN P)] : St).set 1 (.list (avN (L.eraseIdx (c % L.length)))) = [.list (avN cs), .list (avN (L.eraseIdx (c % L.length))), .list (avN P)] := rfl
  rw [e1] at p1
  simp only [law_places_b1, law_places_s2, seqS, skipS, exprS, methO, callE, consEs, nilEs, binE, varE, Fm.get, List.getD_cons_zero, List.getD_cons_succ, Option.map_some, Option.bind_some, ok1, ok2, if_true, l1, m1, p1, a1]
  simp
theorem places_spec {cs : List Nat} (hl : cs.length ≤ 5) : ∃ σ1 ps, op_law_places_1 [.ref 0] [.list (avN cs)] = some (.ref 2, σ1) ∧ σ1[0]? = some (.list (avN cs)) ∧ σ1[2]? = some (.list (avN ps)) ∧ ps.length = cs.length ∧ ps.Nodup ∧ ∀ p ∈ ps, p < 32 := by
  have s1 : law_places_s1 [some (.ref 0), none, none, none] [.list (avN cs)] = some (.next, [some (.ref 0), some (.ref 1), some (.ref 2), none], [.list (avN cs), .list (avN (List.range 32)), .list []]) := rfl
  have hy : Yields false (fun σ => σ[0]? = some (.list (avN cs))) (.list 0 0) ((avN cs).drop 0) := yields_list (fun σ h => h) _ 0 (Nat.add_zero _)
  rw [List.drop_zero] at hy
  obtain ⟨ρ', σ', e, rest, L, P, y, hr, rfl, rfl, D, hlen⟩ := for_run (tt := false) (P := fun σ => σ[0]? = some (.list (avN cs))) (tf := nameA 3) (bf := law_places_b1) (ef := skipS)
    (fun as ρ σ => ∃ rest L P y, as = avN rest ∧ ρ = [some (.ref 0), some (.ref 1), some (.ref 2), y] ∧ σ = [AO.list (avN cs), .list (avN L), .list (avN P)] ∧ Drawn L P ∧ P.length + rest.length = cs.length)
    (fun as ρ σ ⟨_, _, _, _, _, _, h, _⟩ => by rw [h]; rfl) (by
      rintro a as ρ σ ⟨rest, L, P, y, hr, rfl, rfl, D, hlen⟩
      cases rest with
      | nil => cases hr
      | cons c rest =>
        injection hr with ha has
        subst ha has
        have hL : 0 < L.length := by have := D.len; simp at hlen; omega
        have hx : L[c % L.length]? = some (L[c % L.length]'(Nat.mod_lt _ hL)) := List.getElem?_eq_getElem _
        refine ⟨[some (.ref 0), some (.ref 1), some (.ref 2), some (.int (c : Nat))], _, _, _, rfl, places_turn (y := y) hx (by have := D.len; omega) (by have := D.len; omega), rest, _, _, _, rfl, rfl, rfl, D.step hx, ?_⟩
        rw [List.length_append]
        simp at hlen ⊢
        omega)
    _ _ 65536 [some (.ref 0), some (.ref 1), some (.ref 2), none] [.list (avN cs), .list (avN (List.range 32)), .list []] hy (by simp; omega)
    ⟨cs, List.range 32, [], none, rfl, rfl, rfl, ⟨by rw [List.append_nil]; exact List.nodup_range, fun x hx => by rw [List.append_nil] at hx; exact List.mem_range.mp hx, by simp⟩, by simp⟩
  have hrest : rest = [] := by
    cases rest with
    | nil => rfl
    | cons _ _ => cases hr
  subst hrest
  have ef : forS false 65536 (nameA 3) (seqI (varE 0)) law_places_b1 skipS [some (.ref 0), some (.ref 1), some (.ref 2), none] [.list (avN cs), .list (avN (List.range 32)), .list []] =
      some (.next, [some (.ref 0), some (.ref 1), some (.ref 2), y], [.list (avN cs), .list (avN L), .list (avN P)]) := by
    unfold forS
    have hi : seqI (varE 0) [some (.ref 0), some (.ref 1), some (.ref 2), none] [.list (avN cs), .list (avN (List.range 32)), .list []] = some (.list 0 0, [.list (avN cs), .list (avN (List.range 32)), .list []]) := rfl
    rw [hi, Option.bind_some]
    exact e
  have s3 : law_places_s3 [some (.ref 0), some (.ref 1), some (.ref 2), y] [.list (avN cs), .list (avN L), .list (avN P)] = some (.ret (.ref 2), [some (.ref 0), some (.ref 1), some (.ref 2), y], [.list (avN cs), .list (avN L), .list (avN P)]) := rfl
  have hF : law_places_F [some (.ref 0), none, none, none] [.list (avN cs)] = some (.ret (.ref 2), [some (.ref 0), some (.ref 1), some (.ref 2), y], [.list (avN cs), .list (avN L), .list (avN P)]) := by
    unfold law_places_F
    rw [seq_next s1, seq_next ef, seq_ret s3]
  exact ⟨_, P, (plain_eq (n := 1) rfl).trans (callF_of rfl hF), rfl, rfl, by simpa using hlen, (List.nodup_append.mp D.nd).2.1, fun p hp => D.lt p (List.mem_append_right _ hp)⟩
theorem places_f {cs : List Nat} {id : Nat} {σ : St} (hσ : σ[id]? = some (.list (avN cs))) (hl : cs.length ≤ 5) : ∃ ps, op_law_places_f [.ref id] σ = some (.ref σ.length, σ ++ [.list (avN ps)]) ∧ ps.length = cs.length ∧ ps.Nodup ∧ ∀ p ∈ ps, p < 32 := by
  obtain ⟨σ1, ps, e, h0, h2, h3⟩ := places_spec hl
  exact ⟨ps, frame1 (op := op_law_places_1) (pre := []) (post := []) (id := id) (xs := avN cs) (σ := σ) rfl rfl hσ (nrs_avN cs) e h0 (adopt_list (show 1 ≤ 2 by omega) h2 (nrs_avN _)), h3⟩
end Mine
end
section
set_option maxRecDepth 100000
namespace Mine
/-! law 2: the tail, by reckoning; the start; both together -/
noncomputable def law_tail : SF := (seqS law_s6
  (seqS (ifS (cmpT neO (compE false 65536 [none] (seqI (varE 4)) (nameA 0) trueT (binE getO (varE 0) (unE negO (valE (.int 1))))) (varE 6)) (seqS law_s7 skipS) skipS)
  (seqS law_s8
  (seqS (ifS (cmpT neO (compE false 65536 [none, some 5] (seqI (varE 8)) (nameA 0) trueT (binE addO (valE (.int 1)) (callE op_bisect_left_2 (consEs (varE 1) (consEs (varE 0) nilEs))))) (varE 7)) (seqS law_s9 skipS) skipS)
  (seqS law_s10
  (seqS (forS true 65536 (tupA 2 (consA (nameA 10) (consA (nameA 11) nilA))) (enumI (consEs (varE 8) nilEs)) law_b1 skipS)
  (seqS (ifS (cmpT neO (compE true 65536 [none, none] (seqI (varE 9)) (tupA 2 (consA (nameA 0) (consA (nameA 1) nilA))) trueT (varE 1)) (callE op_law_twos_f (consEs (varE 6) nilEs))) (seqS law_s12 skipS) skipS)
  (seqS law_s13
  (seqS law_s14
  skipS)))))))))
theorem law_F_eq : law_F = seqS law_s1 (seqS law_s2 (seqS law_s3 (seqS law_s4 (seqS law_s5 law_tail)))) := rfl
noncomputable def fr6 (x : AV) : Fm := [some x, some (.ref 1), some (.ref 4), some (.ref 6), some (.ref 7), some (.ref 9), none, none, none, none, none, none, none]
section
variable (x : AV) (a0 a1 a2 a3 a4 a5 a8 : AO) (p q r s t : AV)
theorem tail2 : (law_tail (fr6 x) [a0, a1, a2, a3, a4, a5, .list [p, q], .list ((canon 2).map tupR), a8, .list ((canon 1).map tupR)]).map (·.1) = some (.ret (.bool true)) := by kernel_rfl
theorem tail3 : (law_tail (fr6 x) [a0, a1, a2, a3, a4, a5, .list [p, q, r], .list ((canon 3).map tupR), a8, .list ((canon 2).map tupR)]).map (·.1) = some (.ret (.bool true)) := by kernel_rfl
theorem tail4 : (law_tail (fr6 x) [a0, a1, a2, a3, a4, a5, .list [p, q, r, s], .list ((canon 4).map tupR), a8, .list ((canon 3).map tupR)]).map (·.1) = some (.ret (.bool true)) := by kernel_rfl
theorem tail5 : (law_tail (fr6 x) [a0, a1, a2, a3, a4, a5, .list [p, q, r, s, t], .list ((canon 5).map tupR), a8, .list ((canon 4).map tupR)]).map (·.1) = some (.ret (.bool true)) := by kernel_rfl
end
theorem tail_all {x : AV} {a0 a1 a2 a3 a4 a5 a8 : AO} {ps : List Nat} {k : Nat} (hk : ps.length = k) (h2 : 2 ≤ k) (h5 : k ≤ 5) :
    (law_tail (fr6 x) [a0, a1, a2, a3, a4, a5, .list (avN ps), .list ((canon k).map tupR), a8, .list ((canon (k - 1)).map tupR)]).map (·.1) = some (.ret (.bool true)) := by
  match ps, hk with
  | [p, q], hk => subst hk; exact tail2 x a0 a1 a2 a3 a4 a5 a8 _ _
  | [p, q, r], hk => subst hk; exact tail3 x a0 a1 a2 a3 a4 a5 a8 _ _ _
  | [p, q, r, s], hk => subst hk; exact tail4 x a0 a1 a2 a3 a4 a5 a8 _ _ _ _
  | [p, q, r, s, t], hk => subst hk; exact tail5 x a0 a1 a2 a3 a4 a5 a8 _ _ _ _ _
  | [], hk => simp at hk; omega
  | [_], hk => simp at hk; omega
  | _ :: _ :: _ :: _ :: _ :: _ :: _, hk => simp at hk; omega
theorem cutL_map {α β : Type} (f : α → β) (xs : List α) (lo hi : Option Int) : cutL (xs.map f) lo hi = (cutL xs lo hi).map f := by
  unfold cutL
  rw [List.length_map, List.map_take, List.map_drop]
theorem drawn_s1 {ns : List Int} (hn : ns.length ≤ 63) {ρ : Fm} (hρ : ρ.length = 11) : ∃ S d, law_s1 (some (.blist (ns.map .int)) :: none :: ρ) [] = some (.next, some (.blist (ns.map .int)) :: some (.ref 1) :: ρ, [S, .list (avN d)]) ∧ d.length ≤ 7 ∧ ∀ x ∈ d, x < 1000000 := by
  have hc : cutE (varE 0) noPart (intPart (valE (.int 7))) (some (.blist (ns.map .int)) :: none :: ρ) [] = some (.ref 0, [.list ((cutL ns none (some 7)).map .int)]) := by
    have h1 : cutO (.blist (ns.map .int)) none (some 7) [] = some (.ref 0, [.list ((cutL ns none (some 7)).map .int)]) := by
      unfold cutO
      dsimp only
      rw [if_pos (by rw [List.length_map]; omega), cutL_map]
      rfl
    simp only [cutE, noPart, intPart, varE, valE, Fm.get, List.getD_cons_zero, Option.map_some, Option.bind_some, h1]
  have hl : (cutL ns none (some 7)).length ≤ 7 := by
    unfold cutL
    rw [List.length_take]
    have : clipAt ns.length 7 ≤ 7 := by unfold clipAt; rw [if_neg (by omega)]; omega
    simp only [Option.elim_some, Option.elim_none]
    omega
  generalize cutL ns none (some 7) = ms at hc hl
  refine ⟨.list (ms.map .int), ms.map fun i => (i.fmod 1000000).toNat, ?_, by simpa using hl, fun x hx => ?_⟩
  · have hy : Yields false (fun s => s = [AO.list (ms.map .int)]) (.list 0 0) ((ms.map AV.int).drop 0) := yields_list (fun s hs => by rw [hs]; rfl) _ 0 (Nat.add_zero _)
    rw [List.drop_zero] at hy
    have hcm := comp_pure (tt := false) (tf := nameA 0) (ts := trueT) (ef := binE modO (callE intO (consEs (varE 0) nilEs)) (binE powO (valE (.int 10)) (valE (.int 6)))) (σ := [AO.list (ms.map .int)]) (fun ρ => ∃ x, ρ = [x])
      (fun a => match a with | .int i => some (.int (i.fmod 1000000)) | _ => none) _ _ 65536 [none] hy (by simp; omega) ⟨_, rfl⟩ (by
        rintro a ha ρ ⟨x, rfl⟩
        obtain ⟨i, _, rfl⟩ := List.mem_map.mp ha
        exact ⟨[some (.int i)], ⟨_, rfl⟩, rfl, .inl ⟨_, rfl, rfl, rfl⟩⟩)
    have hf : (ms.map AV.int).filterMap (fun a => match a with | .int i => some (AV.int (i.fmod 1000000)) | _ => none) = avN (ms.map fun i => (i.fmod 1000000).toNat) := by
      clear hcm hy hl hc
      induction ms with
      | nil => rfl
      | cons i ms ih =>
        show AV.int (i.fmod 1000000) :: List.filterMap _ (ms.map AV.int) = AV.int ((i.fmod 1000000).toNat : Nat) :: avN (ms.map _)
        rw [ih]
        congr 2
        have : 0 ≤ i.fmod 1000000 := Int.fmod_nonneg_of_pos i (by omega)
        omega
    rw [hf] at hcm
    have hE : compE false 65536 [none] (seqI (cutE (varE 0) noPart (intPart (valE (.int 7))))) (nameA 0) trueT (binE modO (callE intO (consEs (varE 0) nilEs)) (binE powO (valE (.int 10)) (valE (.int 6)))) (some (.blist (ns.map .int)) :: none :: ρ) [] =
        some (.ref 1, [.list (ms.map .int), .list (avN (ms.map fun i => (i.fmod 1000000).toNat))]) := by
      have hi : seqI (cutE (varE 0) noPart (intPart (valE (.int 7)))) (some (.blist (ns.map .int)) :: none :: ρ) [] = some (.list 0 0, [.list (ms.map .int)]) := by
        unfold seqI
        rw [hc, Option.bind_some]
        rfl
      unfold compE
      rw [hi, Option.bind_some]
      show (compGo false _ _ _ 65536 (.list 0 0) [none] [.list (ms.map .int)]).bind _ = _
      rw [hcm]
      rfl
    unfold law_s1 asgS
    rw [hE]
    rfl
  · obtain ⟨i, _, rfl⟩ := List.mem_map.mp hx
    have h1 : 0 ≤ i.fmod 1000000 := Int.fmod_nonneg_of_pos i (by omega)
    have h2 : i.fmod 1000000 < 1000000 := Int.fmod_lt_of_pos i (by omega)
    omega
noncomputable def dfl2 : List Nat := [2, 5, 3, 0, 9, 1, 20]
theorem cells_s2 {S : AO} {d : List Nat} {x : Option AV} {ρ : Fm} (hd : d.length ≤ 7) : law_s2 (x :: some (.ref 1) :: none :: ρ) [S, .list (avN d)] =
    some (.next, x :: some (.ref 1) :: some (.ref 4) :: ρ, [S, .list (avN d), .list (avN dfl2), .list (avN (dfl2.drop d.length)), .list (avN (d ++ dfl2.drop d.length))]) := by
  have l1 : lenO [.ref 1] [S, .list (avN d), .list (avN dfl2)] = some (.int (d.length : Nat), [S, .list (avN d), .list (avN dfl2)]) := by
    have := lenO_list (σ := [S, .list (avN d), .list (avN dfl2)]) (id := 1) (l := avN d) rfl (by simp; omega)
    rwa [List.length_map] at this
  have n1 : lstE (consEs (valE (.int 2)) (consEs (valE (.int 5)) (consEs (valE (.int 3)) (consEs (valE (.int 0)) (consEs (valE (.int 9)) (consEs (valE (.int 1)) (consEs (valE (.int 20)) nilEs))))))) (x :: some (.ref 1) :: none :: ρ) [S, .list (avN d)] = some (.ref 2, [S, .list (avN d), .list (avN dfl2)]) := rfl
  have c1 : cutO (.ref 2) (some (d.length : Nat)) none [S, .list (avN d), .list (avN dfl2)] = some (.ref 3, [S, .list (avN d), .list (avN dfl2), .list (avN (dfl2.drop d.length))]) := by
    have e : cutL dfl2 (some (d.length : Nat)) none = dfl2.drop d.length := by
      unfold cutL
      have : clipAt dfl2.length (d.length : Nat) = d.length := by
        unfold clipAt
        have : dfl2.length = 7 := rfl
        rw [if_neg (by omega)]
        omega
      simp only [Option.elim_some, Option.elim_none, this]
      rw [List.take_of_length_le (by simp)]
    show some (AV.ref 3, [S, .list (avN d), .list (avN dfl2), AO.list (cutL (avN dfl2) (some (d.length : Nat)) none)]) = _
    unfold avN
    rw [cutL_map, e]
  have a1 : addO (.ref 1) (.ref 3) [S, .list (avN d), .list (avN dfl2), .list (avN (dfl2.drop d.length))] = some (.ref 4, [S, .list (avN d), .list (avN dfl2), .list (avN (dfl2.drop d.length)), .list (avN (d ++ dfl2.drop d.length))]) := by
    show newL (avN d ++ avN (dfl2.drop d.length)) _ = _
    unfold newL
    have : dfl2.length = 7 := rfl
    rw [if_pos (by simp; omega)]
    unfold avN
    rw [List.map_append]
    rfl
  simp only [law_s2, asgS, binE, cutE, noPart, intPart, n1, callE, consEs, nilEs, varE, Fm.get, Fm.put, List.getD_cons_zero, List.getD_cons_succ, List.set_cons_succ, List.set_cons_zero, Option.map_some, Option.bind_some, l1, c1, a1]
theorem law_plain (ns : List Int) (hn : ns.length ≤ 63) : ∃ σ', op_law_1 [.blist (ns.map .int)] [] = some (.bool true, σ') := by
  obtain ⟨S, d, e1, hd, hd2⟩ := drawn_s1 hn (ρ := List.replicate 11 none) rfl
  have e2 := cells_s2 (S := S) (d := d) (x := some (.blist (ns.map .int))) (ρ := List.replicate 10 none) hd
  have hc7 : (d ++ dfl2.drop d.length).length = 7 := by
    have : dfl2.length = 7 := rfl
    simp
    omega
  have hcl : ∀ x ∈ d ++ dfl2.drop d.length, x < 1000000 := fun x hx => by
    rcases List.mem_append.mp hx with h | h
    · exact hd2 x h
    · have : ∀ y ∈ dfl2, y < 1000000 := by decide
      exact this x (List.mem_of_mem_drop h)
  generalize d ++ dfl2.drop d.length = cells at e2 hc7 hcl
  obtain ⟨c0, c1, c2, c3, c4, c5, c6, rfl⟩ : ∃ c0 c1 c2 c3 c4 c5 c6, cells = [c0, c1, c2, c3, c4, c5, c6] := by
    match cells, hc7 with
    | [c0, c1, c2, c3, c4, c5, c6], _ => exact ⟨c0, c1, c2, c3, c4, c5, c6, rfl⟩
  have hm : c0 % 4 < 4 := Nat.mod_lt _ (by omega)
  -- the places
  have e3 : ∃ ps, law_s3 [some (.blist (ns.map .int)), some (.ref 1), some (.ref 4), none, none, none, none, none, none, none, none, none, none] [S, .list (avN d), .list (avN dfl2), .list (avN (dfl2.drop d.length)), .list (avN [c0, c1, c2, c3, c4, c5, c6])] =
      some (.next, [some (.blist (ns.map .int)), some (.ref 1), some (.ref 4), some (.ref 6), none, none, none, none, none, none, none, none, none], [S, .list (avN d), .list (avN dfl2), .list (avN (dfl2.drop d.length)), .list (avN [c0, c1, c2, c3, c4, c5, c6]), .list (avN (([c0, c1, c2, c3, c4, c5, c6].drop 2).take (2 + c0 % 4))), .list (avN ps)]) ∧
      ps.length = 2 + c0 % 4 ∧ ps.Nodup ∧ ∀ p ∈ ps, p < 32 := by
    generalize AO.list (avN d) = A1
    generalize AO.list (avN dfl2) = A2
    generalize AO.list (avN (dfl2.drop d.length)) = A3
    have g1 : getO (.ref 4) (.int 0) [S, A1, A2, A3, .list (avN [c0, c1, c2, c3, c4, c5, c6])] = some (.int (c0 : Nat), [S, A1, A2, A3, .list (avN [c0, c1, c2, c3, c4, c5, c6])]) := rfl
    have m1 := modO_nat (a := c0) (b := 4) (σ := [S, A1, A2, A3, .list (avN [c0, c1, c2, c3, c4, c5, c6])]) (by omega)
    have m1' : modO (.int (c0 : Nat)) (.int 4) [S, A1, A2, A3, .list (avN [c0, c1, c2, c3, c4, c5, c6])] = some (.int ((c0 % 4 : Nat) : Int), [S, A1, A2, A3, .list (avN [c0, c1, c2, c3, c4, c5, c6])]) := m1
    have a1 : addO (.int 4) (.int ((c0 % 4 : Nat) : Int)) [S, A1, A2, A3, .list (avN [c0, c1, c2, c3, c4, c5, c6])] = some (.int ((4 + c0 % 4 : Nat) : Int), [S, A1, A2, A3, .list (avN [c0, c1, c2, c3, c4, c5, c6])]) := rfl
    have k1 : cutO (.ref 4) (some 2) (some ((4 + c0 % 4 : Nat) : Int)) [S, A1, A2, A3, .list (avN [c0, c1, c2, c3, c4, c5, c6])] = some (.ref 5, [S, A1, A2, A3, .list (avN [c0, c1, c2, c3, c4, c5, c6]), .list (avN (([c0, c1, c2, c3, c4, c5, c6].drop 2).take (2 + c0 % 4)))]) := by
      have h := cutL_nat (xs := [c0, c1, c2, c3, c4, c5, c6]) (a := 2) (b := 4 + c0 % 4) (by simp) (by simp; omega)
      have e : 4 + c0 % 4 - 2 = 2 + c0 % 4 := by omega
      rw [e] at h
      show some (AV.ref 5, [S, A1, A2, A3, .list (avN [c0, c1, c2, c3, c4, c5, c6]), AO.list (cutL (List.map (fun (n : Nat) => AV.int (n : Int)) [c0, c1, c2, c3, c4, c5, c6]) (some ((2 : Nat) : Int)) (some ((4 + c0 % 4 : Nat) : Int)))]) = _
      rw [cutL_map, h]
    have hcs : (([c0, c1, c2, c3, c4, c5, c6].drop 2).take (2 + c0 % 4)).length = 2 + c0 % 4 := by simp; omega
    generalize ([c0, c1, c2, c3, c4, c5, c6].drop 2).take (2 + c0 % 4) = cs at k1 hcs ⊢
    obtain ⟨ps, ep, h1, h2, h3⟩ := places_f (σ := [S, A1, A2, A3, .list (avN [c0, c1, c2, c3, c4, c5, c6]), .list (avN cs)]) (id := 5) (cs := cs) rfl (by omega)
    have ep' : op_law_places_f [.ref 5] [S, A1, A2, A3, .list (avN [c0, c1, c2, c3, c4, c5, c6]), .list (avN cs)] = some (.ref 6, [S, A1, A2, A3, .list (avN [c0, c1, c2, c3, c4, c5, c6]), .list (avN cs), .list (avN ps)]) := ep
    refine ⟨ps, ?_, by omega, h2, h3⟩
    simp only [law_s3, asgS, callE, consEs, nilEs, cutE, intPart, binE, varE, valE, Fm.get, Fm.put, List.getD_cons_zero, List.getD_cons_succ, List.set_cons_succ, List.set_cons_zero, Option.map_some, Option.bind_some, g1, m1', a1, k1, ep']
  obtain ⟨ps, e3, hps, hnd, hlt⟩ := e3
  have hc1 : c1 < 1000000 := hcl c1 (by simp)
  generalize hk : 2 + c0 % 4 = k at *
  have hk5 : k ≤ 5 := by omega
  have hk2 : 2 ≤ k := by omega
  generalize AO.list (avN (([c0, c1, c2, c3, c4, c5, c6].drop 2).take k)) = A5 at e3
  have e4 : law_s4 [some (.blist (ns.map .int)), some (.ref 1), some (.ref 4), some (.ref 6), none, none, none, none, none, none, none, none, none] [S, .list (avN d), .list (avN dfl2), .list (avN (dfl2.drop d.length)), .list (avN [c0, c1, c2, c3, c4, c5, c6]), A5, .list (avN ps)] =
      some (.next, [some (.blist (ns.map .int)), some (.ref 1), some (.ref 4), some (.ref 6), some (.ref 7), none, none, none, none, none, none, none, none], [S, .list (avN d), .list (avN dfl2), .list (avN (dfl2.drop d.length)), .list (avN [c0, c1, c2, c3, c4, c5, c6]), A5, .list (avN ps), .list ((canon k).map tupR)]) := by
    generalize AO.list (avN d) = A1
    generalize AO.list (avN dfl2) = A2
    generalize AO.list (avN (dfl2.drop d.length)) = A3
    have g1 : getO (.ref 4) (.int 1) [S, A1, A2, A3, .list (avN [c0, c1, c2, c3, c4, c5, c6]), A5, .list (avN ps)] = some (.int (c1 : Nat), [S, A1, A2, A3, .list (avN [c0, c1, c2, c3, c4, c5, c6]), A5, .list (avN ps)]) := rfl
    have o1 := order_f (σ := [S, A1, A2, A3, .list (avN [c0, c1, c2, c3, c4, c5, c6]), A5, .list (avN ps)]) (id := 6) (code := c1) (k := k) rfl hps hnd hlt hk5 hc1
    have o1' : op_law_order_f [.ref 6, .int (c1 : Nat)] [S, A1, A2, A3, .list (avN [c0, c1, c2, c3, c4, c5, c6]), A5, .list (avN ps)] = some (.ref 7, [S, A1, A2, A3, .list (avN [c0, c1, c2, c3, c4, c5, c6]), A5, .list (avN ps), .list ((canon k).map tupR)]) := o1
    simp only [law_s4, asgS, callE, consEs, nilEs, binE, varE, valE, Fm.get, Fm.put, List.getD_cons_zero, List.getD_cons_succ, List.set_cons_succ, List.set_cons_zero, Option.map_some, Option.bind_some, g1, o1']
  have e5 : law_s5 [some (.blist (ns.map .int)), some (.ref 1), some (.ref 4), some (.ref 6), some (.ref 7), none, none, none, none, none, none, none, none] [S, .list (avN d), .list (avN dfl2), .list (avN (dfl2.drop d.length)), .list (avN [c0, c1, c2, c3, c4, c5, c6]), A5, .list (avN ps), .list ((canon k).map tupR)] =
      some (.next, fr6 (.blist (ns.map .int)), [S, .list (avN d), .list (avN dfl2), .list (avN (dfl2.drop d.length)), .list (avN [c0, c1, c2, c3, c4, c5, c6]), A5, .list (avN ps), .list ((canon k).map tupR), .list (avN (ps.drop 1)), .list ((canon (k - 1)).map tupR)]) := by
    generalize AO.list (avN d) = A1
    generalize AO.list (avN dfl2) = A2
    generalize AO.list (avN (dfl2.drop d.length)) = A3
    generalize AO.list ((canon k).map tupR) = A7
    have g1 : getO (.ref 4) (.int 1) [S, A1, A2, A3, .list (avN [c0, c1, c2, c3, c4, c5, c6]), A5, .list (avN ps), A7, .list (avN (ps.drop 1))] = some (.int (c1 : Nat), [S, A1, A2, A3, .list (avN [c0, c1, c2, c3, c4, c5, c6]), A5, .list (avN ps), A7, .list (avN (ps.drop 1))]) := rfl
    have k1 : cutO (.ref 6) (some 1) none [S, A1, A2, A3, .list (avN [c0, c1, c2, c3, c4, c5, c6]), A5, .list (avN ps), A7] = some (.ref 8, [S, A1, A2, A3, .list (avN [c0, c1, c2, c3, c4, c5, c6]), A5, .list (avN ps), A7, .list (avN (ps.drop 1))]) := by
      have h : cutL ps (some ((1 : Nat) : Int)) none = ps.drop 1 := by
        unfold cutL
        have : clipAt ps.length ((1 : Nat) : Int) = 1 := by
          unfold clipAt
          rw [if_neg (by omega)]
          omega
        simp only [Option.elim_some, Option.elim_none, this]
        rw [List.take_of_length_le (by simp)]
      unfold cutO
      dsimp only [List.getElem?_cons_succ, List.getElem?_cons_zero]
      rw [if_pos (by simp; omega)]
      show some (AV.ref 8, [S, A1, A2, A3, .list (avN [c0, c1, c2, c3, c4, c5, c6]), A5, .list (avN ps), A7, AO.list (cutL (List.map (fun (n : Nat) => AV.int (n : Int)) ps) (some ((1 : Nat) : Int)) none)]) = _
      rw [cutL_map, h]
    have o1 := order_f (σ := [S, A1, A2, A3, .list (avN [c0, c1, c2, c3, c4, c5, c6]), A5, .list (avN ps), A7, .list (avN (ps.drop 1))]) (id := 8) (code := c1) (k := k - 1) (ps := ps.drop 1) rfl (by rw [List.length_drop]; omega) (List.Nodup.sublist (List.drop_sublist 1 ps) hnd) (fun p hp => hlt p (List.mem_of_mem_drop hp)) (by omega) hc1
    have o1' : op_law_order_f [.ref 8, .int (c1 : Nat)] [S, A1, A2, A3, .list (avN [c0, c1, c2, c3, c4, c5, c6]), A5, .list (avN ps), A7, .list (avN (ps.drop 1))] = some (.ref 9, [S, A1, A2, A3, .list (avN [c0, c1, c2, c3, c4, c5, c6]), A5, .list (avN ps), A7, .list (avN (ps.drop 1)), .list ((canon (k - 1)).map tupR)]) := o1
    simp only [law_s5, asgS, callE, consEs, nilEs, cutE, noPart, intPart, binE, varE, valE, Fm.get, Fm.put, List.getD_cons_zero, List.getD_cons_succ, List.set_cons_succ, List.set_cons_zero, Option.map_some, Option.bind_some, k1, g1, o1']
    rfl
  have hT := tail_all (x := .blist (ns.map .int)) (a0 := S) (a1 := .list (avN d)) (a2 := .list (avN dfl2)) (a3 := .list (avN (dfl2.drop d.length))) (a4 := .list (avN [c0, c1, c2, c3, c4, c5, c6])) (a5 := A5) (a8 := .list (avN (ps.drop 1))) hps hk2 hk5
  obtain ⟨q, hq, hq1⟩ := Option.map_eq_some_iff.mp hT
  obtain ⟨fl, ρ', σ'⟩ := q
  have hq1 : fl = .ret (.bool true) := hq1
  subst hq1
  have hF : law_F [some (.blist (ns.map .int)), none, none, none, none, none, none, none, none, none, none, none, none] [] = some (.ret (.bool true), ρ', σ') := by
    rw [law_F_eq]
    refine (seq_next e1).trans ((seq_next e2).trans ((seq_next e3).trans ((seq_next e4).trans ((seq_next e5).trans hq))))
  exact ⟨σ', (plain_eq (n := 1) rfl).trans (callF_of rfl hF)⟩
end Mine
end
section
namespace Mine
theorem law_holds : PySem.Challenge.rw_wf0025_02.Holds := holds_of law_plain
end Mine
end
theorem PySem.Challenge.cw_wf0025_02_holds : PySem.Challenge.rw_wf0025_02.Holds := by
  exact Mine.law_holds
